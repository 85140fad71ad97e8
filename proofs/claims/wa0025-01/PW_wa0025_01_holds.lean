import PyProof.Rows.All
import Wide.All
import OpenK.AllK
import Wide.FinOn
import PyProof.ExcAttrAll.Exception
import PySem.Challenge.RW_wa0025_01
set_option Elab.async false
set_option compiler.extract_closed false
set_option maxRecDepth 100000
set_option linter.all false
set_option genSizeOf false
set_option genInjectivity false
set_option bootstrap.genMatcherCode false
local macro_rules | `(tactic| omega) => `(tactic| first | (kjx_bare; omega (config := {})) | ((fail_if_success (fail_if_success omega (config := {}))); first | (law_clear; lia) | lia | omega (config := {})))
section
namespace Mine
theorem hide {G : Prop} (h : ∀ P : Prop, (G → P) → P) : G := h G id
@[elab_as_elim] theorem gen1 {α : Sort u} {motive : α → Prop} (a : α) (h : ∀ x, a = x → motive x) : motive a := h a rfl
@[elab_as_elim] theorem gen0 {α : Sort u} {motive : α → Prop} (a : α) (h : ∀ x, motive x) : motive a := h a
theorem sub_nil {α : Type} {l : List α} : ∀ q ∈ ([] : List α), q ∈ l := fun _ h => absurd h List.not_mem_nil
theorem sub_cons {α : Type} {x : α} {l r : List α} (h : x ∈ r) (t : ∀ q ∈ l, q ∈ r) : ∀ q ∈ x :: l, q ∈ r := fun q hq => (List.mem_cons.mp hq).elim (fun e => e ▸ h) (t q)
theorem sub_app {α : Type} {a l r : List α} (h : ∀ q ∈ a, q ∈ r) (t : ∀ q ∈ l, q ∈ r) : ∀ q ∈ a ++ l, q ∈ r := fun q hq => (List.mem_append.mp hq).elim (h q) (t q)
end Mine
end
section
open PySem PySem.W PyProof.Rows
set_option Elab.async false
set_option maxRecDepth 100000
set_option maxHeartbeats 8000000
namespace Mine
noncomputable def runT (p : Program) (w : World) (n₀ : Nat) (ann : Option Value) : Nat → SharedT → Thread → Option SharedT
  | 0, _, _ => none
  | n + 1, s, t => match through t with
    | true => some s
    | false => match PySem.W.Fast.tw6613529449190102663 n₀ ann t with
      | false => none
      | true => match PySem.W.Fast.tw10156331382660048174 (PySem.W.Fast.tw11892475500146522536 PySem.W.Fast.tw14364793385576792824) p w s t with
        | some (s', t') => runT p w n₀ ann n s' t'
        | none => none
theorem runT_of {p : Program} {w : World} {n₀ : Nat} {ann : Option Value} : ∀ {n : Nat} {s s' : SharedT} {t : Thread}, runT p w n₀ ann n s t = some s' → topRun PySem.treeTable p w n₀ ann n s.abs t = some s'.abs
  | 0, _, _, _, h => by simp [runT] at h
  | n + 1, s, s', t, h => by
    unfold runT at h
    rw [← PySem.W.Fast.te6613529449190102663, ← PySem.W.Fast.te10156331382660048174, ← PySem.W.Fast.te11892475500146522536, ← PySem.W.Fast.te14364793385576792824] at h
    unfold topRun
    cases h1 : through t with
    | true => rw [h1] at h; cases h; rfl
    | false =>
      rw [h1] at h
      cases h2 : stepOk n₀ ann t with
      | false => rw [h2] at h; cases h
      | true =>
        rw [h2] at h
        cases h3 : stepT (PySem.denote PySem.treeTable) p w s t with
        | none => rw [h3] at h; cases h
        | some x =>
          obtain ⟨s2, t2⟩ := x
          rw [h3] at h
          rw [stepT_spec h3]
          exact runT_of h
noncomputable def fill : List Obj → BT → Nat → Option BT
  | [], t, _ => some t
  | o :: l, t, n => match ((t.ins n o).get n).isSome with
    | true => fill l (t.ins n o) (n + 1)
    | false => none
theorem fill_of {life : Life} : ∀ {l : List Obj} {t t' : BT} {n : Nat}, fill l t n = some t' → absHeap t' (n + l.length) life = ⟨((t.list n) ++ l).toArray, life⟩
  | [], t, t', n, h => by
    cases h
    rw [List.append_nil]; rfl
  | o :: l, t, t', n, h => by
    unfold fill at h
    cases g : ((t.ins n o).get n).isSome with
    | false => rw [g] at h; cases h
    | true =>
      rw [g] at h
      have e := fill_of (life := life) h
      have e2 := absHeap_ins (life := life) g
      rw [List.length_cons, show n + (l.length + 1) = n + 1 + l.length by omega, e]
      have e3 : (t.ins n o).list (n + 1) = t.list n ++ [o] := by
        have := congrArg (fun h => h.objs.toList) e2
        simpa [absHeap, Heap.push] using this
      rw [e3, List.append_assoc]; rfl
noncomputable def topT (p : Program) (w : World) (N n₀ a₀ : Nat) : Option (Shared × SharedT) :=
  ((PySem.W.Fast.tw10274390034422433532 PySem.W.Fast.tw14364793385576792824 (opening p) w N (start (opening p)).1 (start (opening p)).2).bind (fenceModules? p)).bind fun s0 =>
   match Nat.beq s0.heap.objs.size n₀ && (s0.heap.isNs mainGlobals && s0.gens.size == 0) with
   | false => none
   | true => match s0.heap.nsMap mainGlobals "__annotations__" with
     | some (.ref a) => match Nat.beq a a₀ with
       | false => none
       | true => match fill s0.heap.objs.toList .nil 0 with
         | none => none
         | some T => (runT p w n₀ (some (.ref a₀)) N ⟨T, n₀, s0.heap.life, s0.gens, s0.drawn, s0.toks, s0.os⟩ (topStub p)).map fun s1 => (s0, s1)
     | _ => none
theorem topT_of {p : Program} {w : World} {N n₀ a₀ : Nat} {x : Shared × SharedT} (h : topT p w N n₀ a₀ = some x) : ∃ s0 n₁ ann, fencedOpening PySem.treeTable p w N = some s0 ∧ (s0.heap.isNs mainGlobals && s0.gens.size == 0) = true ∧ s0.heap.objs.size = n₁ ∧ s0.heap.nsMap mainGlobals "__annotations__" = ann ∧ topRun PySem.treeTable p w n₁ ann N s0 (topStub p) = some x.2.abs ∧ x.1 = s0 := by
  unfold topT at h
  (refine hide fun PQ kQ => ?_; obtain ⟨s0, e0, h⟩ := Option.bind_eq_some_iff.mp h; refine kQ ?_; clear kQ PQ)
  rw [← PySem.W.Fast.te10274390034422433532, ← PySem.W.Fast.te14364793385576792824] at e0
  cases h1 : (Nat.beq s0.heap.objs.size n₀ && (s0.heap.isNs mainGlobals && s0.gens.size == 0)) with
  | false => rw [h1] at h; cases h
  | true =>
    rw [h1] at h
    simp only [] at h
    obtain ⟨h2, h3⟩ := Bool.and_eq_true_iff.mp h1
    have h2 := Nat.eq_of_beq_eq_true h2
    split at h
    · rename_i a ea
      cases h4 : Nat.beq a a₀ with
      | false => rw [h4] at h; cases h
      | true =>
        rw [h4] at h
        simp only [] at h
        have h4 := Nat.eq_of_beq_eq_true h4
        cases h5 : fill s0.heap.objs.toList .nil 0 with
        | none => rw [h5] at h; cases h
        | some T =>
          rw [h5] at h
          simp only [] at h
          (refine hide fun PQ kQ => ?_; obtain ⟨s1, r1, r2⟩ := Option.map_eq_some_iff.mp h; refine kQ ?_; clear kQ PQ)
          subst r2
          refine ⟨s0, n₀, some (.ref a₀), e0, h3, h2, by rw [ea, h4], ?_, rfl⟩
          have r := runT_of r1
          have f := fill_of (life := s0.heap.life) h5
          have hl : s0.heap.objs.toList.length = n₀ := by rw [← h2]; rfl
          rw [hl, Nat.zero_add] at f
          have : (⟨T, n₀, s0.heap.life, s0.gens, s0.drawn, s0.toks, s0.os⟩ : SharedT).abs = s0 := by
            unfold SharedT.abs
            rw [f]
            rfl
          rw [this] at r
          exact r
    · cases h
theorem left_Q {p q : Program} {loose : List PySem.Str} {Xt : Shared → Bool} {α : Type} {Yf : Shared → α} {Ya : World → α} {N : Nat} (n₀ a₀ : Nat) (row : String)
    (run : ∀ (b : Bool) (w : World), (topT p (w.withFollow row b) N n₀ a₀).map (fun s => ((staticsOk (importedModules p.main.body) s.1.heap s.2.abs.heap && namesBound p s.2.abs.heap && gensDone s.2.abs && laidKept s.1.heap s.2.abs.heap),
        PySem.W.Fast.tw4187177175401517315 q loose (importedModules p.main.body) Xt true s.2.abs, Yf s.2.abs)) = some (true, openGood q loose, Ya (w.withFollow row b))) : LeftO p q loose Xt Yf Ya N := fun w => by
  have R := run (w.params.followText row) w
  rw [World.withFollow_self] at R
  (refine hide fun PQ kQ => ?_; obtain ⟨x, r1, r2⟩ := Option.map_eq_some_iff.mp R; refine kQ ?_; clear kQ PQ)
  obtain ⟨l1, l2, l3⟩ : _ ∧ _ ∧ _ := by simpa only [Prod.mk.injEq] using r2
  rw [← PySem.W.Fast.te4187177175401517315] at l2
  (refine hide fun PQ kQ => ?_; obtain ⟨s0, n₁, ann, e, e1, e2, e3, r, e4⟩ := topT_of r1; refine kQ ?_; clear kQ PQ)
  rw [e4] at l1
  have t : topFrom PySem.treeTable p w N s0 = some x.2.abs := by
    unfold topFrom
    rw [e1, e2, e3, r]
    show (match staticsOk (importedModules p.main.body) s0.heap x.2.abs.heap && namesBound p x.2.abs.heap && gensDone x.2.abs && laidKept s0.heap x.2.abs.heap with | true => _ | false => _) = _
    rw [l1]
  unfold openEnds
  rw [e]
  show (topFrom PySem.treeTable p w N _).map _ = _
  rw [t]
  exact congrArg some (Prod.ext l2 l3)
noncomputable def viewP : PySem.Program := { PySem.Challenge.pw_wa0025_01 with main := { PySem.Challenge.pw_wa0025_01.main with body := (((PySem.Challenge.pw_wa0025_01.main.body.eraseIdx 9).eraseIdx 7).eraseIdx 5).eraseIdx 2 } }
theorem head_open (H : Hook) {d : DefRec} {kwd : List (PySem.Str × PySem.Expr)}
    (hdef : defOf viewP PySem.Challenge.rw_wa0025_01.row.name = some (d, kwd)) (hp : PySem.Challenge.rw_wa0025_01.row.prog.theDef PySem.Challenge.rw_wa0025_01.row.name = some (d.params, d.body, d.scope)) (hk : kwWritten? d.params.kwonlyargs d.params.kw_defaults = some kwd) (said : PySem.Challenge.rw_wa0025_01.row.wellSaid = true)
    (run : ∀ (b : Bool) (w : World), (topT PySem.Challenge.rw_wa0025_01.row.prog (w.withFollow "special-get-raises" b) 3180 28 6).map (fun s => ((staticsOk (importedModules PySem.Challenge.rw_wa0025_01.row.prog.main.body) s.1.heap s.2.abs.heap && namesBound PySem.Challenge.rw_wa0025_01.row.prog s.2.abs.heap && gensDone s.2.abs && laidKept s.1.heap s.2.abs.heap),
        PySem.W.Fast.tw4187177175401517315 viewP [PySem.Str.ofString "Whitespace", PySem.Str.ofString "_twin_re_1", PySem.Str.ofString "_indent"] (importedModules PySem.Challenge.rw_wa0025_01.row.prog.main.body) (fun s => xlAt viewP [] s && recOk (RowW.records (OpenRow.toRowW PySem.Challenge.rw_wa0025_01.row)) s) true s.2.abs, H.obs s.2.abs)) = some (true, openGood viewP [PySem.Str.ofString "Whitespace", PySem.Str.ofString "_twin_re_1", PySem.Str.ofString "_indent"], H.val (w.withFollow "special-get-raises" b)))
    (hw : PySem.Challenge.rw_wa0025_01.row.toRowW.promised)
    (call : WalkO viewP [PySem.Str.ofString "Whitespace", PySem.Str.ofString "_twin_re_1", PySem.Str.ofString "_indent"] (XL viewP []) H.says PySem.Challenge.rw_wa0025_01.row.toRowW d kwd fun f vs => PySem.call f vs) : PySem.Challenge.rw_wa0025_01.row.Holds :=
  holds_open (q := viewP) (loose := [PySem.Str.ofString "Whitespace", PySem.Str.ofString "_twin_re_1", PySem.Str.ofString "_indent"]) (Xt := fun s => xlAt viewP [] s && recOk (RowW.records (OpenRow.toRowW PySem.Challenge.rw_wa0025_01.row)) s) (XP := XL viewP []) (Yf := H.obs) (Ya := H.val) (YP := H.says) (N := 3180) (left_Q 28 6 "special-get-raises" run) H.of H.keeps (fun s e => xl_of s (Bool.and_eq_true_iff.mp e).1) XL.keeps hdef hp hk (fun s e => recFacts_of (Bool.and_eq_true_iff.mp e).2) (by rfl) said (by decide +kernel) ⟨rfl, rfl, rfl, rfl, rfl, by decide +kernel⟩ hw call
local macro_rules | `(tactic| o_head $H) => `(tactic| (refine head_open $H (by rfl) (by rfl) (by rfl) (by assumption) ?ha ?hw ?hc; (case ha => intro b w; cases b <;> kernel_rfl)))
local macro_rules | `(tactic| o_law) => `(tactic| (refine holds_law (by decide +kernel) (fun said => ?_)))
open_top hd for PySem.Challenge.rw_wa0025_01
end Mine
end
section
open PySem PySem.Spec PySem.Calls PyProof.Rows PySem.W
set_option Elab.async false
set_option maxRecDepth 100000
set_option maxHeartbeats 4000000
namespace Mine
theorem small_1 {b : Nat} (h : b ≤ 1000000) : Builtin.Range.small 1 (b : Int) 1 = true := small_one (by decide) (by decide) (by omega) (by omega)
theorem size_1 {b n : Nat} (h : b = n) : Builtin.Range.rangeSize 1 (b : Int) 1 = ((n - 1 : Nat) : Int) := by
  subst h
  rw [rangeSize_nat]
  omega
theorem toNat_one_add (i : Nat) : (1 + (i : Int)).toNat = i + 1 := by
  rw [Int.add_comm]
  rfl
theorem toNat_zero_add (i : Nat) : (0 + (i : Int)).toNat = i := by
  rw [Int.zero_add]
  rfl
noncomputable def Says (m : PySem.Str → Option Value) : List (PySem.Str × Value) → Prop
  | [] => True
  | p :: r => m p.1 = some p.2 ∧ Says m r
theorem Says.nil {m : PySem.Str → Option Value} : Says m [] := trivial
theorem Says.cons {m : PySem.Str → Option Value} {x : PySem.Str} {v : Value} {r : List (PySem.Str × Value)} (h : m x = some v) (k : Says m r) : Says m ((x, v) :: r) := ⟨h, k⟩
theorem Says.all {m : PySem.Str → Option Value} {ps : List (PySem.Str × Value)} (h : Says m ps) : ∀ p ∈ ps, m p.1 = some p.2 := by
  induction ps with
  | nil => exact fun p q => absurd q List.not_mem_nil
  | cons a r ih => exact fun p q => (List.mem_cons.mp q).elim (fun e => e ▸ h.1) (ih h.2 p)
noncomputable def Turned {σ : Type} (Gd : Heap → Prop) (L : Addr) (Led : σ → List (Addr × Obj)) (ps : σ → List (PySem.Str × Value)) (P : σ → Prop) (own : List (Addr × Obj)) (s s₂ : Shared) : Prop :=
  ∃ c h₂ m₂ h' tk', s₂ = { s with heap := h', toks := tk' } ∧ Gd h₂ ∧ Fr h₂ L h' m₂ ∧ News h₂ L h' (own ++ Led c) ∧ (∀ p ∈ own, ∀ q ∈ Led c, q.1 ≠ p.1) ∧ Says m₂ (ps c) ∧ P c
noncomputable def TurnPost {σ : Type} (Gd : Heap → Prop) (L : Addr) (Led : σ → List (Addr × Obj)) (ps : σ → List (PySem.Str × Value)) (P : σ → Prop) (own : List (Addr × Obj)) (s : Shared) (Q : Flow → Shared → Prop) (f : Flow) (s₂ : Shared) : Prop :=
  match f with
  | .ret v => Q (.ret v) s₂
  | .brk => Q .next s₂
  | _ => Turned Gd L Led ps P own s s₂
section
variable {σ : Type} {Gd : Heap → Prop} {L : Addr} {Led : σ → List (Addr × Obj)} {ps : σ → List (PySem.Str × Value)} {P : σ → Prop} {own : List (Addr × Obj)} {s : Shared} {Q : Flow → Shared → Prop}
theorem TurnPost.next (c : σ) {h₂ h' : Heap} {m₂ : PySem.Str → Option Value} {tk' : Nat} (G : Gd h₂) (F : Fr h₂ L h' m₂) (N : News h₂ L h' (own ++ Led c)) (off : ∀ p ∈ own, ∀ q ∈ Led c, q.1 ≠ p.1) (hs : Says m₂ (ps c)) (hP : P c) :
    TurnPost Gd L Led ps P own s Q .next { s with heap := h', toks := tk' } := ⟨c, h₂, m₂, h', tk', rfl, G, F, N, off, hs, hP⟩
theorem TurnPost.brk {s₂ : Shared} (h : Q .next s₂) : TurnPost Gd L Led ps P own s Q .brk s₂ := h
theorem TurnPost.ret {s₂ : Shared} {v : Value} (h : Q (.ret v) s₂) : TurnPost Gd L Led ps P own s Q (.ret v) s₂ := h
end
theorem kstB_over {m₁ : PySem.Str → Option Value} {ps : List (PySem.Str × Value)} (h : ∀ p ∈ ps, m₁ p.1 = some p.2) : m₁ = kstB m₁ ps := by
  funext z; exact (kstB_eq (ps := ps) h fun _ => rfl).symm
section
variable {prog : Program} {w : World} {A : Around} {s : Shared} {env : Env} {h₀ : Heap} {E : Value → Shared → Prop} {Q : Flow → Shared → Prop}
theorem for_walks {σ : Type} {x : PySem.Str} {px : Pos} {body : List Stmt} {I : Addr} {ax : List (Addr × Obj)} {n : Nat} {Pv : Nat → Value → Prop} {St : Nat → Heap → Prop} {m : PySem.Str → Option Value} {oi : Obj}
    (Gd : Heap → Prop) (Led : σ → List (Addr × Obj)) (ps : σ → List (PySem.Str × Value)) (P : Nat → σ → Prop) (c₀ : σ)
    (W : Walks prog w A I (I :: ax.map (·.1)) [I] n Pv St) (hSt : ∀ i h, St i h → ∃ o, h.get? I = some o) (hax : ∀ c, ∀ p ∈ ax, p ∈ Led c)
    (hx : env.kindOf x = some .local) (hpl : (env.scope.kind == .class || (env.scope.kind == .module && env.locals != env.globals)) = false)
    (hst : St 0 s.heap) (G : Gd h₀) (F : Fr h₀ env.locals s.heap m) (N : News h₀ env.locals s.heap ((I, oi) :: Led c₀)) (hI : ∀ p ∈ Led c₀, p.1 ≠ I)
    (hp : Says m (ps c₀)) (h0 : P 0 c₀)
    (turn : ∀ i c h₁ h tk v o (u : PySem.Str → Option Value), i < n → P i c → Gd h₁ → Pv i v → Fr h₁ env.locals h (fun y => if y = x then some v else kstB u (ps c) y) → News h₁ env.locals h ((I, o) :: Led c) → (∀ p ∈ Led c, p.1 ≠ I) →
      wpAny (model prog w) A (execs body env) (TurnPost Gd env.locals Led ps (P (i + 1)) [(I, o)] s Q) E { s with heap := h, toks := tk })
    (done : ∀ c h₁ h tk (u : PySem.Str → Option Value), P n c → Gd h₁ → Fr h₁ env.locals h (kstB u (ps c)) → News h₁ env.locals h (Led c) → Q .next { s with heap := h, toks := tk })
    (hE : PassesOwn (model prog w) A env E) :
    codeAny (model prog w) A (.forLoop (.Name x px) (.ref I) body [] env) (fun r s' => match r with | .ok f => Q f s' | .error e => cameBackBy (model prog w) A env E e s') s := by
  refine codeAny_forLoop
    (fun k s' => ∃ i c h₁ h m₁ tk o, s' = { s with heap := h, toks := tk } ∧ Gd h₁ ∧ St i h ∧ Fr h₁ env.locals h m₁ ∧ News h₁ env.locals h ((I, o) :: Led c) ∧ (∀ p ∈ Led c, p.1 ≠ I) ∧ Says m₁ (ps c) ∧ P i c ∧ i ≤ n ∧ k = n - i) ?_ n
    ⟨0, c₀, h₀, s.heap, m, s.toks, oi, rfl, G, hst, F, N, hI, hp, h0, Nat.zero_le _, rfl⟩
  (intro k s' hQ56; refine hide fun PQ kQ => ?_; obtain ⟨i, c, h₁, h, m₁, tk, o, rfl, G', hst', F', N', hI', hp', hP, hi, rfl⟩ := hQ56; refine kQ ?_; clear kQ PQ)
  have hIo : h.get? I = some o := (N' _ (.head _)).1
  have hIL : I ≠ env.locals := (N' _ (.head _)).2.1
  have hIg : h₁.get? I = none := (N' _ (.head _)).2.2
  have next : ∀ h₂ : Heap, (∀ b o, b ∉ [I] → h.get? b = some o → h₂.get? b = some o) → Fr h₁ env.locals h₂ m₁ ∧ News h₁ env.locals h₂ (Led c) := fun h₂ hk => by
    have ne : ∀ b, b ≠ I → b ∉ [I] := fun b hb q => hb (List.mem_singleton.mp q)
    refine ⟨⟨F'.ns.at' fun o e => hk _ o (ne _ (Ne.symm hIL)) e, fun b o e => hk b o (ne _ fun q => by rw [q, hIg] at e; cases e) (F'.keep b o e), F'.above⟩, fun p hp => ?_⟩
    have := N' p (.tail _ hp)
    exact ⟨hk _ _ (ne _ (hI' p hp)) this.1, this.2⟩
  by_cases hlt : i < n
  · refine W.item i _ _ _ hlt hst' fun v h₂ tk₂ hPv hst₂ hk₂ => ?_
    obtain ⟨F₂, N₂⟩ := next h₂ hk₂
    obtain ⟨o₂, hI₂⟩ := hSt _ _ hst₂
    refine wpAny_assign_Name (wpAny_storeName_local hx F₂.ns (fun h₃ hn₃ hs₃ => ?_) hpl)
    have F₃ := F₂.set hn₃ hs₃
    have N₃ := N₂.set hs₃
    have hI₃ : h₃.get? I = some o₂ := (hs₃.2 I hIL).trans hI₂
    have hst₃ : St (i + 1) h₃ := W.frame _ _ _ hst₂ fun b hb o e => by
      have hbL : b ≠ env.locals := by
        rcases List.mem_cons.mp hb with rfl | hb
        · exact hIL
        · (refine hide fun PQ kQ => ?_; obtain ⟨p, hp, rfl⟩ := List.mem_map.mp hb; refine kQ ?_; clear kQ PQ)
          exact (N₂ p (hax c p hp)).2.1
      exact (hs₃.2 b hbL).trans e
    have NN : News h₁ env.locals h₃ ((I, o₂) :: Led c) := fun p hp => by
      rcases List.mem_cons.mp hp with rfl | hp
      · exact ⟨hI₃, hIL, hIg⟩
      · exact N₃ p hp
    have FF : Fr h₁ env.locals h₃ (fun y => if y = x then some v else kstB m₁ (ps c) y) := by
      rw [← kstB_over hp'.all]; exact F₃
    refine wpAny_mono (turn i c h₁ h₃ _ v o₂ m₁ hlt hP G' hPv FF NN hI') (fun f s₃ h₃' => ?_) hE
    have fin : Turned Gd env.locals Led ps (P (i + 1)) [(I, o₂)] s s₃ → ∃ k', k' < n - i ∧ ∃ i c h₁ h m₁ tk o, s₃ = { s with heap := h, toks := tk } ∧ Gd h₁ ∧ St i h ∧ Fr h₁ env.locals h m₁ ∧ News h₁ env.locals h ((I, o) :: Led c) ∧ (∀ p ∈ Led c, p.1 ≠ I) ∧ Says m₁ (ps c) ∧ P i c ∧ i ≤ n ∧ k' = n - i := by
      (intro hQ88; refine hide fun PQ kQ => ?_; obtain ⟨c', h₂', m₂, h', tk', rfl, G₂, F₄, N₄, off, hp₄, hP₄⟩ := hQ88; refine kQ ?_; clear kQ PQ)
      refine ⟨n - (i + 1), by omega, i + 1, c', h₂', h', m₂, tk', o₂, rfl, G₂, ?_, F₄, N₄, fun q hq => off _ (.head _) q hq, hp₄, hP₄, hlt, rfl⟩
      refine W.frame _ _ _ hst₃ fun b hb o e => ?_
      rcases List.mem_cons.mp hb with rfl | hb
      · rw [hI₃] at e; cases e; exact (N₄ _ (.head _)).1
      · (refine hide fun PQ kQ => ?_; obtain ⟨p, hp, rfl⟩ := List.mem_map.mp hb; refine kQ ?_; clear kQ PQ)
        have e1 := (NN p (.tail _ (hax c p hp))).1
        rw [e1] at e; cases e
        exact (N₄ p (.tail _ (hax c' p hp))).1
    cases f with
    | ret v => exact h₃'
    | brk => exact h₃'
    | next => exact fin h₃'
    | cont => exact fin h₃'
  · have hin : i = n := by omega
    subst hin
    refine W.done _ _ _ hst' fun h₂ tk₂ hk₂ => wpAny_execs_nil ?_
    obtain ⟨F₂, N₂⟩ := next h₂ hk₂
    refine done c h₁ h₂ tk₂ m₁ hP G' ?_ N₂
    rw [← kstB_over hp'.all]; exact F₂
theorem for_range {σ : Type} {x : PySem.Str} {px : Pos} {body : List Stmt} {m : PySem.Str → Option Value} {r : Addr} {a b : Int} {t₀ u₀ v₀ : Tok} {n : Nat}
    (Gd : Heap → Prop) (Led : σ → List (Addr × Obj)) (ps : σ → List (PySem.Str × Value)) (P : Nat → σ → Prop) (c₀ : σ)
    (hr : IsRange s.heap r a b 1 t₀ u₀ v₀) (hsmall : Builtin.Range.small a b 1 = true) (hn : Builtin.Range.rangeSize a b 1 = (n : Int)) (hh : A.handled = none)
    (hx : env.kindOf x = some .local) (hpl : (env.scope.kind == .class || (env.scope.kind == .module && env.locals != env.globals)) = false)
    (G : Gd h₀) (F : Fr h₀ env.locals s.heap m) (N : News h₀ env.locals s.heap (Led c₀))
    (hp : Says m (ps c₀)) (h0 : P 0 c₀)
    (turn : ∀ i c h₁ h tk t it o (u : PySem.Str → Option Value), i < n → P i c → Gd h₁ → Fr h₁ env.locals h (fun y => if y = x then some (.int (a + (i : Int)) t) else kstB u (ps c) y) → News h₁ env.locals h ((it, o) :: Led c) → (∀ p ∈ Led c, p.1 ≠ it) →
      wpAny (model prog w) A (execs body env) (TurnPost Gd env.locals Led ps (P (i + 1)) [(it, o)] s Q) E { s with heap := h, toks := tk })
    (done : ∀ c h₁ h tk (u : PySem.Str → Option Value), P n c → Gd h₁ → Fr h₁ env.locals h (kstB u (ps c)) → News h₁ env.locals h (Led c) → Q .next { s with heap := h, toks := tk })
    (hE : PassesOwn (model prog w) A env E) :
    wpAny (model prog w) A (pyIter (.ref r)) (fun it s₂ => codeAny (model prog w) A (.forLoop (.Name x px) it body [] env) (fun r s' => match r with | .ok f => Q f s' | .error e => cameBackBy (model prog w) A env E e s') s₂) E s := by
  refine wpAny_pyIter_range hr hsmall ?_
  have N' := News.push F N { cls := .type "range_iterator", data := .fields #[rawInt a, rawInt (Builtin.Range.rangeSize a b 1), rawInt 1] }
  refine for_walks (s := { s with heap := _ }) (ax := []) Gd Led ps P c₀ (Walks.range hh s.heap.objs.size a 1 n) (fun _ _ h => ⟨_, h⟩) (fun _ p hp => nomatch hp) hx hpl ?_ G (F.push _) N' (fun p hp => Nat.ne_of_lt (Heap.lt_size (N p hp).1)) hp h0 ?_ done hE
  · show IsRangeIter _ _ _ _ _
    rw [hn]
    simpa using Heap.get?_push_size _ rfl
  · rintro i c h₁ h tk v o u hi hP G' ⟨t, rfl⟩ F' N'' hI
    rw [Int.mul_one] at F'
    exact turn i c h₁ h tk t _ o u hi hP G' F' N'' hI
theorem for_list {σ : Type} {x : PySem.Str} {px : Pos} {body : List Stmt} {m : PySem.Str → Option Value} {l : Addr} {vs : List Value} {nn : Nat}
    (Gd : Heap → Prop) (Led : σ → List (Addr × Obj)) (ps : σ → List (PySem.Str × Value)) (P : Nat → σ → Prop) (c₀ : σ)
    (hl : ∀ c, (l, listOf vs.toArray nn) ∈ Led c) (hh : A.handled = none)
    (hx : env.kindOf x = some .local) (hpl : (env.scope.kind == .class || (env.scope.kind == .module && env.locals != env.globals)) = false)
    (G : Gd h₀) (F : Fr h₀ env.locals s.heap m) (N : News h₀ env.locals s.heap (Led c₀))
    (hp : Says m (ps c₀)) (h0 : P 0 c₀)
    (turn : ∀ i c h₁ h tk v it o (u : PySem.Str → Option Value), i < vs.length → vs[i]? = some v → P i c → Gd h₁ → Fr h₁ env.locals h (fun y => if y = x then some v else kstB u (ps c) y) → News h₁ env.locals h ((it, o) :: Led c) → (∀ p ∈ Led c, p.1 ≠ it) →
      wpAny (model prog w) A (execs body env) (TurnPost Gd env.locals Led ps (P (i + 1)) [(it, o)] s Q) E { s with heap := h, toks := tk })
    (done : ∀ c h₁ h tk (u : PySem.Str → Option Value), P vs.length c → Gd h₁ → Fr h₁ env.locals h (kstB u (ps c)) → News h₁ env.locals h (Led c) → Q .next { s with heap := h, toks := tk })
    (hE : PassesOwn (model prog w) A env E) :
    wpAny (model prog w) A (pyIter (.ref l)) (fun it s₂ => codeAny (model prog w) A (.forLoop (.Name x px) it body [] env) (fun r s' => match r with | .ok f => Q f s' | .error e => cameBackBy (model prog w) A env E e s') s₂) E s := by
  have hls : s.heap.IsList l vs.toArray := ⟨_, (N _ (hl c₀)).1, rfl, nn, rfl⟩
  have hne : l ≠ s.heap.objs.size := Nat.ne_of_lt (Heap.lt_size (N _ (hl c₀)).1)
  refine wpAny_pyIter_list hls ?_
  have N' := News.push F N { cls := .type "list_iterator", data := .fields #[.ref l, .int 0 0] }
  have W := Walks.list (prog := prog) (w := w) hh s.heap.objs.size l hne vs.toArray
  rw [List.size_toArray] at W
  refine for_walks (s := { s with heap := _ }) (ax := [(l, listOf vs.toArray nn)]) Gd Led ps P c₀ W (fun _ _ h => ?_) (fun c p hp => (List.mem_singleton.mp hp) ▸ hl c) hx hpl ?_ G (F.push _) N' (fun p hp => Nat.ne_of_lt (Heap.lt_size (N p hp).1)) hp h0 ?_ done hE
  · obtain ⟨⟨o, ho, _⟩, _⟩ := h; exact ⟨o, ho⟩
  · exact ⟨⟨_, Heap.get?_push_size _ rfl, rfl, rfl⟩, hls.at fun o e => Heap.get?_push_of_some _ e⟩
  · rintro i c h₁ h tk v o u hi hP G' hv F' N'' hI
    exact turn i c h₁ h tk v _ o u hi (by simpa using hv) hP G' F' N'' hI
theorem for_str {σ : Type} {x : PySem.Str} {px : Pos} {body : List Stmt} {m : PySem.Str → Option Value} {xt : PySem.Str} {tx : Tok}
    (Gd : Heap → Prop) (Led : σ → List (Addr × Obj)) (ps : σ → List (PySem.Str × Value)) (P : Nat → σ → Prop) (c₀ : σ)
    (hh : A.handled = none)
    (hx : env.kindOf x = some .local) (hpl : (env.scope.kind == .class || (env.scope.kind == .module && env.locals != env.globals)) = false)
    (G : Gd h₀) (F : Fr h₀ env.locals s.heap m) (N : News h₀ env.locals s.heap (Led c₀))
    (hp : Says m (ps c₀)) (h0 : P 0 c₀)
    (turn : ∀ i c h₁ h tk (ch : Nat) t it o (u : PySem.Str → Option Value), i < xt.cps.size → xt.cps[i]? = some ch → P i c → Gd h₁ → Fr h₁ env.locals h (fun y => if y = x then some (.str ⟨#[ch]⟩ t) else kstB u (ps c) y) → News h₁ env.locals h ((it, o) :: Led c) → (∀ p ∈ Led c, p.1 ≠ it) →
      wpAny (model prog w) A (execs body env) (TurnPost Gd env.locals Led ps (P (i + 1)) [(it, o)] s Q) E { s with heap := h, toks := tk })
    (done : ∀ c h₁ h tk (u : PySem.Str → Option Value), P xt.cps.size c → Gd h₁ → Fr h₁ env.locals h (kstB u (ps c)) → News h₁ env.locals h (Led c) → Q .next { s with heap := h, toks := tk })
    (hE : PassesOwn (model prog w) A env E) (ha : xt.cps.all (· < 128) = true) :
    wpAny (model prog w) A (pyIter (.str xt tx)) (fun it s₂ => codeAny (model prog w) A (.forLoop (.Name x px) it body [] env) (fun r s' => match r with | .ok f => Q f s' | .error e => cameBackBy (model prog w) A env E e s') s₂) E s := by
  refine wpAny_pyIter_ascii ha ?_
  have N' := News.push F N { cls := .type "str_ascii_iterator", data := .fields #[.str xt tx, .int 0 0] }
  have W : Walks prog w A s.heap.objs.size [s.heap.objs.size] [s.heap.objs.size] xt.cps.size (fun i v => ∃ ch t, xt.cps[i]? = some ch ∧ v = .str ⟨#[ch]⟩ t) (fun i h => h.IsStrIter s.heap.objs.size "str_ascii_iterator" xt tx i) := Walks.strAscii hh _ _ _
  refine for_walks (s := { s with heap := _ }) (ax := []) Gd Led ps P c₀ W (fun _ _ h => ?_) (fun _ p hp => nomatch hp) hx hpl ?_ G (F.push _) N' (fun p hp => Nat.ne_of_lt (Heap.lt_size (N p hp).1)) hp h0 ?_ done hE
  · obtain ⟨o, ho, _⟩ := h; exact ⟨o, ho⟩
  · exact ⟨_, Heap.get?_push_size _ rfl, rfl, rfl⟩
  · rintro i c h₁ h tk v o u hi hP G' ⟨ch, t, hc, rfl⟩ F' N'' hI
    exact turn i c h₁ h tk ch t _ o u hi hc hP G' F' N'' hI
end
end Mine
end
section
open PySem PySem.Spec PySem.Calls PyProof.Rows PySem.W
set_option Elab.async false
set_option maxRecDepth 100000
set_option maxHeartbeats 4000000
namespace Mine
noncomputable def Stop (p : Prop) : Prop := p
theorem Stop.i {p : Prop} (h : Stop p) : p := h
theorem Stop.e {p : Prop} (h : p) : Stop p := h
theorem gen_Q {α : Type} {prog : Program} {w : World} {A : Around} {t : Sem α} {Q : α → Shared → Prop} {E : Value → Shared → Prop} {s : Shared} (h : ∀ Q' : α → Shared → Prop, (∀ v s', Q v s' → Q' v s') → wpAny (model prog w) A t Q' E s) : wpAny (model prog w) A t Q E s := h Q fun _ _ x => x
theorem gen_E {α : Type} {prog : Program} {w : World} {A : Around} {env : Env} {t : Sem α} {Q : α → Shared → Prop} {E : Value → Shared → Prop} {s : Shared} (p : PassesOwn (model prog w) A env E) (h : ∀ E' : Value → Shared → Prop, PassesOwn (model prog w) A env E' → wpAny (model prog w) A t Q E' s) : wpAny (model prog w) A t Q E s := h E p
noncomputable def Tell (w : World) (room : Nat) (f : Addr) (Rel : List (Addr × Obj) → List Value → Prop) (Out : List (Addr × Obj) → Value → Prop) : Prop :=
  ∀ (prog : Program) (p : Program) (loose : List PySem.Str) (mean : PySem.ExcName → Option Value) (mg mb : PySem.Str → Option Value)
    (dp un : Nat) (gd : Option (List Code)) (cn : PySem.Str) (cs : Scope) (a : Addr) (ccd : Value) (cl : List (PySem.Str × Addr)) (outer : List Env) (A₀ : Around) (base h₀ : Heap) (L : Addr) (m : PySem.Str → Option Value) (news : List (Addr × Obj)) (s : Shared) (vs : List Value)
    (Q E : Value → Shared → Prop),
    Below A₀ base outer h₀ → Fr h₀ L s.heap m → (hd.heap_1 w.params).In h₀ → News h₀ L s.heap news → Top p loose mean mg mb h₀ → cs.kind = .function → Rel news vs → dp + room < recursionLimit → un + 8 * room < cLine →
    (∀ r tl h' tk', Fr h₀ L h' m → News h₀ L h' (tl ++ news) → (∀ q ∈ news, ∀ p ∈ tl, q.1 < p.1) → Out tl r → Q r { s with heap := h', toks := tk' }) →
    wpAny (model prog w) (ktrTop dp un gd cn cs L a ccd cl outer) (call (.ref f) vs) Q E s
theorem Tell.use {w : World} {room : Nat} {f : Addr} {Rel : List (Addr × Obj) → List Value → Prop} {Out : List (Addr × Obj) → Value → Prop} {prog : Program} {p : Program} {loose : List PySem.Str} {mean : PySem.ExcName → Option Value} {mg mb : PySem.Str → Option Value}
    {dp un : Nat} {gd : Option (List Code)} {cn : PySem.Str} {cs : Scope} {a : Addr} {ccd : Value} {cl : List (PySem.Str × Addr)} {outer : List Env} {A₀ : Around} {base h₀ : Heap} {L : Addr} {m : PySem.Str → Option Value} {news : List (Addr × Obj)} {s : Shared} {vs : List Value} {Q E : Value → Shared → Prop}
    (B : Below A₀ base outer h₀) (F : Fr h₀ L s.heap m) (X : (hd.heap_1 w.params).In h₀) (N : News h₀ L s.heap news) (T : Top p loose mean mg mb h₀) (hk : cs.kind = .function) (C : Tell w room f Rel Out) (R : Rel news vs) (hdp : dp + room < recursionLimit) (hun : un + 8 * room < cLine)
    (ret : ∀ r tl h' tk', Fr h₀ L h' m → News h₀ L h' (tl ++ news) → (∀ q ∈ news, ∀ p ∈ tl, q.1 < p.1) → Out tl r → Q r { s with heap := h', toks := tk' }) :
    wpAny (model prog w) (ktrTop dp un gd cn cs L a ccd cl outer) (call (.ref f) vs) Q E s := by
  unfold Tell at C
  exact C prog p loose mean mg mb dp un gd cn cs a ccd cl outer A₀ base h₀ L m news s vs Q E B F X N T hk R hdp hun ret
end Mine
end
section
open PySem PySem.Spec PySem.Calls PyProof.Rows PySem.W
set_option Elab.async false
set_option maxRecDepth 100000
set_option maxHeartbeats 4000000
set_option pp.deepTerms false
set_option pp.maxSteps 2500
namespace Mine
noncomputable def excHeap (h : Heap) (C : Addr) (rest : List Value) : Heap :=
  (h.push { cls := .type "tuple", data := .seq rest.toArray }).push { cls := .ref C, data := .fields #[.ref h.objs.size, .none, .none, .none, .bool false, .none] }
theorem ex_keep {h : Heap} {C b : Addr} {rest : List Value} {o : Obj} (e : h.get? b = some o) : (excHeap h C rest).get? b = some o :=
  Heap.get?_push_of_some _ (Heap.get?_push_of_some _ e)
theorem ex_args {h : Heap} {C : Addr} {rest : List Value} : (excHeap h C rest).get? h.objs.size = some { cls := .type "tuple", data := .seq rest.toArray } :=
  Heap.get?_push_of_some _ (Heap.get?_push_size _ rfl)
theorem ex_self {h : Heap} {C : Addr} {rest : List Value} : (excHeap h C rest).get? (h.objs.size + 1) = some { cls := .ref C, data := .fields #[.ref h.objs.size, .none, .none, .none, .bool false, .none] } :=
  Heap.get?_push_at (by simp only [Heap.size_push]) rfl
section
variable {prog : Program} {w : World} {A : Around} {E : Value → Shared → Prop} {h : Heap} {g : Array GenState} {d : Drawn} {t : Nat} {os : OsState}
variable {nm q : PySem.Str} {C N : Addr} {bs bm : List Value} {hdct : Bool} {sn : List PySem.Str} {sub : List Value} {ab : Bool} {col : Option Bool} {dd : Option Addr} {k0 k1 k2 k3 k5 : Option Value} {B newId initId : String}
theorem type_call_exc_init (F : ExcBaseFacts B newId initId bm) {mN : PySem.Str → Option Value} {rest : List Value} {fI : Addr} {oI : Obj} {Q : Fin → Shared → Prop}
    (hC : h.get? C = some (excClassObj nm q C N bs bm hdct sn sub ab col dd k0 k1 k2 k3 k5 newId)) (hn : h.Ns N mN) (hi : mN "__init__" = some (.ref fI)) (hfI : h.get? fI = some oI) (hfc : oI.cls = .type "function")
    (hq : wpAny (model prog w) A (call (.ref fI) (.ref (h.objs.size + 1) :: rest)) (fun r s' => r = .none ∧ Q (.done (.ret (.ref (h.objs.size + 1)))) s') E ⟨excHeap h C rest, g, d, t, os⟩) (hrest : rest.length ≤ sizeLine) :
    wpAny (model prog w) A (Builtin.«type.__call__» ⟨.ref C :: rest, []⟩) Q E ⟨h, g, d, t, os⟩ := by
  repeat (first | with_reducible refine wpAny_loadPart_at hC ?_ | with_reducible refine wpAny_madeBy_exc hC ?_ | wp_step)
  refine codeAny_call_builtin_code (Code.quiet_builtin _ F.quiet) (wpAny_check_new_sub F hC (codeAny_exc_new_sub F hC ?_ hrest))
  show wpAny _ _ _ _ _ ⟨excHeap h C rest, g, d, t, os⟩
  have own : (Value.ref C :: bm).contains (.ref C) = true := List.contains_iff_mem.mpr (.head _)
  unfold isInstance
  repeat (first | with_reducible refine wpAny_loadPart_at ex_self ?_ | (with_reducible refine wpAny_isSubtype_exc (ex_keep hC) ?_; rw [own]) | wp_step)
  refine (wpAny_typeLookup_exc (ex_keep hC) (hn.at' fun _ => ex_keep) F.mroIs F.init.lookup ?_ : wpAny _ _ (typeLookup (.ref C) _) _ _ _)
  rw [hi]
  refine wpAny_holding (wpAny_bind (wpAny_bind (wpAny_typeOf (T := "function") ⟨_, ex_keep hfI, hfc⟩ ?_)))
  rw [if_pos (by decide)]
  exact wpAny_pure (wpAny_bind (wpAny_mono hq (fun r s' hr => by
    rw [hr.1]
    wp_walk
    exact hr.2) fun _ _ x => x))
theorem call_exc_init (F : ExcBaseFacts B newId initId bm) {mN : PySem.Str → Option Value} {rest : List Value} {fI : Addr} {oI : Obj} {Q : Value → Shared → Prop}
    (hC : h.get? C = some (excClassObj nm q C N bs bm hdct sn sub ab col dd k0 k1 k2 k3 k5 newId)) (hn : h.Ns N mN) (hi : mN "__init__" = some (.ref fI)) (hfI : h.get? fI = some oI) (hfc : oI.cls = .type "function")
    (hq : wpAny (model prog w) (A.under (.builtin "type.__call__" ⟨.ref C :: rest, []⟩)) (call (.ref fI) (.ref (h.objs.size + 1) :: rest)) (fun r s' => r = .none ∧ Q (.ref (h.objs.size + 1)) s') E ⟨excHeap h C rest, g, d, t, os⟩)
    (hrest : rest.length ≤ sizeLine) :
    wpAny (model prog w) A (call (.ref C) rest) Q E ⟨h, g, d, t, os⟩ := by
  have f1 := tc_lookup
  have f2 := tc_bind (.ref C)
  have hT : (⟨h, g, d, t, os⟩ : Shared).TypeIs (.ref C) "type" := ⟨_, hC, rfl⟩
  refine wpAny_call (codeAny_of_tree ?_)
  show wpAny _ _ (callAny (.ref C) _) _ _ _
  repeat (any_goals (first | assumption | with_reducible refine wpAny_loadPart_at hC ?_ | wp_step))
  refine ⟨rfl, ?_⟩
  exact codeAny_call_builtin_at (Code.quiet_builtin _ (by decide +kernel)) entry_typeCall (wpAny_check_type_call_sub hC (type_call_exc_init F hC hn hi hfI hfc hq hrest))
end
section
variable {M : Model} {A : Around} {E : Value → Shared → Prop} {env : Env}
variable {nm q : PySem.Str} {C N : Addr} {bs bm : List Value} {hdct : Bool} {sn : List PySem.Str} {sub : List Value} {ab : Bool} {col : Option Bool} {dd : Option Addr} {k0 k1 k2 k3 k5 : Option Value} {newId : String}
end
section
open Builtin Builtin.ObjectAttr
variable {prog : Program} {w : World} {A : Around} {E : Value → Shared → Prop} {h : Heap} {g : Array GenState} {d : Drawn} {t : Nat} {os : OsState}
variable {nm q : PySem.Str} {C N x : Addr} {bs bm : List Value} {sn : List PySem.Str} {sub : List Value} {ab : Bool} {col : Option Bool} {dd : Option Addr} {k0 k1 k2 k3 k5 : Option Value} {B newId sa owner : String}
  {mN mA : PySem.Str → Option Value} {name : PySem.Str} {v : Value}
noncomputable def dictHeap (h : Heap) (x : Addr) : Heap := (h.push { cls := .type "dict", data := .dict #[] }).update x fun o => { cls := o.cls, dict := some h.objs.size, data := o.data, slots := o.slots }
theorem dh_new {o : Obj} (hx : h.get? x = some o) : (dictHeap h x).get? h.objs.size = some { cls := .type "dict", data := .dict #[] } :=
  (Heap.get?_update_ne _ _ _ _ (Nat.ne_of_gt (Heap.lt_size hx))).trans (Heap.get?_push_at rfl rfl)
theorem dh_self {o : Obj} (hx : h.get? x = some o) : (dictHeap h x).get? x = some { o with dict := some h.objs.size } := by
  refine Heap.get?_update_self _ (Heap.get?_push_of_some _ hx) ?_
  have nf := (Heap.get?_some_iff.mp hx).2
  cases o with
  | mk a b c e => cases c <;> first | rfl | exact nf
theorem dh_else {b : Addr} {ob : Obj} (hbx : b ≠ x) (e : h.get? b = some ob) : (dictHeap h x).get? b = some ob :=
  (Heap.get?_update_ne _ _ _ _ hbx).trans (Heap.get?_push_of_some _ e)
theorem store_first {tk : Tok} {o : Obj} {Q : Fin → Shared → Prop} (SF : StoreFacts B bm sa owner)
    (hC : h.get? C = some (excClassObj nm q C N bs bm true sn sub ab col dd k0 k1 k2 k3 k5 newId)) (hn : h.Ns N mN) (hna : mN name = none)
    (hB : typeLookup (.type B) name = pure none) (hx : h.get? x = some o) (hc : o.cls = .ref C) (hnc : ∀ c, o.data ≠ .cls c) (hdn : o.dict = none)
    (hq : ∀ h' tk', h'.get? x = some { o with dict := some h.objs.size } → h'.Ns1 h.objs.size (fun y => if y = name then some v else none) →
      (∀ b ob, b ≠ x → h.get? b = some ob → h'.get? b = some ob) → Q (.done (.ret .none)) ⟨h', g, d, tk', os⟩) :
    wpAny (model prog w) A (Builtin.«object.__setattr__» ⟨[.ref x, .str name tk, v], []⟩) Q E ⟨h, g, d, t, os⟩ := by
  have pass := SF.passes (.ref x)
  unfold Builtin.«object.__setattr__»
  repeat (first | rw [refuse_eq] | (rw [refuseLoop_ref, pass]) | (with_reducible refine wpAny_loadPart_at hx ?_; rw [hc]) | with_reducible refine wpAny_mroOf_exc hC ?_ | (with_reducible refine wpAny_typeLookup_exc hC hn SF.mro hB ?_; rw [hna]) | wp_step)
  rw [hdn, if_neg (by simp [typeHasDict])]
  split
  next no => cases no
  split
  next is => exact absurd is (hnc _)
  refine wpAny_bind (wpAny_alloc' (wpAny_bind (wpAny_update' (Heap.get?_push_of_some _ hx) (wpAny_pure ?_))))
  show wpAny _ _ (storeInDict h.objs.size (.str name tk) name v) _ _ ⟨dictHeap h x, g, d, t, os⟩
  unfold storeInDict newKeyGuard
  have em : (dictHeap h x).Ns h.objs.size (fun _ => none) := ⟨_, #[], _, dh_new hx, rfl, fun _ he => absurd he (Array.not_mem_empty _), fun _ => rfl⟩
  refine wpAny_bind (wpAny_pure (wpAny_bind (wpAny_nsSet1 (.of_empty em) fun h' n1 same => ?_)))
  refine n1.count (Within.cons name v Within.nil) |>.elim fun oD r => r.elim fun es r => r.elim fun ep r => ?_
  refine wpAny_bind (wpAny_lookBehind r.1 (by rw [r.2.1]; exact pastItsLine_dict (Nat.le_trans r.2.2 (by rw [sizeLine_eq]; exact Nat.le_of_ble_eq_true rfl))) ?_)
  wp_walk
  exact hq h' _ ((same.2 x (Nat.ne_of_lt (Heap.lt_size hx))).trans (dh_self hx)) n1 fun b ob nb eb => (same.2 b (Nat.ne_of_lt (Heap.lt_size eb))).trans (dh_else nb eb)
theorem store_first_attr {o : Obj} {Q : Unit → Shared → Prop} (SF : StoreFacts B bm sa owner)
    (hC : h.get? C = some (excClassObj nm q C N bs bm true sn sub ab col dd k0 k1 k2 k3 k5 newId)) (hn : h.Ns N mN) (hns : mN "__setattr__" = none) (hna : mN name = none)
    (hB : typeLookup (.type B) name = pure none) (hx : h.get? x = some o) (hc : o.cls = .ref C) (hnc : ∀ c, o.data ≠ .cls c) (hdn : o.dict = none)
    (hq : ∀ h' tk', h'.get? x = some { o with dict := some h.objs.size } → h'.Ns1 h.objs.size (fun y => if y = name then some v else none) →
      (∀ b ob, b ≠ x → h.get? b = some ob → h'.get? b = some ob) → Q () ⟨h', g, d, tk', os⟩) :
    wpAny (model prog w) A (setAttr (.ref x) name v) Q E ⟨h, g, d, t, os⟩ := by
  have f3 := SF.slot.bind (.ref x)
  unfold setAttr callSpecial? specialOf
  repeat (any_goals (first | assumption | (with_reducible refine wpAny_loadPart_at hx ?_; rw [hc]) | (with_reducible refine wpAny_typeLookup_exc hC hn SF.mro SF.slot.lookup ?_; rw [hns]) | wp_step))
  refine codeAny_call_builtin SF.slot.plain SF.entry (wpAny_check_sa SF hC hx hc (store_first SF hC hn hna hB hx hc hnc hdn fun h' tk' a b c => ?_))
  repeat (any_goals (first | assumption | wp_step))
  exact hq h' tk' a b c
end
theorem nsOk_of {K : Frag} {N : Addr} (h : ∃ c d es n sl, K.lookup N = some ⟨c, d, .dict es n, sl⟩ ∧ (es.toList.all fun e => match e.key with | .str _ _ => true | _ => false) = true) : nsOkIn K N = true := by
  (refine hide fun PQ kQ => ?_; obtain ⟨c, d, es, n, sl, h, e⟩ := h; refine kQ ?_; clear kQ PQ)
  unfold nsOkIn
  rw [h]
  dsimp only
  rw [← Array.all_toList]
  exact e
theorem nsSome_of {K : Frag} {h : Heap} {N : Addr} {mg : PySem.Str → Option Value} {n : PySem.Str} {v : Value} (X : K.In h) (G : h.Ns N mg) (e : nsIn K N n = some (some v)) : mg n = some v := by
  (refine hide fun PQ kQ => ?_; obtain ⟨o, es, ep, ho, hd, _, hf⟩ := G; refine kQ ?_; clear kQ PQ)
  unfold nsIn at e
  split at e
  · rename_i c d es' n' sl q
    have := X _ _ q
    rw [ho] at this
    cases this
    cases hd
    split at e
    · rename_i e' he
      rw [← hf]
      unfold nsFind findBy
      rw [← Array.find?_toList, he]
      cases e
      rfl
    · split at e <;> cases e
  · cases e
structure ECls (h : Heap) (C N fI : Addr) (mN : PySem.Str → Option Value) : Prop where
  obj : ∃ nm q bs sn sub ab col dd k0 k1 k2 k3 k5, h.get? C = some (excClassObj nm q C N bs [.type "Exception", .type "BaseException", .type "object"] true sn sub ab col dd k0 k1 k2 k3 k5 "Exception.__new__")
  ns : h.Ns N mN
  init : mN "__init__" = some (.ref fI)
  sa : mN "__setattr__" = none
  ga : mN "__getattribute__" = none
  gx : mN "__getattr__" = none
theorem ECls.keeps {h h' : Heap} {C N fI : Addr} {mN : PySem.Str → Option Value} (X : ECls h C N fI mN) (k : ∀ b o, h.get? b = some o → h'.get? b = some o) : ECls h' C N fI mN := by
  (refine hide fun PQ kQ => ?_; obtain ⟨⟨nm, q, bs, sn, sub, ab, col, dd, k0, k1, k2, k3, k5, e⟩, n, r1, r2, r3, r4⟩ := X; refine kQ ?_; clear kQ PQ)
  exact ⟨⟨nm, q, bs, sn, sub, ab, col, dd, k0, k1, k2, k3, k5, k _ _ e⟩, (let ⟨o, es, ep, e, r⟩ := n; ⟨o, es, ep, k _ _ e, r⟩), r1, r2, r3, r4⟩
theorem ecls182 {w : World} {h : Heap} (X : (hd.heap_1 w.params).In h) : ECls h 182 181 172 (h.nsMap 181) := by
  have n : h.Ns 181 (h.nsMap 181) := .of_isNs (isNs_of_in X (nsOk_of ⟨_, _, _, _, _, rfl, rfl⟩))
  exact ⟨⟨_, _, _, _, _, _, _, _, _, _, _, _, _, X _ _ rfl⟩, n, nsSome_of X n rfl, ns_none_of X n rfl, ns_none_of X n rfl, ns_none_of X n rfl⟩
theorem ecls76 {w : World} {h : Heap} (X : (hd.heap_1 w.params).In h) : ECls h 76 75 52 (h.nsMap 75) := by
  have n : h.Ns 75 (h.nsMap 75) := .of_isNs (isNs_of_in X (nsOk_of ⟨_, _, _, _, _, rfl, rfl⟩))
  exact ⟨⟨_, _, _, _, _, _, _, _, _, _, _, _, _, X _ _ rfl⟩, n, nsSome_of X n rfl, ns_none_of X n rfl, ns_none_of X n rfl, ns_none_of X n rfl⟩
noncomputable def Ns1O (o : Obj) (m : PySem.Str → Option Value) : Prop := ∃ h : Heap, ∃ a, h.get? a = some o ∧ h.Ns1 a m
theorem Ns1O.ns {h : Heap} {a : Addr} {o : Obj} {m : PySem.Str → Option Value} (n : Ns1O o m) (e : h.get? a = some o) : h.Ns1 a m := by
  (refine hide fun PQ kQ => ?_; obtain ⟨h', b, e', o', es, ep, e1, r⟩ := n; refine kQ ?_; clear kQ PQ)
  rw [e'] at e1
  cases e1
  exact ⟨o, es, ep, e, r⟩
theorem Ns1O.of {h : Heap} {a : Addr} {m : PySem.Str → Option Value} (n : h.Ns1 a m) : ∃ o, h.get? a = some o ∧ Ns1O o m := by
  (refine hide fun PQ kQ => ?_; obtain ⟨o, es, ep, e, r⟩ := id n; refine kQ ?_; clear kQ PQ)
  exact ⟨o, e, h, a, e, n⟩
structure EObj (o : Obj) (C : Addr) (D : Option Addr) : Prop where
  cls : o.cls = .ref C
  dict : o.dict = D
  data : ∃ t, o.data = .fields #[.ref t, .none, .none, .none, .bool false, .none]
theorem EObj.nc {o : Obj} {C : Addr} {D : Option Addr} (x : EObj o C D) : ∀ c, o.data ≠ .cls c := by
  obtain ⟨t, e⟩ := x.data
  intro c q
  rw [e] at q
  cases q
section
variable {prog : Program} {w : World} {A : Around} {E : Value → Shared → Prop} {s : Shared} {g₀ : Heap} {L : Addr} {m : PySem.Str → Option Value} {x C N fI : Addr} {mN mA : PySem.Str → Option Value} {led : List (Addr × Obj)} {o oD : Obj} {name : PySem.Str} {v : Value}
theorem setE_first {Q : Unit → Shared → Prop} (F : Fr g₀ L s.heap m) (Nw : News g₀ L s.heap ((x, o) :: led)) (X : ECls g₀ C N fI mN) (e : EObj o C none) (hd : ∀ p ∈ led, p.1 ≠ x)
    (h : ∀ h' tk D o' oD, Fr g₀ L h' m → News g₀ L h' ((x, o') :: (D, oD) :: led) → EObj o' C (some D) → Ns1O oD (fun y => if y = name then some v else none) → (∀ p ∈ led, p.1 < D) → x < D → Q () { s with heap := h', toks := tk })
    (hna : mN name = none) (hB : typeLookup (.type "Exception") name = pure none) : wpAny (model prog w) A (setAttr (.ref x) name v) Q E s := by
  (refine hide fun PQ kQ => ?_; obtain ⟨hh, g, d, t, os⟩ := s; refine kQ ?_; clear kQ PQ)
  (refine hide fun PQ kQ => ?_; obtain ⟨⟨nm, q, bs, sn, sub, ab, col, dd, k0, k1, k2, k3, k5, hC⟩, hn, _, hsa, _, _⟩ := X.keeps F.keep; refine kQ ?_; clear kQ PQ)
  have hx := (Nw _ (.head _))
  refine store_first_attr PySem.F.store_Exception hC hn hsa hna hB hx.1 e.cls e.nc e.dict fun h' tk' hx' hD hk => ?_
  (refine hide fun PQ kQ => ?_; obtain ⟨oD, hoD, nD⟩ := Ns1O.of hD; refine kQ ?_; clear kQ PQ)
  have lt0 : ∀ {b ob}, hh.get? b = some ob → b < hh.objs.size := fun e => Heap.lt_size e
  have hL := F.ns.lt
  have gs : g₀.get? hh.objs.size = none := by
    cases q : g₀.get? hh.objs.size with
    | none => rfl
    | some o => exact absurd (lt0 (F.keep _ _ q)) (Nat.lt_irrefl _)
  refine h h' tk' hh.objs.size { o with dict := some hh.objs.size } oD ⟨F.ns.at' fun ob eb => hk _ ob (Ne.symm hx.2.1) eb, fun b ob eb => hk b ob (fun q => by rw [q, hx.2.2] at eb; cases eb) (F.keep b ob eb), F.above⟩ (fun p hp => ?_) ⟨e.cls, rfl, e.data⟩ nD (fun p hp => lt0 (Nw p (.tail _ hp)).1) (lt0 hx.1)
  rcases List.mem_cons.mp hp with rfl | hp
  · exact ⟨hx', hx.2⟩
  rcases List.mem_cons.mp hp with rfl | hp
  · exact ⟨hoD, Nat.ne_of_gt hL, gs⟩
  · exact ⟨hk _ _ (hd p hp) (Nw p (.tail _ hp)).1, (Nw p (.tail _ hp)).2⟩
theorem setE_next {Q : Unit → Shared → Prop} {D : Addr} {ns : List PySem.Str} (F : Fr g₀ L s.heap m) (Nw : News g₀ L s.heap ((x, o) :: (D, oD) :: led)) (X : ECls g₀ C N fI mN) (e : EObj o C (some D)) (n : Ns1O oD mA) (hd : ∀ p ∈ led, p.1 ≠ x ∧ p.1 ≠ D) (hxD : x < D)
    (h : ∀ h' tk oD', Fr g₀ L h' m → News g₀ L h' ((x, o) :: (D, oD') :: led) → Ns1O oD' (fun y => if y = name then some v else mA y) → Q () { s with heap := h', toks := tk })
    (hna : mN name = none) (hB : typeLookup (.type "Exception") name = pure none) (hw : Within mA ns) (hsz : ns.length ≤ sizeLine) : wpAny (model prog w) A (setAttr (.ref x) name v) Q E s := by
  (refine hide fun PQ kQ => ?_; obtain ⟨hh, g, d, t, os⟩ := s; refine kQ ?_; clear kQ PQ)
  have hxa := (Nw _ (.head _))
  have hDa := (Nw _ (.tail _ (.head _)))
  (refine hide fun PQ kQ => ?_; obtain ⟨⟨nm, q, bs, sn, sub, ab, col, dd, k0, k1, k2, k3, k5, hC₀⟩, _⟩ := id X; refine kQ ?_; clear kQ PQ)
  have hxC : x ≠ C := by rintro rfl; rw [hxa.2.2] at hC₀; cases hC₀
  have hC := F.keep _ _ hC₀
  have X' := X.keeps F.keep
  have neD : D ≠ x := Nat.ne_of_gt hxD
  refine store_attr PySem.F.store_Exception hC X'.ns X'.sa hna hB hxC ⟨o, hxa.1, e.cls, e.nc, .inr ⟨D, e.dict, neD, n.ns hDa.1⟩⟩ (fun h' tk' I' hk hsame => ?_) hw hsz
  have kk : ∀ b ob, b ≠ x → b ≠ D → hh.get? b = some ob → h'.get? b = some ob := fun b ob h1 h2 eb => hk b ob h1 (fun o₀ d' e₀ ed => by
    obtain rfl := Option.some.inj (hxa.1.symm.trans e₀); obtain rfl := Option.some.inj (e.dict.symm.trans ed); exact h2) eb
  (refine hide fun PQ kQ => ?_; obtain ⟨o₁, e₁, c₁, dt₁, sl₁, dk₁⟩ := hsame o hxa.1; refine kQ ?_; clear kQ PQ)
  have eo : o₁ = o := by
    (refine hide fun PQ kQ => ?_; obtain ⟨a1, a2, a3, a4⟩ := o; refine kQ ?_; clear kQ PQ)
    (refine hide fun PQ kQ => ?_; obtain ⟨b1, b2, b3, b4⟩ := o₁; refine kQ ?_; clear kQ PQ)
    have := dk₁ D e.dict
    have q2 := e.dict
    dsimp only at c₁ dt₁ sl₁ this q2
    subst c₁ dt₁ sl₁ this q2
    rfl
  subst eo
  (refine hide fun PQ kQ => ?_; obtain ⟨o', e', _, _, hd'⟩ := I'; refine kQ ?_; clear kQ PQ)
  obtain rfl := Option.some.inj (e₁.symm.trans e')
  have nD : h'.Ns1 D (fun y => if y = name then some v else mA y) := by
    rcases hd' with ⟨hn0, _⟩ | ⟨d', hd', _, hns'⟩
    · rw [e.dict] at hn0; cases hn0
    · obtain rfl := Option.some.inj (e.dict.symm.trans hd')
      exact hns'
  (refine hide fun PQ kQ => ?_; obtain ⟨oD', hoD', nD'⟩ := Ns1O.of nD; refine kQ ?_; clear kQ PQ)
  refine h h' tk' oD' ⟨F.ns.at' fun ob eb => kk _ ob (Ne.symm hxa.2.1) (Ne.symm hDa.2.1) eb, fun b ob eb => kk b ob (fun q => by rw [q, hxa.2.2] at eb; cases eb) (fun q => by rw [q, hDa.2.2] at eb; cases eb) (F.keep b ob eb), F.above⟩ (fun p hp => ?_) nD'
  rcases List.mem_cons.mp hp with rfl | hp
  · exact ⟨e₁, hxa.2⟩
  rcases List.mem_cons.mp hp with rfl | hp
  · exact ⟨hoD', hDa.2⟩
  · exact ⟨kk _ _ (hd p hp).1 (hd p hp).2 (Nw p (.tail _ (.tail _ hp))).1, (Nw p (.tail _ (.tail _ hp))).2⟩
end
end Mine
end
section
open PySem PySem.Spec PySem.Calls PyProof.Rows PySem.W
set_option Elab.async false
set_option maxRecDepth 100000
set_option maxHeartbeats 4000000
set_option pp.deepTerms false
set_option pp.maxSteps 2500
namespace Mine
theorem dict_mapFields (o : Obj) (f) : (o.mapFields f).dict = o.dict := by
  obtain ⟨c, d, dt, sl⟩ := o; cases dt <;> rfl
noncomputable def Trc (h base : Heap) (e : Addr) (cls : Value) (dict : Option Addr) (fl : Value) : Prop :=
  ∃ oe vs T oT ts, h.get? e = some oe ∧ oe.cls = cls ∧ oe.dict = dict ∧ oe.data = .fields vs ∧ vs[1]? = some (.ref T) ∧ base.get? T = none ∧ T ≠ e ∧ h.get? T = some oT ∧ oT.data = .fields ts ∧ ts[3]? = some fl
structure Sta (base : Heap) (l : List Env) (e : Addr) (cls : Value) (dict : Option Addr) (fl : Value) (h h' : Heap) : Prop where
  stays : base.StaysIn h'
  frames : h'.FunFrames base l
  trc : Trc h' base e cls dict fl
  slots : h.UpToSlots h'
section
variable {M : Model} {A : Around} {E : Value → Shared → Prop} {s : Shared} {base : Heap} {env : Env} {outer : List Env} {L e : Addr} {cls : Value} {dict : Option Addr} {Q : Unit → Shared → Prop}
theorem no_fields {h : Heap} {e : Addr} {oe : Obj} {vs : Array Value} (he : h.get? e = some oe) (hd : oe.data = .fields vs) : ∀ b o, h.get? b = some o → (∀ vs, o.data ≠ .fields vs) → b ≠ e := fun b o hb hnf q => by
  rw [q, he] at hb; injection hb with hb; subst hb; exact hnf vs hd
theorem entry_at {oe : Obj} {vs : Array Value} {head : Value} {hadNext : Bool} (hfr : A.frames = some (env :: outer)) (hl : s.heap.FunFrames base (env :: outer)) (hf : env.frame = some L)
    (he : s.heap.get? e = some oe) (hkb : base.StaysIn s.heap) (hen : base.get? e = none) (hd : oe.data = .fields vs) (hsz : 1 < vs.size)
    (h : ∀ h', Sta base (env :: outer) e oe.cls oe.dict (rawInt L) s.heap h' → Q () { s with heap := h' }) :
    wpAny M A (do let a ← frameOf env; let pl ← entryPlaceOf L hadNext; let b ← EntryCells.newEntry head a .none (rawInt L) .none pl; setField (.ref e) 1 b) Q E s := by
  have hene : e ∉ (env :: outer).filterMap (·.frame) := fun hm => by
    (refine hide fun PQ kQ => ?_; obtain ⟨_, o, ho, hnf⟩ := hl.mem hm; refine kQ ?_; clear kQ PQ)
    exact no_fields he hd _ _ ho hnf rfl
  refine wpAny_bind (wpAny_frameOf_fun hfr hl hf fun h₁ hs₁ => ?_)
  refine wpAny_bind (wpAny_entryPlaceOf fun pl hpl => ?_)
  unfold EntryCells.newEntry newFields
  refine wpAny_bind (wpAny_newObj_type ?_ (hpl.sizeOk5 _ _ _ _ _))
  have he₁ : h₁.get? e = some oe := (hs₁.2.1 e hene).trans he
  have kb₁ : base.StaysIn h₁ := fun b o hbo => (hs₁.2.1 b fun hm => by rw [(hl.mem hm).1] at hbo; cases hbo).trans (hkb b o hbo)
  generalize hTB : ({ cls := .type "traceback", dict := none, data := .fields ([head, .ref L, .none, rawInt L, .none] ++ (if pl.isEmpty then List.replicate 6 Value.none else pl)).toArray } : Obj) = tb
  have he₂ := Heap.get?_push_of_some tb he₁
  have hTe : h₁.objs.size ≠ e := Nat.ne_of_gt (Heap.lt_size he₁)
  have hd₃ := Obj.data_mapFields hd (·.setIfInBounds 1 (Value.ref h₁.objs.size))
  refine wpAny_setField he₂ hd hsz (h _ ?_)
  have he₃ := Heap.get?_update_self (Obj.mapFields (·.setIfInBounds 1 (Value.ref h₁.objs.size))) he₂ (Obj.isFreed_of_fields hd₃)
  have hT₃ := (Heap.get?_update_other (h₁.push tb) (Obj.mapFields (·.setIfInBounds 1 (Value.ref h₁.objs.size))) (Ne.symm hTe)).trans (Heap.get?_push_size h₁ (by subst hTB; rfl))
  have keep : ∀ b o, b ≠ e → h₁.get? b = some o → ((h₁.push tb).update e (Obj.mapFields (·.setIfInBounds 1 (Value.ref h₁.objs.size)))).get? b = some o := fun b o hbe hb => by
    rw [Heap.get?_update_other _ _ (Ne.symm hbe)]
    exact Heap.get?_push_of_some _ hb
  refine ⟨fun b o hbo => keep b o (fun q => by rw [q, hen] at hbo; cases hbo) (kb₁ b o hbo), hl.of_keeps fun b o hb hnf => ?_, ?_, fun b o hb hnf => ?_⟩
  · obtain ⟨sl, hs⟩ := hs₁.2.2 b o hb
    exact ⟨_, keep b _ (no_fields he hd b o hb hnf) hs, rfl⟩
  · exact ⟨_, _, h₁.objs.size, _, _, he₃, Obj.cls_mapFields _ _, dict_mapFields _ _, hd₃, by simp [hsz], kb₁.fresh, hTe, hT₃, by subst hTB; rfl, by first | (simp; done) | (rcases hpl with rfl | ⟨_, _, _, _, _, _, _, rfl⟩ <;> simp)⟩
  · obtain ⟨sl, hs⟩ := hs₁.2.2 b o hb
    exact ⟨sl, keep b _ (no_fields he hd b o hb hnf) hs⟩
theorem note_first {oe : Obj} {vs : Array Value} (hfr : A.frames = some (env :: outer)) (hl : s.heap.FunFrames base (env :: outer)) (hf : env.frame = some L)
    (he : s.heap.get? e = some oe) (hkb : base.StaysIn s.heap) (hen : base.get? e = none) (hd : oe.data = .fields vs) (h1 : vs[1]? = some .none)
    (h : ∀ h', Sta base (env :: outer) e oe.cls oe.dict (rawInt L) s.heap h' → Q () { s with heap := h' }) : wpAny M A (noteFrame (.ref e) env) Q E s := by
  unfold noteFrame
  simp only [hf]
  refine wpAny_bind (wpAny_field he hd h1 ?_)
  rw [if_neg (by decide)]
  exact entry_at hfr hl hf he hkb hen hd (Array.getElem?_eq_some_iff.mp h1).1 h
theorem note_next (hfr : A.frames = some (env :: outer)) (hl : s.heap.FunFrames base (env :: outer)) (hf : env.frame = some L) (ht : Trc s.heap base e cls dict .none) (hkb : base.StaysIn s.heap) (hen : base.get? e = none)
    (h : ∀ h', Sta base (env :: outer) e cls dict (rawInt L) s.heap h' → Q () { s with heap := h' }) : wpAny M A (noteFrame (.ref e) env) Q E s := by
  (refine hide fun PQ kQ => ?_; obtain ⟨oe, vs, T, oT, ts, he, hcls, hdict, hd, h1, hnT, hTe, hT, hdT, h3⟩ := ht; refine kQ ?_; clear kQ PQ)
  subst hcls hdict
  unfold noteFrame
  simp only [hf]
  refine wpAny_bind (wpAny_field he hd h1 ?_)
  rw [if_pos (show (Value.ref T != Value.none) = true from by simp)]
  refine wpAny_bind (wpAny_field hT hdT h3 ?_)
  rw [if_neg (show ¬ ((Value.none == rawInt L) = true) from by simp [rawInt])]
  refine wpAny_bind (wpAny_setField hT hdT (Array.getElem?_eq_some_iff.mp h3).1 ?_)
  have other : ∀ b, b ≠ T → (s.heap.update T (Obj.mapFields (·.setIfInBounds 3 Value.none))).get? b = s.heap.get? b := fun b hb => Heap.get?_update_other _ _ (Ne.symm hb)
  refine entry_at hfr (hl.of_keeps fun b o hb hnf => ⟨o, (other b (no_fields hT hdT b o hb hnf)).trans hb, rfl⟩) hf ((other e (Ne.symm hTe)).trans he)
    (fun b o hbo => (other b fun q => by rw [q, hnT] at hbo; cases hbo).trans (hkb b o hbo)) hen hd (Array.getElem?_eq_some_iff.mp h1).1 fun h' x => h h' ⟨x.stays, x.frames, x.trc, fun b o hb hnf => x.slots b o ((other b (no_fields hT hdT b o hb hnf)).trans hb) hnf⟩
theorem flight_at {l : List Env} {fl : Value} {f : Option Addr} (hkb : base.StaysIn s.heap) (hl : s.heap.FunFrames base l) (ht : Trc s.heap base e cls dict fl)
    (h : ∀ h', Sta base l e cls dict (f.elim Value.none fun f => rawInt f) s.heap h' → Q () { s with heap := h' }) : wpAny M A (setFlight (.ref e) f) Q E s := by
  (refine hide fun PQ kQ => ?_; obtain ⟨oe, vs, T, oT, ts, he, hcls, hdict, hd, h1, hnT, hTe, hT, hdT, h3⟩ := ht; refine kQ ?_; clear kQ PQ)
  have hsz3 : 3 < ts.size := (Array.getElem?_eq_some_iff.mp h3).1
  have other : ∀ b, b ≠ T → (s.heap.update T (Obj.mapFields (·.setIfInBounds 3 (f.elim Value.none fun f => rawInt f)))).get? b = s.heap.get? b :=
    fun b hb => Heap.get?_update_other _ _ (Ne.symm hb)
  unfold setFlight
  refine wpAny_bind (wpAny_field he hd h1 ?_)
  rw [if_pos (show (Value.ref T != Value.none) = true from by simp)]
  refine wpAny_setField hT hdT hsz3 (h _ ⟨fun b o hbo => (other b fun q => by rw [q, hnT] at hbo; cases hbo).trans (hkb b o hbo), hl.of_keeps fun b o hb hnf => ⟨o, (other b (no_fields hT hdT b o hb hnf)).trans hb, rfl⟩, ?_, fun b o hb hnf => ⟨o.slots, (other b (no_fields hT hdT b o hb hnf)).trans hb⟩⟩)
  exact ⟨oe, vs, T, _, _, (other e (Ne.symm hTe)).trans he, hcls, hdict, hd, h1, hnT, hTe, Heap.get?_update_self _ hT (Obj.isFreed_of_fields (Obj.data_mapFields hdT _)), Obj.data_mapFields hdT _, by simp [hsz3]⟩
end
end Mine
end
section
open PySem PySem.Spec PySem.Calls PyProof.Rows PySem.W
set_option Elab.async false
set_option maxRecDepth 100000
set_option maxHeartbeats 4000000
set_option pp.deepTerms false
set_option pp.maxSteps 2500
namespace Mine
noncomputable def RaisedD (base G : Heap) (l : List Env) (e : Addr) (cls : Value) (dict : Option Addr) (news : List (Addr × Obj)) (h : Heap) : Prop :=
  ∃ B, base.StaysIn B ∧ (∀ b o, G.get? b = some o → b ∉ l.filterMap (·.frame) → B.get? b = some o) ∧ (∀ q ∈ news, B.get? q.1 = some q.2 ∧ G.get? q.1 = none ∧ base.get? q.1 = none) ∧
    B.get? e = none ∧ h.FunFrames B l ∧ B.StaysIn h ∧ Trc h B e cls dict .none
theorem x_mem {env : Env} {L b : Addr} {outer : List Env} (hf : env.frame = some L) (hm : b ∈ (env :: outer).filterMap (·.frame)) : b = L ∨ b ∈ outer.filterMap (·.frame) := by
  (refine hide fun PQ kQ => ?_; obtain ⟨env', he, hf'⟩ := List.mem_filterMap.mp hm; refine kQ ?_; clear kQ PQ)
  rcases List.mem_cons.mp he with rfl | he
  · rw [hf] at hf'
    exact .inl (Option.some.inj hf').symm
  · exact .inr (List.mem_filterMap.mpr ⟨env', he, hf'⟩)
section
variable {M : Model} {A : Around} {E : Value → Shared → Prop} {s' : Shared} {base g h : Heap} {outer : List Env} {L a e : Addr} {m : PySem.Str → Option Value} {name : PySem.Str} {scope : Scope} {cd : Value} {Q : Unit → Shared → Prop} {news : List (Addr × Obj)} {oe : Obj} {C : Addr} {D : Option Addr}
theorem leave_raiseD (K : Below A base outer g) (EO : EObj oe C D) (F : Fr g L s'.heap m) (N : News g L s'.heap ((e, oe) :: news)) (hoff : ∀ p ∈ news, p.1 ≠ e)
    (hQ : ∀ h', RaisedD base g outer e (.ref C) D news h' → g.UpToSlots h' → Q () { s' with heap := h' }) (hk : scope.kind = .function) :
    wpAny M (A.deeper (envOf name scope L a cd)) (leaving (envOf name scope L a cd) (.ref e)) Q E s' := by
  have K' := K.push (name := name) (a := a) (cd := cd) F hk
  generalize hfs : (e :: (envOf name scope L a cd :: outer).filterMap (·.frame)) = fs
  have hNe := N _ (.head _)
  obtain ⟨t, hdat⟩ := EO.data
  have eoff : e ∉ (envOf name scope L a cd :: outer).filterMap (·.frame) := fun hm => by
    (refine hide fun PQ kQ => ?_; obtain ⟨_, o, ho, hnf⟩ := K'.frames.mem hm; refine kQ ?_; clear kQ PQ)
    exact no_fields hNe.1 hdat _ _ ho hnf rfl
  have hin : ∀ env ∈ (envOf name scope L a cd :: outer), ∀ b, env.frame = some b → b ∈ fs := fun env he b hb => by
    rw [← hfs]; exact .tail _ (List.mem_filterMap.mpr ⟨env, he, hb⟩)
  have base_e : base.get? e = none := fresh_of_stays K.stays hNe.2.2
  have st : base.StaysIn (hideAll s'.heap fs) := fun b o q => hideAll_get _ (K'.stays b o q) fun hm => by
    rw [← hfs] at hm
    rcases List.mem_cons.mp hm with rfl | hm
    · rw [base_e] at q; cases q
    · rw [(K'.frames.mem hm).1] at q; cases q
  have sg : ∀ b o, g.get? b = some o → b ∉ outer.filterMap (·.frame) → (hideAll s'.heap fs).get? b = some o := fun b o q nm => hideAll_get _ (F.keep b o q) fun hm => by
    rw [← hfs] at hm
    rcases List.mem_cons.mp hm with rfl | hm
    · rw [hNe.2.2] at q; cases q
    rcases kts_mem hm with z | z
    · rw [z, kts_self F] at q
      cases q
    · exact nm z
  have hl : ∀ q ∈ news, (hideAll s'.heap fs).get? q.1 = some q.2 ∧ g.get? q.1 = none ∧ base.get? q.1 = none := fun q hq => by
    have Nq := N q (.tail _ hq)
    refine ⟨hideAll_get _ Nq.1 fun hm => ?_, Nq.2.2, fresh_of_stays K.stays Nq.2.2⟩
    rw [← hfs] at hm
    rcases List.mem_cons.mp hm with z | hm
    · exact hoff q hq z
    (refine hide fun PQ kQ => ?_; obtain ⟨env, he, hf⟩ := List.mem_filterMap.mp hm; refine kQ ?_; clear kQ PQ)
    rcases List.mem_cons.mp he with rfl | he
    · exact Nq.2.1 (Option.some.inj hf).symm
    · (refine hide fun PQ kQ => ?_; obtain ⟨o, ho, _⟩ := (K.frames.mem (List.mem_filterMap.mpr ⟨env, he, hf⟩)).2; refine kQ ?_; clear kQ PQ)
      rw [Nq.2.2] at ho; cases ho
  have be : (hideAll s'.heap fs).get? e = none := hideAll_none _ (by rw [← hfs]; exact .head _)
  have ff : s'.heap.FunFrames (hideAll s'.heap fs) (envOf name scope L a cd :: outer) := funFrames_hide K'.frames hin
  unfold leaving
  refine wpAny_bind (note_first (base := hideAll s'.heap fs) K'.stack ff rfl hNe.1 (fun b o q => of_hideAll _ q) be hdat rfl fun h₁ S₁ => ?_)
  refine flight_at (f := none) S₁.stays S₁.frames S₁.trc fun h₂ S₂ => ?_
  have hc := EO.cls
  have hd := EO.dict
  refine hQ h₂ ⟨_, st, sg, hl, be, ?_, S₂.stays, ?_⟩ (((Heap.UpToSlots.of_keeps F.keep).trans S₁.slots).trans S₂.slots)
  · exact S₂.frames.2.2
  · have := S₂.trc
    rw [hc, hd] at this
    exact this
end
section
variable {prog : Program} {w : World} {A₀ : Around} {E : Value → Shared → Prop} {s' : Shared} {base g G : Heap} {outer : List Env} {L a e C N₀ fI : Addr} {m mN : PySem.Str → Option Value} {name : PySem.Str} {scope : Scope} {cd : Value} {dict : Option Addr}
  {n : PySem.Str} {b₀ : Stmt} {suite : List Stmt} {pos np : Pos} {rest : List ExceptHandler} {Q : Flow → Shared → Prop} {news : List (Addr × Obj)} {KF : Frag}
  {p : Program} {loose : List PySem.Str} {mean : PySem.ExcName → Option Value} {mg mb : PySem.Str → Option Value} {x : PySem.Str}
theorem caughtD (R : RaisedD base G (envOf name scope L a cd :: outer) e (.ref C) dict news s'.heap) (F : Fr g L G m) (K : Below A₀ base outer g) (hsm : G.UpToSlots s'.heap) (XB : KF.In base) (TB : Top p loose mean mg mb base)
    (D : KtsDicts (outer.filterMap (·.frame)) g) (EC : ∀ h, KF.In h → ECls h C N₀ fI (h.nsMap N₀)) (ex : nsIn KF mainGlobals x = some (some (.ref C)))
    (k : ∀ h' g' tk oe, KtsTurn (outer.filterMap (·.frame)) g g' → Fr g' L h' (fun y => if y = n then some (.ref e) else m y) → News g' L h' ((e, oe) :: news) → oe.cls = .ref C → oe.dict = dict → (∃ ws, oe.data = .fields ws) → Below A₀ base outer g' → KF.In g' → Top p loose mean mg mb g' → KtsDicts (outer.filterMap (·.frame)) g' →
      wpAny (model prog w) ((A₀.deeper (envOf name scope L a cd)).mark (some (.ref e))) (execs (b₀ :: suite) (envOf name scope L a cd))
        (fun f s₄ => wpAny (model prog w) (A₀.deeper (envOf name scope L a cd)) (do bindName (envOf name scope L a cd) n .none; unbindBehindTheSuite (envOf name scope L a cd) n pos) (fun _ s₅ => Q f s₅) E s₄)
        (AsSuiteRaised (model prog w) ((A₀.deeper (envOf name scope L a cd)).mark (some (.ref e))) (envOf name scope L a cd) n pos (notedBy (model prog w) ((A₀.deeper (envOf name scope L a cd)).mark (some (.ref e))) (envOf name scope L a cd) (cameBackBy (model prog w) (A₀.deeper (envOf name scope L a cd)) (envOf name scope L a cd) E)))
        { s' with heap := h', toks := tk })
    (hk : scope.kind = .function) (hlo : (envOf name scope L a cd).kindOf n = some .local) (hx : (envOf name scope L a cd).kindOf x = some .globalImplicit) (hd : (x == ("__debug__" : PySem.Str)) = false) :
    wpAny (model prog w) (A₀.deeper (envOf name scope L a cd)) (noteFrame (.ref e) (envOf name scope L a cd))
      (fun _ s₂ => wpAny (model prog w) (A₀.deeper (envOf name scope L a cd)) (setFlight (.ref e) none) (fun _ s₃ =>
        wpAny (model prog w) (A₀.deeper (envOf name scope L a cd)) (handleBy (.ref e) (envOf name scope L a cd) (.ExceptHandler (some (.Name x np)) (some n) (b₀ :: suite) pos :: rest)) Q E s₃) E s₂) E s' := by
  (refine hide fun PQ kQ => ?_; obtain ⟨B, hB, hBG, hl, hBe, hfl, hst, htr⟩ := R; refine kQ ?_; clear kQ PQ)
  have hL : B.get? L = none := by
    (refine hide fun PQ kQ => ?_; obtain ⟨_, ⟨L', _, hf, hn', _⟩, _⟩ := hfl; refine kQ ?_; clear kQ PQ)
    obtain rfl : L = L' := Option.some.inj hf
    exact hn'
  refine note_next (Around.frames_deeper K.stack) hfl rfl htr hst hBe fun h₄ S₄ => ?_
  refine flight_at (f := none) S₄.stays S₄.frames S₄.trc fun h₅ S₅ => ?_
  have hsm₅ := (hsm.trans S₄.slots).trans S₅.slots
  (refine hide fun PQ kQ => ?_; obtain ⟨g₅, T₅, F₅, K₅⟩ := kts_ground K F hBG S₅.stays hsm₅; refine kQ ?_; clear kQ PQ)
  have X₅ : KF.In g₅ := XB.keeps K₅.stays
  have P₅ : TopRead p loose mg mb g₅ := topRead_of (TB.keeps K₅.stays)
  (refine hide fun PQ kQ => ?_; obtain ⟨⟨nm, qn, bs, sn, sub, ab, col, dd, k0, k1, k2, k3, k5, hC⟩, _⟩ := (EC _ X₅).keeps F₅.keep; refine kQ ?_; clear kQ PQ)
  (refine hide fun PQ kQ => ?_; obtain ⟨ob, _, _, _, _, hob, hobc, _⟩ := id S₅.trc; refine kQ ?_; clear kQ PQ)
  refine wpAny_handleBy_cons (codeAny_handlers_test (name_K F₅ X₅ P₅ ex ?_ hk hx hd)) (by intro q; cases q)
  refine wpAny_excMatches_sub_self hC hob hobc (by decide) (codeAny_handlers_suite_as ?_)
  refine flight_at (f := none) S₅.stays S₅.frames S₅.trc fun h₆ S₆ => ?_
  have hsm₆ := hsm₅.trans S₆.slots
  (refine hide fun PQ kQ => ?_; obtain ⟨g₆, T₆, F₆, K₆⟩ := kts_ground K F hBG S₆.stays hsm₆; refine kQ ?_; clear kQ PQ)
  (refine hide fun PQ kQ => ?_; obtain ⟨oe, ws, _, _, _, hoe, hoec, hoed, hoedt, _⟩ := id S₆.trc; refine kQ ?_; clear kQ PQ)
  have ne₆ : g₆.get? e = none := T₆.none_ _ (kts_fresh F hBG hBe fun o ho mm => by
    (refine hide fun PQ kQ => ?_; obtain ⟨_, o', ho', hd⟩ := K.frames.mem mm; refine kQ ?_; clear kQ PQ)
    rw [ho] at ho'
    cases ho'
    obtain ⟨sl, hs⟩ := hsm₆ _ _ (F.keep _ _ ho) hd
    rw [hoe] at hs
    cases hs
    exact hd _ hoedt)
  have Nl : News g₆ L h₆ news := fun q hq => ⟨S₆.stays _ _ (hl q hq).1, (fun z => by have := (hl q hq).1; rw [z, hL] at this; cases this), T₆.none_ _ (kts_none F.keep (hl q hq).2.1)⟩
  have N₆ := News.more F₆ Nl hoe (fun es n q => by rw [hoedt] at q; cases q) ne₆
  have X₆ : KF.In g₆ := XB.keeps K₆.stays
  have P₆ : Top p loose mean mg mb g₆ := TB.keeps K₆.stays
  refine stN F₆ N₆ (fun h₇ F₇ N₇ => ?_) hk hlo
  exact k h₇ g₆ _ oe T₆ F₇ N₇ hoec hoed ⟨ws, hoedt⟩ K₆ X₆ P₆ (D.turn T₆)
end
end Mine
end
section
open PySem PySem.Spec PySem.Calls PyProof.Rows PySem.W
set_option Elab.async false
set_option maxRecDepth 100000
set_option maxHeartbeats 4000000
set_option pp.deepTerms false
set_option pp.maxSteps 2500
namespace Mine
inductive LeaveX (fs : List Addr) (A₀ : Around) (base : Heap) (outer : List Env) (K : Frag) (p : Program) (loose : List PySem.Str) (mean : PySem.ExcName → Option Value) (mg mb : PySem.Str → Option Value) (h₀ : Heap) (L : Addr) (m : PySem.Str → Option Value) (g : Heap) (R : Result → Shared → Prop) (v : Value) (s' : Shared) : Prop
  | go (g' : Heap) (L' : Addr) (m' : PySem.Str → Option Value) (news' : List (Addr × Obj)) (T' : KtsTurn fs g g') (F' : Fr g' L' s'.heap m') (N' : News g' L' s'.heap news') (k : ∀ h₀', KtsTurn (outer.filterMap (·.frame)) h₀ h₀' → Fr h₀' L s'.heap m → News h₀' L s'.heap news' → Below A₀ base outer h₀' → K.In h₀' → Top p loose mean mg mb h₀' →
    KtsDicts (outer.filterMap (·.frame)) h₀' → R (.ok (.ret v)) s')
  | no (h : False)
section
variable {prog : Program} {w : World} {A₀ A : Around} {s : Shared} {base h₀ : Heap} {outer : List Env} {L : Addr} {m : PySem.Str → Option Value} {news : List (Addr × Obj)} {K : Frag} {p : Program} {loose : List PySem.Str} {mean : PySem.ExcName → Option Value} {mg mb : PySem.Str → Option Value} {env : Env}
    {R : Result → Shared → Prop} {name qual : PySem.Str} {params : Arguments} {body : List Stmt} {scope : Scope} {dV kV doc pm cdv ct oc : Value} {an od : Option Addr} {osl : Array (Option Value)} {f : Addr} {args : Args} {binds : List (PySem.Str × Value)}
theorem enterX (B : Below A₀ base outer h₀) (F : Fr h₀ L s.heap m) (N : News h₀ L s.heap news) (hA : A.frames = some (env :: outer)) (hf : env.frame = some L) (hke : env.scope.kind = .function) :
    ∃ oL es ep, (hideAll s.heap (news.map (·.1))).get? L = some oL ∧ oL.data = .dict es ep ∧ (∀ h', h'.get? L = some oL → Heap.Ns h' L m) ∧ (∀ (sl : Array (Option Value)) h', h'.get? L = some { oL with slots := sl } → Heap.Ns h' L m) ∧
      h₀.StaysIn (hideAll s.heap (news.map (·.1))) ∧ Below A base (env :: outer) (hideAll s.heap (news.map (·.1))) := by
  have nm : ∀ b o, h₀.get? b = some o → b ∉ news.map (·.1) := fun b o e q => by
    (refine hide fun PQ kQ => ?_; obtain ⟨p, hp, rfl⟩ := List.mem_map.mp q; refine kQ ?_; clear kQ PQ)
    rw [(N p hp).2.2] at e; cases e
  have st : h₀.StaysIn (hideAll s.heap (news.map (·.1))) := fun b o e => hideAll_get _ (F.keep b o e) (nm b o e)
  (refine hide fun PQ kQ => ?_; obtain ⟨oL, es, ep, hL, hLd, hLk, hLf⟩ := id F.ns; refine kQ ?_; clear kQ PQ)
  have nL : L ∉ news.map (·.1) := fun q => by
    (refine hide fun PQ kQ => ?_; obtain ⟨p, hp, e⟩ := List.mem_map.mp q; refine kQ ?_; clear kQ PQ)
    exact (N p hp).2.1 e
  have hLg := hideAll_get (news.map (·.1)) hL nL
  have hnew : base.get? L = none := by
    cases hq : base.get? L with
    | none => rfl
    | some o => exact absurd (Nat.lt_of_lt_of_le (Heap.lt_size (B.stays L o hq)) F.above) (Nat.lt_irrefl _)
  have ff : s.heap.FunFrames base (env :: outer) := .cons (by rw [hke]; decide) hf F.ns hnew (B.frames.of_keeps fun b o e _ => ⟨o, F.keep b o e, rfl⟩)
  exact ⟨oL, es, ep, hLg, hLd, fun h' e => ⟨oL, es, ep, e, hLd, hLk, hLf⟩, fun sl h' e => ⟨_, es, ep, e, hLd, hLk, hLf⟩, st, ⟨hA, fun b o e => st b o (B.stays b o e), funFrames_hideAll ff fun env' he b hb hfb => by
    cases he with
    | head => rw [hf] at hfb; exact nL ((Option.some.inj hfb : L = b) ▸ hb)
    | tail _ he =>
      (refine hide fun PQ kQ => ?_; obtain ⟨L₁, o₁, hf₁, ho₁⟩ := funFrames_in B.frames env' he; refine kQ ?_; clear kQ PQ)
      rw [hf₁] at hfb
      exact nm L₁ o₁ ho₁ ((Option.some.inj hfb : L₁ = b) ▸ hb)⟩⟩
theorem code_defX (B : Below A₀ base outer h₀) (F : Fr h₀ L s.heap m) (X₀ : K.In h₀) (N : News h₀ L s.heap news) (T : Top p loose mean mg mb h₀) (XB : K.In base) (TB : Top p loose mean mg mb base) (D : KtsDicts (outer.filterMap (·.frame)) h₀)
    (hA : A.frames = some (env :: outer)) (hf : env.frame = some L) (hke : env.scope.kind = .function)
    (ho : K.lookup f = some ⟨oc, od, .func (fnOf name qual params body scope dV kV doc pm an cdv ct), osl⟩) (hcd : codeIn K cdv qual = true) (hroom : A.depth < recursionLimit)
    (hbind : BindsTo s (fnOf name qual params body scope dV kV doc pm an cdv ct) args binds) (hloc : ∀ y ∈ binds, scope.names.lookup y.1 = some .local)
    (h : ∀ g L' h₁, Fr h₀ L g m → Fr g L' h₁ (fun y => binds.reverse.lookup y) → News g L' h₁ news → Below A base (env :: outer) g → K.In g → Top p loose mean mg mb g → KtsDicts ((env :: outer).filterMap (·.frame)) g →
      wpAny (model prog w) (A.deeper (envOf qual scope L' f cdv)) (execs body (envOf qual scope L' f cdv))
        (fun fl s' => Stop (LeaveX ((env :: outer).filterMap (·.frame)) A₀ base outer K p loose mean mg mb h₀ L m g R (match fl with | .ret v => v | _ => .none) s'))
        (fun e s' => wpAny (model prog w) (A.deeper (envOf qual scope L' f cdv)) (leaving (envOf qual scope L' f cdv) e) (fun _ s'' => R (.error e) s'') (fun e' s'' => R (.error e') s'') s')
        { s with heap := h₁, toks := s.toks + binds.length })
    (hco : scope.isCoroutine = false) (hgen : scope.isGenerator = false) (hk : scope.kind = .function)
    (hcell : ∀ x ∈ scope.names, x.2 ≠ .cell) : codeAny (model prog w) A (.call (.ref f) args) R s := by
  have X := X₀.keeps F.keep
  refine codeAny_call_def (fd := fnOf name qual params body scope dV kV doc pm an cdv ct) (body := body) (binds := binds) hroom (X _ _ ho) rfl (T.nolimit.keeps F.keep) (codeRec_of X hcd) rfl hbind hcell hloc (fun h₁ hns hk₁ => ?_) hco hgen hk
  (refine hide fun PQ kQ => ?_; obtain ⟨oL, es, ep, hLg, hLd, hN, hNs, st, B₂⟩ := enterX B F N hA hf hke; refine kQ ?_; clear kQ PQ)
  refine wpAny_mono (h _ s.heap.objs.size h₁ ⟨hN _ hLg, st, F.above⟩ ⟨hns, fun b o e => hk₁ b o (of_hideAll _ e), Nat.le_of_eq (hideAll_size _ _)⟩
    (fun p hp => ⟨hk₁ _ _ (N p hp).1, Nat.ne_of_lt (Heap.lt_size (N p hp).1), hideAll_none _ (List.mem_map_of_mem hp)⟩) B₂ (X₀.keeps st) (T.keeps st) (fun b hb => by
      rcases x_mem hf hb with rfl | hb
      · exact ⟨oL, es, ep, hLg, hLd⟩
      · (refine hide fun PQ kQ => ?_; obtain ⟨o, es', n', ho', hd'⟩ := D b hb; refine kQ ?_; clear kQ PQ)
        exact ⟨o, es', n', st b o ho', hd'⟩)) (fun fl s' hl => ?_) fun _ _ y => y
  have nL₀ : h₀.get? L = none := kts_self F
  obtain ⟨g', L', m', news', T', F', N', k⟩ | hno := Stop.i hl
  case no => exact hno.elim
  obtain ⟨sl, hs⟩ := T'.up hLg
  obtain ⟨T₁, S₁⟩ := kts_turn_at (h := s'.heap) (fs := outer.filterMap (·.frame)) (g := h₀)
    (fun b hb => by
      (refine hide fun PQ kQ => ?_; obtain ⟨_, o, ho', _⟩ := B.frames.mem hb; refine kQ ?_; clear kQ PQ)
      exact ⟨o, ho'⟩)
    (fun b o e nmem => F'.keep b o (T'.other b o (st b o e) (fun q => by
      rcases x_mem hf q with z | z
      · rw [z, nL₀] at e
        cases e
      · exact nmem z)))
    (fun b o e hm => by
      obtain ⟨sl', hs'⟩ := T'.up (st b o e)
      exact ⟨sl', F'.keep _ _ hs'⟩)
  have B₃ : Below A₀ base outer (ktsHeap s'.heap (outer.filterMap (·.frame)) h₀) := ⟨B.stack, fun b o e => T₁.other b o (B.stays b o e) (fun hm => by
    rw [(B.frames.mem hm).1] at e
    cases e), B.frames.of_keeps fun b o e _ => by
    obtain ⟨sl', hs'⟩ := T₁.up e
    exact ⟨_, hs', rfl⟩⟩
  refine k _ T₁ ⟨hNs sl _ (F'.keep _ _ hs), S₁, by rw [T₁.size]; exact F.above⟩ (fun p hp => ⟨(N' p hp).1, fun q => ?_, ?_⟩) B₃ (XB.keeps B₃.stays) (TB.keeps B₃.stays) (D.turn T₁)
  · have := (N' p hp).2.2; rw [q, hs] at this; cases this
  · refine T₁.none_ _ ?_
    cases q : h₀.get? p.1 with
    | none => rfl
    | some o =>
      obtain ⟨sl', hs'⟩ := T'.up (st _ _ q)
      have := (N' p hp).2.2
      rw [hs'] at this
      cases this
end
noncomputable def TellS (w : World) (room : Nat) (f : Addr) (Rel : List (Addr × Obj) → List Value → Prop) (Out : List (Addr × Obj) → Value → Prop) : Prop :=
  ∀ (prog : Program) (p : Program) (loose : List PySem.Str) (mean : PySem.ExcName → Option Value) (mg mb : PySem.Str → Option Value)
    (dp un : Nat) (gd : Option (List Code)) (cn : PySem.Str) (cs : Scope) (a : Addr) (ccd : Value) (cl : List (PySem.Str × Addr)) (outer : List Env) (A₀ : Around) (base h₀ : Heap) (L : Addr) (m : PySem.Str → Option Value) (news : List (Addr × Obj)) (s : Shared) (vs : List Value)
    (Q E : Value → Shared → Prop),
    Below A₀ base outer h₀ → Fr h₀ L s.heap m → (hd.heap_1 w.params).In h₀ → News h₀ L s.heap news → Top p loose mean mg mb h₀ → cs.kind = .function → (hd.heap_1 w.params).In base → Top p loose mean mg mb base → KtsDicts (outer.filterMap (·.frame)) h₀ → Rel news vs → dp + room < recursionLimit → un + 8 * room < cLine →
    (∀ r tl h' tk' h₀', Below A₀ base outer h₀' → Fr h₀' L h' m → (hd.heap_1 w.params).In h₀' → News h₀' L h' (tl ++ news) → Top p loose mean mg mb h₀' → KtsDicts (outer.filterMap (·.frame)) h₀' → KtsTurn (outer.filterMap (·.frame)) h₀ h₀' → (∀ q ∈ news, ∀ p ∈ tl, q.1 < p.1) → Out tl r → Q r { s with heap := h', toks := tk' }) →
    wpAny (model prog w) (ktrTop dp un gd cn cs L a ccd cl outer) (call (.ref f) vs) Q E s
theorem TellS.use {w : World} {room : Nat} {f : Addr} {Rel : List (Addr × Obj) → List Value → Prop} {Out : List (Addr × Obj) → Value → Prop} {prog : Program} {p : Program} {loose : List PySem.Str} {mean : PySem.ExcName → Option Value} {mg mb : PySem.Str → Option Value}
    {dp un : Nat} {gd : Option (List Code)} {cn : PySem.Str} {cs : Scope} {a : Addr} {ccd : Value} {cl : List (PySem.Str × Addr)} {outer : List Env} {A₀ : Around} {base h₀ : Heap} {L : Addr} {m : PySem.Str → Option Value} {news : List (Addr × Obj)} {s : Shared} {vs : List Value} {Q E : Value → Shared → Prop}
    (B : Below A₀ base outer h₀) (F : Fr h₀ L s.heap m) (X : (hd.heap_1 w.params).In h₀) (N : News h₀ L s.heap news) (T : Top p loose mean mg mb h₀) (hk : cs.kind = .function) (XB : (hd.heap_1 w.params).In base) (TB : Top p loose mean mg mb base) (D : KtsDicts (outer.filterMap (·.frame)) h₀) (C : TellS w room f Rel Out) (R : Rel news vs) (hdp : dp + room < recursionLimit) (hun : un + 8 * room < cLine)
    (ret : ∀ r tl h' tk' h₀', Below A₀ base outer h₀' → Fr h₀' L h' m → (hd.heap_1 w.params).In h₀' → News h₀' L h' (tl ++ news) → Top p loose mean mg mb h₀' → KtsDicts (outer.filterMap (·.frame)) h₀' → KtsTurn (outer.filterMap (·.frame)) h₀ h₀' → (∀ q ∈ news, ∀ p ∈ tl, q.1 < p.1) → Out tl r → Q r { s with heap := h', toks := tk' }) :
    wpAny (model prog w) (ktrTop dp un gd cn cs L a ccd cl outer) (call (.ref f) vs) Q E s := by
  unfold TellS at C
  exact C prog p loose mean mg mb dp un gd cn cs a ccd cl outer A₀ base h₀ L m news s vs Q E B F X N T hk XB TB D R hdp hun ret
noncomputable def TellR (w : World) (room : Nat) (f C : Addr) (Rel : List (Addr × Obj) → List Value → Prop) (Out : List (Addr × Obj) → Value → Prop) (OutE : List (Addr × Obj) → Addr → Prop) : Prop :=
  ∀ (prog : Program) (p : Program) (loose : List PySem.Str) (mean : PySem.ExcName → Option Value) (mg mb : PySem.Str → Option Value)
    (dp un : Nat) (gd : Option (List Code)) (cn : PySem.Str) (cs : Scope) (a : Addr) (ccd : Value) (cl : List (PySem.Str × Addr)) (outer : List Env) (A₀ : Around) (base h₀ : Heap) (L : Addr) (m : PySem.Str → Option Value) (news : List (Addr × Obj)) (s : Shared) (vs : List Value)
    (Q E : Value → Shared → Prop),
    Below A₀ base outer h₀ → Fr h₀ L s.heap m → (hd.heap_1 w.params).In h₀ → News h₀ L s.heap news → Top p loose mean mg mb h₀ → cs.kind = .function → Rel news vs → dp + room < recursionLimit → un + 8 * room < cLine →
    (∀ r tl h' tk', Fr h₀ L h' m → News h₀ L h' (tl ++ news) → (∀ q ∈ news, ∀ p ∈ tl, q.1 < p.1) → Out tl r → Q r { s with heap := h', toks := tk' }) →
    (∀ g e D tl h' tk', Fr h₀ L g m → RaisedD base g (envX cn cs L a ccd cl :: outer) e (.ref C) (some D) (tl ++ news) h' → g.UpToSlots h' → (∀ q ∈ news, ∀ p ∈ tl, q.1 < p.1) → (∀ q ∈ news, q.1 < e) → OutE tl D → E (.ref e) { s with heap := h', toks := tk' }) →
    wpAny (model prog w) (ktrTop dp un gd cn cs L a ccd cl outer) (call (.ref f) vs) Q E s
theorem TellR.use {w : World} {room : Nat} {f C : Addr} {Rel : List (Addr × Obj) → List Value → Prop} {Out : List (Addr × Obj) → Value → Prop} {OutE : List (Addr × Obj) → Addr → Prop} {prog : Program} {p : Program} {loose : List PySem.Str} {mean : PySem.ExcName → Option Value} {mg mb : PySem.Str → Option Value}
    {dp un : Nat} {gd : Option (List Code)} {cn : PySem.Str} {cs : Scope} {a : Addr} {ccd : Value} {cl : List (PySem.Str × Addr)} {outer : List Env} {A₀ : Around} {base h₀ : Heap} {L : Addr} {m : PySem.Str → Option Value} {news : List (Addr × Obj)} {s : Shared} {vs : List Value} {Q E : Value → Shared → Prop}
    (B : Below A₀ base outer h₀) (F : Fr h₀ L s.heap m) (X : (hd.heap_1 w.params).In h₀) (N : News h₀ L s.heap news) (T : Top p loose mean mg mb h₀) (hk : cs.kind = .function) (K : TellR w room f C Rel Out OutE) (R : Rel news vs) (hdp : dp + room < recursionLimit) (hun : un + 8 * room < cLine)
    (ret : ∀ r tl h' tk', Fr h₀ L h' m → News h₀ L h' (tl ++ news) → (∀ q ∈ news, ∀ p ∈ tl, q.1 < p.1) → Out tl r → Q r { s with heap := h', toks := tk' })
    (raise : ∀ g e D tl h' tk', Fr h₀ L g m → RaisedD base g (envX cn cs L a ccd cl :: outer) e (.ref C) (some D) (tl ++ news) h' → g.UpToSlots h' → (∀ q ∈ news, ∀ p ∈ tl, q.1 < p.1) → (∀ q ∈ news, q.1 < e) → OutE tl D → E (.ref e) { s with heap := h', toks := tk' }) :
    wpAny (model prog w) (ktrTop dp un gd cn cs L a ccd cl outer) (call (.ref f) vs) Q E s := by
  unfold TellR at K
  exact K prog p loose mean mg mb dp un gd cn cs a ccd cl outer A₀ base h₀ L m news s vs Q E B F X N T hk R hdp hun ret raise
end Mine
end
local macro_rules | `(tactic| ktn_open) => `(tactic| (refine' PySem.W.code_def (by k_asm) (by k_asm) (by k_asm) (by k_asm) (by k_asm) rfl rfl (by first | assumption | exact rfl) (by k_is) (by k_is) (by ktr_room) (by first | exact PySem.BindsTo.of_eq rfl | exact PySem.W.binds_K (by k_in) rfl (by k_is) rfl rfl rfl) (by exact PyProof.Rows.locs rfl) ?_ (by exact rfl) (by exact rfl) (by exact rfl) (by decide); k_whole; intros; (try dsimp only); (try k_fold)))
local macro_rules | `(tactic| k_enter) => `(tactic| ktn_open)
local macro_rules | `(tactic| walk_at "call builtin:len") => `(tactic| (k_here; (with_reducible show PySem.wpAny _ _ (PySem.call (PySem.Value.builtin "len") [PySem.Value.ref _]) _ _ _); (refine PySem.W.KM.len_K (by k_asm) (by k_dflt k_mem) List.size_toArray (by omega) ?_); dsimp only))
local macro_rules | `(tactic| open_k0) => `(tactic| (refine' Mine.code_defX (by k_asm) (by k_asm) (by k_asm) (by k_asm) (by k_asm) (by k_asm) (by k_asm) (by k_asm) rfl rfl (by first | assumption | exact rfl) (by k_is) (by k_is) (by ktr_room) (by first | exact PySem.BindsTo.of_eq rfl | exact PySem.W.binds_K (by k_in) rfl (by k_is) rfl rfl rfl) (by exact PyProof.Rows.locs rfl) ?_ (by exact rfl) (by exact rfl) (by exact rfl) (by decide); k_whole; intros; (try dsimp only); (try k_fold)))
def Mine.stopAt (k : Lean.TSyntax `str) (ks : List String) : Lean.MacroM Lean.Syntax := do
  if ks.contains k.getString then `(tactic| (refine Mine.Stop.i ?_)) else Lean.Macro.throwUnsupported
section
open PySem PySem.Spec PySem.Calls PyProof.Rows PySem.W
set_option Elab.async false
set_option maxRecDepth 100000
set_option maxHeartbeats 8000000
set_option pp.deepTerms false
set_option pp.maxSteps 2500
namespace Mine
theorem myex2_off : True := by
  w_top off
  trivial
local macro_rules | `(tactic| walk_at $k) => Mine.stopAt k ["setAttr ref"]
noncomputable def ExcAt (C : Addr) (n1 n2 n3 : PySem.Str) (a b c : Value) (tl : List (Addr × Obj)) (r : Value) : Prop :=
  ∃ e D oe oD t ot, tl = [(e, oe), (D, oD), (t, ot)] ∧ r = .ref e ∧ EObj oe C (some D) ∧ Ns1O oD (fun y => if y = n3 then some c else if y = n2 then some b else if y = n1 then some a else none) ∧ t < e ∧ e < D
theorem exc182_tell (w : World) (a b c : Value) : Tell w 20 182 (fun _ vs => vs = [a, b, c]) (ExcAt 182 "test" "example" "got" a b c) := by
  have hfill : PySem.Challenge.rw_wa0025_01 = PySem.Challenge.rw_wa0025_01 ∧ hd.heap_1 = hd.heap_1 := by k_fill; exact ⟨rfl, rfl⟩
  unfold Tell
  intro prog p loose mean mg mb dp un gd cn cs ad ccd cl outer A₀ base h₀ L m news s vs Q E B F X N T hk hR hdp hun hret
  obtain rfl := hR
  (refine hide fun PQ kQ => ?_; obtain ⟨hh, g, d, t, os⟩ := s; refine kQ ?_; clear kQ PQ)
  (refine hide fun PQ kQ => ?_; obtain ⟨⟨nm, q, bs, sn, sub, ab, col, dd, k0, k1, k2, k3, k5, hC⟩, hns, hin, _⟩ := (ecls182 X).keeps F.keep; refine kQ ?_; clear kQ PQ)
  refine call_exc_init PySem.F.excBase_Exception hC hns hin (F.keep _ _ (X 172 _ rfl)) rfl ?_ (by size_fits)
  have lt0 : ∀ {b ob}, hh.get? b = some ob → b < hh.objs.size := fun e => Heap.lt_size e
  have keep2 : ∀ z ob, hh.get? z = some ob → (excHeap hh 182 [a, b, c]).get? z = some ob := fun z ob e => ex_keep e
  have g0 : ∀ z, hh.objs.size ≤ z → h₀.get? z = none := fun z hz => by
    cases q : h₀.get? z with
    | none => rfl
    | some o => exact absurd (lt0 (F.keep _ _ q)) (Nat.not_lt.mpr hz)
  have hot : (excHeap hh 182 [a, b, c]).get? hh.objs.size = some { cls := .type "tuple", data := .seq ([a, b, c] : List Value).toArray } := ex_args
  have hoe : (excHeap hh 182 [a, b, c]).get? (hh.objs.size + 1) = some { cls := .ref 182, data := .fields #[.ref hh.objs.size, .none, .none, .none, .bool false, .none] } := ex_self
  have F2 : Fr h₀ L (excHeap hh 182 [a, b, c]) m := F.keeps keep2
  have N2 : News h₀ L (excHeap hh 182 [a, b, c]) news := fun p hp => ⟨keep2 _ _ (N p hp).1, (N p hp).2⟩
  have N3 := News.more F2 (News.more F2 N2 hot (fun es n q => by cases q) (g0 _ (Nat.le_refl _))) hoe (fun es n q => by cases q) (g0 _ (Nat.le_succ _))
  have hlt : ∀ p ∈ news, p.1 < hh.objs.size := fun p hp => lt0 (N p hp).1
  generalize hH : excHeap hh 182 [a, b, c] = H at F2 N2 N3 hot hoe ⊢
  generalize he : hh.objs.size + 1 = e at N3 hoe ⊢
  generalize ht : hh.objs.size = tt at *
  have hte : tt < e := by rw [← he]; exact Nat.lt_succ_self _
  clear hH keep2 hC hns hin N F lt0 g0 N2
  generalize hoe' : ({ cls := .ref 182, data := .fields #[.ref tt, .none, .none, .none, .bool false, .none] } : Obj) = oe at N3 hoe
  generalize hot' : ({ cls := .type "tuple", data := .seq ([a, b, c] : List Value).toArray } : Obj) = ot at N3 hot
  have EO : EObj oe 182 none := by subst hoe'; exact ⟨rfl, rfl, _, rfl⟩
  clear hoe hot hoe' hot'
  refine wpAny_call ?_
  k_dflt ktn_open
  k_steps
  refine Stop.e ?_
  rename_i g4 L4 h4 FG4 F4 N4 B4 X4 T4
  have hoff : ∀ p ∈ (tt, ot) :: news, p.1 ≠ e := fun p hp => by
    rcases List.mem_cons.mp hp with rfl | hp
    · exact Nat.ne_of_lt hte
    · exact Nat.ne_of_lt (Nat.lt_trans (hlt p hp) hte)
  refine setE_first F4 N4 (ecls182 X4) EO hoff (fun h5 tk5 D oe5 oD5 F5 N5 EO5 nD5 hD1 hD2 => ?_) (ns_none_of X4 (ecls182 X4).ns rfl) (by rw [typeLookup_type, builtinLookup_eq_fast]; kernel_rfl)
  clear F4 N4
  have hoff2 : ∀ p ∈ (tt, ot) :: news, p.1 ≠ e ∧ p.1 ≠ D := fun p hp => ⟨hoff p hp, Nat.ne_of_lt (hD1 p hp)⟩
  dsimp only
  k_steps
  refine Stop.e ?_
  refine setE_next F5 N5 (ecls182 X4) EO5 nD5 hoff2 hD2 (fun h6 tk6 oD6 F6 N6 nD6 => ?_) (ns_none_of X4 (ecls182 X4).ns rfl) (by rw [typeLookup_type, builtinLookup_eq_fast]; kernel_rfl) (by within_ways) (by size_fits)
  clear F5 N5
  dsimp only
  k_steps
  refine Stop.e ?_
  refine setE_next F6 N6 (ecls182 X4) EO5 nD6 hoff2 hD2 (fun h7 tk7 oD7 F7 N7 nD7 => ?_) (ns_none_of X4 (ecls182 X4).ns rfl) (by rw [typeLookup_type, builtinLookup_eq_fast]; kernel_rfl) (by within_ways) (by size_fits)
  clear F6 N6
  dsimp only
  k_steps
  rename Fr h₀ L _ m => kF
  rename News h₀ L _ _ => kN
  refine hret _ [(e, oe5), (D, oD7), (tt, ot)] _ _ kF kN (fun q hq p hp => ?_) ⟨e, D, oe5, oD7, tt, ot, rfl, rfl, EO5, nD7, hte, hD2⟩
  have hqt := hlt q hq
  have hqe := Nat.lt_trans hqt hte
  simp only [List.mem_cons, List.not_mem_nil, or_false] at hp
  rcases hp with rfl | rfl | rfl
  · exact hqe
  · exact Nat.lt_trans hqe hD2
  · exact hqt
theorem exc76_tell (w : World) (a b c : Value) : Tell w 20 76 (fun _ vs => vs = [a, b, c]) (ExcAt 76 "lineno" "msg" "line" a b c) := by
  have hfill : PySem.Challenge.rw_wa0025_01 = PySem.Challenge.rw_wa0025_01 ∧ hd.heap_1 = hd.heap_1 := by k_fill; exact ⟨rfl, rfl⟩
  unfold Tell
  intro prog p loose mean mg mb dp un gd cn cs ad ccd cl outer A₀ base h₀ L m news s vs Q E B F X N T hk hR hdp hun hret
  obtain rfl := hR
  (refine hide fun PQ kQ => ?_; obtain ⟨hh, g, d, t, os⟩ := s; refine kQ ?_; clear kQ PQ)
  (refine hide fun PQ kQ => ?_; obtain ⟨⟨nm, q, bs, sn, sub, ab, col, dd, k0, k1, k2, k3, k5, hC⟩, hns, hin, _⟩ := (ecls76 X).keeps F.keep; refine kQ ?_; clear kQ PQ)
  refine call_exc_init PySem.F.excBase_Exception hC hns hin (F.keep _ _ (X 52 _ rfl)) rfl ?_ (by size_fits)
  have lt0 : ∀ {b ob}, hh.get? b = some ob → b < hh.objs.size := fun e => Heap.lt_size e
  have keep2 : ∀ z ob, hh.get? z = some ob → (excHeap hh 76 [a, b, c]).get? z = some ob := fun z ob e => ex_keep e
  have g0 : ∀ z, hh.objs.size ≤ z → h₀.get? z = none := fun z hz => by
    cases q : h₀.get? z with
    | none => rfl
    | some o => exact absurd (lt0 (F.keep _ _ q)) (Nat.not_lt.mpr hz)
  have hot : (excHeap hh 76 [a, b, c]).get? hh.objs.size = some { cls := .type "tuple", data := .seq ([a, b, c] : List Value).toArray } := ex_args
  have hoe : (excHeap hh 76 [a, b, c]).get? (hh.objs.size + 1) = some { cls := .ref 76, data := .fields #[.ref hh.objs.size, .none, .none, .none, .bool false, .none] } := ex_self
  have F2 : Fr h₀ L (excHeap hh 76 [a, b, c]) m := F.keeps keep2
  have N2 : News h₀ L (excHeap hh 76 [a, b, c]) news := fun p hp => ⟨keep2 _ _ (N p hp).1, (N p hp).2⟩
  have N3 := News.more F2 (News.more F2 N2 hot (fun es n q => by cases q) (g0 _ (Nat.le_refl _))) hoe (fun es n q => by cases q) (g0 _ (Nat.le_succ _))
  have hlt : ∀ p ∈ news, p.1 < hh.objs.size := fun p hp => lt0 (N p hp).1
  generalize hH : excHeap hh 76 [a, b, c] = H at F2 N2 N3 hot hoe ⊢
  generalize he : hh.objs.size + 1 = e at N3 hoe ⊢
  generalize ht : hh.objs.size = tt at *
  have hte : tt < e := by rw [← he]; exact Nat.lt_succ_self _
  clear hH keep2 hC hns hin N F lt0 g0 N2
  generalize hoe' : ({ cls := .ref 76, data := .fields #[.ref tt, .none, .none, .none, .bool false, .none] } : Obj) = oe at N3 hoe
  generalize hot' : ({ cls := .type "tuple", data := .seq ([a, b, c] : List Value).toArray } : Obj) = ot at N3 hot
  have EO : EObj oe 76 none := by subst hoe'; exact ⟨rfl, rfl, _, rfl⟩
  clear hoe hot hoe' hot'
  refine wpAny_call ?_
  k_dflt ktn_open
  k_steps
  (try refine Stop.e ?_)
  rename_i g4 L4 h41 FG4 B4 X4 T4 D0 zz h42 h4 F4 N4
  replace N4 : News g4 L4 h4 ((e, oe) :: (tt, ot) :: (D0, { cls := Value.type "tuple", data := Data.seq #[a, b, c] }) :: news) := fun p hp => by
    refine N4 p ?_
    simp only [List.mem_cons] at hp ⊢
    rcases hp with rfl | rfl | rfl | hp <;> simp [*]
  have hD0 : D0 ≠ e := fun q => by
    have h1 := (N4 _ (.tail _ (.tail _ (.head _)))).1
    have h2 := (N4 _ (.head _)).1
    obtain ⟨z, hz⟩ := EO.data
    rw [q] at h1
    have h3 := Option.some.inj (h1.symm.trans h2)
    dsimp only at h3
    rw [← h3] at hz
    exact Data.noConfusion hz
  have hoff : ∀ p ∈ (tt, ot) :: (D0, { cls := Value.type "tuple", data := Data.seq #[a, b, c] }) :: news, p.1 ≠ e := fun p hp => by
    rcases List.mem_cons.mp hp with rfl | hp
    · exact Nat.ne_of_lt hte
    rcases List.mem_cons.mp hp with rfl | hp
    · exact hD0
    · exact Nat.ne_of_lt (Nat.lt_trans (hlt p hp) hte)
  refine setE_first F4 N4 (ecls76 X4) EO hoff (fun h5 tk5 D oe5 oD5 F5 N5 EO5 nD5 hD1 hD2 => ?_) (ns_none_of X4 (ecls76 X4).ns rfl) (by rw [typeLookup_type, builtinLookup_eq_fast]; kernel_rfl)
  clear F4 N4
  have hoff2 : ∀ p ∈ (tt, ot) :: (D0, { cls := Value.type "tuple", data := Data.seq #[a, b, c] }) :: news, p.1 ≠ e ∧ p.1 ≠ D := fun p hp => ⟨hoff p hp, Nat.ne_of_lt (hD1 p hp)⟩
  dsimp only
  k_steps
  (try refine Stop.e ?_)
  refine setE_next F5 N5 (ecls76 X4) EO5 nD5 hoff2 hD2 (fun h6 tk6 oD6 F6 N6 nD6 => ?_) (ns_none_of X4 (ecls76 X4).ns rfl) (by rw [typeLookup_type, builtinLookup_eq_fast]; kernel_rfl) (by within_ways) (by size_fits)
  clear F5 N5
  dsimp only
  k_steps
  (try refine Stop.e ?_)
  refine setE_next F6 N6 (ecls76 X4) EO5 nD6 hoff2 hD2 (fun h7 tk7 oD7 F7 N7 nD7 => ?_) (ns_none_of X4 (ecls76 X4).ns rfl) (by rw [typeLookup_type, builtinLookup_eq_fast]; kernel_rfl) (by within_ways) (by size_fits)
  clear F6 N6
  dsimp only
  k_steps
  rename Fr h₀ L _ m => kF
  rename News h₀ L _ _ => kN
  replace kN : News h₀ L h7 ((e, oe5) :: (D, oD7) :: (tt, ot) :: news) := fun p hp => kN p (by
    simp only [List.mem_cons] at hp ⊢
    rcases hp with rfl | rfl | rfl | hp <;> simp [*])
  refine hret _ [(e, oe5), (D, oD7), (tt, ot)] _ _ kF kN (fun q hq p hp => ?_) ⟨e, D, oe5, oD7, tt, ot, rfl, rfl, EO5, nD7, hte, hD2⟩
  have hqt := hlt q hq
  have hqe := Nat.lt_trans hqt hte
  simp only [List.mem_cons, List.not_mem_nil, or_false] at hp
  rcases hp with rfl | rfl | rfl
  · exact hqe
  · exact Nat.lt_trans hqe hD2
  · exact hqt
end Mine
end
section
open PySem PySem.Spec PySem.Calls PyProof.Rows PySem.W
set_option Elab.async false
set_option maxRecDepth 100000
set_option maxHeartbeats 4000000
namespace Mine
noncomputable def unrows (rs : List PySem.Str) : PySem.Str := ⟨(rs.flatMap fun r => r.cps.toList ++ [10]).toArray⟩
noncomputable def RowsOk (rs : List PySem.Str) : Prop := ∀ r ∈ rs, 10 ∉ r.cps.toList
noncomputable def nilS : PySem.Str := ⟨#[]⟩
noncomputable def jn (c : Nat) : List (List Nat) → List Nat
  | [] => []
  | [x] => x
  | x :: y :: r => x ++ c :: jn c (y :: r)
theorem jn_head {c : Nat} : ∀ {x : List Nat} {r : List (List Nat)}, ∃ t, jn c (x :: r) = x ++ t ∧ (t = [] ↔ r = []) ∧ (∀ y r', r = y :: r' → t = c :: jn c (y :: r'))
  | x, [] => ⟨[], by simp [jn], by simp, fun _ _ e => by cases e⟩
  | x, y :: r => ⟨c :: jn c (y :: r), rfl, by simp, fun _ _ e => by cases e; rfl⟩
theorem free_split {c : Nat} : ∀ {x y s t : List Nat}, c ∉ x → c ∉ y → x ++ s = y ++ t → (s = [] ∨ ∃ s', s = c :: s') → (t = [] ∨ ∃ t', t = c :: t') → x = y ∧ s = t
  | [], [], s, t, _, _, e, _, _ => ⟨rfl, e⟩
  | [], b :: y, s, t, _, hy, e, hs, _ => by
    rcases hs with rfl | ⟨s', rfl⟩
    · simp at e
    · simp only [List.nil_append, List.cons_append, List.cons.injEq] at e
      exact absurd (e.1 ▸ List.Mem.head _) hy
  | a :: x, [], s, t, hx, _, e, _, ht => by
    rcases ht with rfl | ⟨t', rfl⟩
    · simp at e
    · simp only [List.nil_append, List.cons_append, List.cons.injEq] at e
      exact absurd (e.1 ▸ List.Mem.head _) hx
  | a :: x, b :: y, s, t, hx, hy, e, hs, ht => by
    simp only [List.cons_append, List.cons.injEq] at e
    obtain ⟨rfl, e⟩ := e
    obtain ⟨rfl, rfl⟩ := free_split (fun q => hx (.tail _ q)) (fun q => hy (.tail _ q)) e hs ht
    exact ⟨rfl, rfl⟩
theorem jn_inj {c : Nat} : ∀ {ps qs : List (List Nat)}, ps ≠ [] → qs ≠ [] → (∀ p ∈ ps, c ∉ p) → (∀ p ∈ qs, c ∉ p) → jn c ps = jn c qs → ps = qs
  | [], _, h, _, _, _, _ => absurd rfl h
  | _, [], _, h, _, _, _ => absurd rfl h
  | x :: ps, y :: qs, _, _, hp, hq, e => by
    (refine hide fun PQ kQ => ?_; obtain ⟨s, e1, s1, s2⟩ := @jn_head c x ps; refine kQ ?_; clear kQ PQ)
    (refine hide fun PQ kQ => ?_; obtain ⟨t, e2, t1, t2⟩ := @jn_head c y qs; refine kQ ?_; clear kQ PQ)
    rw [e1, e2] at e
    have hs : s = [] ∨ ∃ s', s = c :: s' := by
      cases ps with
      | nil => exact .inl (s1.mpr rfl)
      | cons a b => exact .inr ⟨_, s2 a b rfl⟩
    have ht : t = [] ∨ ∃ t', t = c :: t' := by
      cases qs with
      | nil => exact .inl (t1.mpr rfl)
      | cons a b => exact .inr ⟨_, t2 a b rfl⟩
    obtain ⟨rfl, rfl⟩ := free_split (hp _ (.head _)) (hq _ (.head _)) e hs ht
    cases ps with
    | nil =>
      cases qs with
      | nil => rfl
      | cons a b => exact absurd (t1.mp (s1.mpr rfl)) (by simp)
    | cons a b =>
      cases qs with
      | nil => exact absurd (s1.mp (t1.mpr rfl)) (by simp)
      | cons a' b' =>
        have h3 := s2 a b rfl
        have h4 := t2 a' b' rfl
        rw [h3] at h4
        simp only [List.cons.injEq, true_and] at h4
        rw [jn_inj (by simp) (by simp) (fun p hp' => hp p (.tail _ hp')) (fun p hp' => hq p (.tail _ hp')) h4]
theorem join_cps (c : Nat) : ∀ ps : List PySem.Str, (PySem.Str.join ⟨#[c]⟩ ps).cps.toList = jn c (ps.map fun p => p.cps.toList)
  | [] => rfl
  | [x] => rfl
  | x :: y :: r => by
    show ((x ++ ⟨#[c]⟩ ++ PySem.Str.join ⟨#[c]⟩ (y :: r) : PySem.Str)).cps.toList = x.cps.toList ++ c :: jn c (y.cps.toList :: r.map fun p => p.cps.toList)
    have ih := join_cps c (y :: r)
    simp only [List.map_cons] at ih
    rw [← ih]
    show ((x.cps ++ #[c]) ++ (PySem.Str.join ⟨#[c]⟩ (y :: r)).cps).toList = _
    simp
theorem unrows_jn : ∀ rs : List PySem.Str, (unrows rs).cps.toList = jn 10 ((rs ++ [nilS]).map fun p => p.cps.toList)
  | [] => rfl
  | r :: rs => by
    have ih := unrows_jn rs
    unfold unrows at ih ⊢
    simp only [List.flatMap_cons, List.cons_append, List.map_cons, List.map_append] at ih ⊢
    simp only [List.map_nil] at ih ⊢
    cases rs with
    | nil => simp [jn, nilS]
    | cons a b =>
      simp only [List.flatMap_cons, List.cons_append, List.map_cons] at ih ⊢
      simp only [jn]
      rw [← ih]
      simp
theorem str_of_cps {x y : PySem.Str} (h : x.cps.toList = y.cps.toList) : x = y := by
  obtain ⟨a⟩ := x; obtain ⟨b⟩ := y
  congr 1
  exact Array.toList_inj.mp h
theorem map_cps_inj : ∀ {ps qs : List PySem.Str}, (ps.map fun p => p.cps.toList) = (qs.map fun p => p.cps.toList) → ps = qs
  | [], [], _ => rfl
  | [], _ :: _, h => by cases h
  | _ :: _, [], h => by cases h
  | a :: ps, b :: qs, h => by
    simp only [List.map_cons, List.cons.injEq] at h
    rw [str_of_cps h.1, map_cps_inj h.2]
theorem split_unrows {rs : List PySem.Str} (h : RowsOk rs) : Txt.split (unrows rs) ⟨#[10]⟩ = rs ++ [nilS] := by
  apply map_cps_inj
  refine jn_inj (c := 10) ?_ ?_ ?_ ?_ ?_
  · have := split_pos (unrows rs) ⟨#[10]⟩
    intro e
    rw [List.map_eq_nil_iff] at e
    rw [e] at this
    cases this
  · simp
  · intro p hp
    (refine hide fun PQ kQ => ?_; obtain ⟨q, hq, rfl⟩ := List.mem_map.mp hp; refine kQ ?_; clear kQ PQ)
    exact StrLaws.split_free _ _ q hq
  · intro p hp
    (refine hide fun PQ kQ => ?_; obtain ⟨q, hq, rfl⟩ := List.mem_map.mp hp; refine kQ ?_; clear kQ PQ)
    rcases List.mem_append.mp hq with hq | hq
    · exact h q hq
    · rw [List.mem_singleton.mp hq]
      simp [nilS]
  · rw [← join_cps, ← unrows_jn]
    have := StrLaws.join_split (unrows rs) ⟨#[10]⟩
    rw [this]
noncomputable def partOf : Nat → List PySem.Str → List PySem.Str → Option (Nat × PySem.Str × PySem.Str)
  | k, x :: xs, y :: ys => if x = y then partOf (k + 1) xs ys else some (k, x, y)
  | _, _, _ => none
end Mine
end
local macro_rules | `(tactic| walk_at $k) => if ["exec For Name Attribute cons nil", "exec For Name Call cons nil", "exec For Name Name cons nil"].contains k.getString then `(tactic| (k_here; with_unfolding_all refine PySem.wpAny_For ?_ (by intro _; rfl))) else Lean.Macro.throwUnsupported
section
open PySem PySem.Spec PySem.Calls PyProof.Rows PySem.W
set_option Elab.async false
set_option maxRecDepth 100000
set_option maxHeartbeats 8000000
set_option pp.deepTerms false
set_option pp.maxSteps 2500
namespace Mine
theorem myws_off : True := by
  w_top off
  trivial
noncomputable def wsEntries (P : Params) (raw norm : Value) (n nt : Int) (simple : Bool) (k1 k2 k3 k4 k5 : Tok) (t1 t2 : Tok) : List DictEntry :=
  [⟨PyData.keyHash P "raw", .str "raw" k1, raw⟩, ⟨PyData.keyHash P "n", .str "n" k2, .int n t1⟩, ⟨PyData.keyHash P "nt", .str "nt" k3, .int nt t2⟩, ⟨PyData.keyHash P "norm", .str "norm" k4, norm⟩, ⟨PyData.keyHash P "is_simple", .str "is_simple" k5, .bool simple⟩]
noncomputable def WsAt (P : Params) (news : List (Addr × Obj)) (x : Addr) (n : Int) : Prop :=
  ∃ dx raw norm k1 k2 k3 k4 k5 t1 t2 ep, (x, instObj 141 dx) ∈ news ∧ (dx, dictOf (wsEntries P raw norm n 0 true k1 k2 k3 k4 k5 t1 t2) ep) ∈ news
noncomputable def IsRow (x : PySem.Str) (k : Nat) : Prop := ∃ c : Nat, x.cps = (List.replicate k 32 ++ [c]).toArray ∧ c ≠ 32 ∧ c ≠ 9 ∧ c < 128
local macro_rules | `(tactic| walk_at $k) => Mine.stopAt k ["pyIter str"]
theorem News.tail {h₀ h : Heap} {L : Addr} {p : Addr × Obj} {l : List (Addr × Obj)} (N : News h₀ L h (p :: l)) : News h₀ L h l := fun q hq => N q (.tail _ hq)
theorem own_off {I : Addr} {o : Obj} {l : List (Addr × Obj)} (h : ∀ p ∈ l, p.1 ≠ I) : ∀ p ∈ [(I, o)], ∀ q ∈ l, q.1 ≠ p.1 := fun p hp q hq => by rw [List.mem_singleton.mp hp]; exact h q hq
theorem str1_ne {a b : Nat} (h : a ≠ b) : (PySem.Str.mk #[a] == PySem.Str.mk #[b]) = false := by
  rw [beq_eq_false_iff_ne]
  intro e
  injection e with e
  exact h (by simpa using e)
theorem ws_tell (w : World) (x : PySem.Str) (k : Nat) (hrow : IsRow x k) : Tell w 20 141 (fun news vs => ∃ t, vs = [.str x t]) (fun tl r => ∃ x, r = .ref x ∧ WsAt w.params tl x k) := by
  have hfill : PySem.Challenge.rw_wa0025_01 = PySem.Challenge.rw_wa0025_01 ∧ hd.heap_1 = hd.heap_1 := by k_fill; exact ⟨rfl, rfl⟩
  unfold Tell
  intro prog p loose mean mg mb dp un gd cn cs a ccd cl outer A₀ base h₀ L m news s vs Q E B F X N T hk hR hdp hun hret
  obtain ⟨sH, sG, sD, sT, sO⟩ := s
  dsimp only at F N hret
  obtain ⟨t, rfl⟩ := hR
  k_steps
  rename Fr _ _ _ (fun y => if y = PySem.Str.ofString "nt" then _ else _) => F1
  rename News _ _ _ ((_, W.listOf #[] 0) :: _) => N1
  rename_i x1 d1 hA FA NA lA lB g1 L1 hB FG B1 X1 T1 tkA hC D1 hD lC hE hF hG tkB l1 hH lD hI hJ hK hL
  refine Stop.e ?_
  (refine hide fun PQ kQ => ?_; obtain ⟨c, hcps, hc32, hc9, hc128⟩ := hrow; refine kQ ?_; clear kQ PQ)
  refine' for_str (σ := Nat × Tok × Tok × Tok) (· = g1) (fun _ => _) (fun c => [(PySem.Str.ofString "n", .int c.1 c.2.1), (PySem.Str.ofString "b", .int c.1 c.2.2.1), (PySem.Str.ofString "nt", .int 0 c.2.2.2), (PySem.Str.ofString "count", .ref l1), (PySem.Str.ofString "S", .str " " 358), (PySem.Str.ofString "T", .str "\t" 359), (PySem.Str.ofString "self", .ref x1)]) (fun i c => c.1 = i ∧ i ≤ k) (0, _, _, _) rfl rfl rfl rfl F1 N1 (by (repeat' (first | exact Says.nil | refine Says.cons rfl ?_))) ⟨rfl, Nat.zero_le _⟩ ?turn ?done ?hE ?ha
  case hE => passes_own
  case ha => rw [hcps]; simp [hc128]
  case done =>
    rintro ⟨n, tn, tb, tt⟩ h₁ h tk u ⟨h1, h2⟩
    have h3 : x.cps.size = k + 1 := by rw [hcps]; simp
    omega
  case turn =>
    rintro i ⟨n, tn, tb, tt⟩ h₁ h tk ch t it o u hi hch ⟨rfl, hik⟩ rfl F2 N2 hne
    dsimp only [kstB] at F2 hik ⊢
    refine gen_Q fun QQ kQQ => ?_
    by_cases hlt : n < k
    · have hch' : ch = 32 := by
        rw [hcps] at hch
        simpa [List.getElem?_append, hlt] using hch.symm
      subst hch'
      k_steps
      rename Fr _ L1 _ (fun y => if y = PySem.Str.ofString "b" then _ else _) => F3
      rename News _ L1 _ _ => N3
      refine kQQ _ _ ?_
      refine' TurnPost.next (n + 1, _, _, _) rfl F3 N3 (own_off hne) (by (repeat' (first | exact Says.nil | refine Says.cons rfl ?_))) ⟨rfl, by omega⟩
    · have hnk : n = k := by omega
      replace N2 := News.tail N2
      subst hnk
      have hch' : ch = c := by
        rw [hcps] at hch
        simpa using hch.symm
      subst hch'
      have hsp : (PySem.Str.mk #[ch] == PySem.Str.ofString " ") = false := str1_ne hc32
      have htb : (PySem.Str.mk #[ch] == PySem.Str.ofString "\t") = false := str1_ne hc9
      k_steps
      refine kQQ _ _ ?_
      refine TurnPost.brk ?_
      dsimp only
      k_steps
      rename Fr h₀ L _ m => kF
      rename News h₀ L _ (_ :: _) => kN
      refine hret (.ref x1) [_, _, _, _, _, _] _ _ kF kN ?ord ⟨x1, rfl, ?out⟩
      case ord =>
        intro q hq p hp
        have := ltN (lA q hq)
        simp only [List.mem_cons, List.not_mem_nil, or_false] at hp
        rcases hp with rfl | rfl | rfl | rfl | rfl | rfl <;> (refine ltN ?_; dsimp only; omega)
      case out =>
        exact ⟨_, _, _, _, _, _, _, _, _, _, _, .tail _ (.tail _ (.tail _ (.tail _ (.head _)))), .tail _ (.tail _ (.tail _ (.tail _ (.tail _ (.head _)))))⟩
theorem less_tell (w : World) (x y : Addr) (i j : Int) : Tell w 20 131 (fun news vs => vs = [.ref x, .ref y] ∧ WsAt w.params news x i ∧ WsAt w.params news y j) (fun tl r => tl = [] ∧ r = .bool (decide (i < j))) := by
  have hfill : PySem.Challenge.rw_wa0025_01 = PySem.Challenge.rw_wa0025_01 ∧ hd.heap_1 = hd.heap_1 := by k_fill; exact ⟨rfl, rfl⟩
  unfold Tell
  intro prog p loose mean mg mb dp un gd cn cs a ccd cl outer A₀ base h₀ L m news s vs Q E B F X N T hk hR hdp hun hret
  obtain ⟨sH, sG, sD, sT, sO⟩ := s
  dsimp only at F N hret
  (refine hide fun PQ kQ => ?_; obtain ⟨rfl, hx, hy⟩ := hR; refine kQ ?_; clear kQ PQ)
  (refine hide fun PQ kQ => ?_; obtain ⟨dx, raw, norm, k1, k2, k3, k4, k5, t1, t2, ep, hx1, hx2⟩ := hx; refine kQ ?_; clear kQ PQ)
  (refine hide fun PQ kQ => ?_; obtain ⟨dy, raw', norm', k1', k2', k3', k4', k5', t1', t2', ep', hy1, hy2⟩ := hy; refine kQ ?_; clear kQ PQ)
  simp only [wsEntries] at hx2 hy2
  refine wpAny_call ?_
  k_dflt ktn_open
  k_steps
  all_goals
    rename Fr h₀ L _ m => kF
    rename News h₀ L _ news => kN
  · refine hret _ [] _ _ kF kN (fun _ _ _ h => nomatch h) ⟨rfl, ?_⟩
    rename (j ≤ i) => hji
    have hlt : ¬ i < j := by omega
    simp [hlt]
  · refine hret _ [] _ _ kF kN (fun _ _ _ h => nomatch h) ⟨rfl, ?_⟩
    rename (¬ j ≤ i) => hji
    have hlt : i < j := by omega
    simp [hlt]
end Mine
end
section
open PySem PySem.Spec PySem.Calls PyProof.Rows PySem.W
set_option Elab.async false
set_option maxRecDepth 100000
set_option maxHeartbeats 8000000
set_option pp.deepTerms false
set_option pp.maxSteps 2500
namespace Mine
theorem mypart_off : True := by
  w_top off
  trivial
theorem partOf_drop {xs ys : List PySem.Str} {i : Nat} {a b : PySem.Str} (ha : xs[i]? = some a) (hb : ys[i]? = some b) : partOf i (xs.drop i) (ys.drop i) = if a = b then partOf (i + 1) (xs.drop (i + 1)) (ys.drop (i + 1)) else some (i, a, b) := by
  obtain ⟨h1, rfl⟩ := List.getElem?_eq_some_iff.mp ha
  obtain ⟨h2, rfl⟩ := List.getElem?_eq_some_iff.mp hb
  rw [List.drop_eq_getElem_cons h1, List.drop_eq_getElem_cons h2]
  rfl
theorem partOf_end {xs ys : List PySem.Str} {i : Nat} (h : xs.length ≤ i ∨ ys.length ≤ i) : partOf i (xs.drop i) (ys.drop i) = none := by
  rcases h with h | h
  · rw [List.drop_eq_nil_of_le h]
    cases ys.drop i <;> rfl
  · rw [List.drop_eq_nil_of_le h]
    cases xs.drop i <;> rfl
theorem RaisedD.sub {base G : Heap} {l : List Env} {e : Addr} {cls : Value} {dict : Option Addr} {news news' : List (Addr × Obj)} {h : Heap} (R : RaisedD base G l e cls dict news h) (hs : ∀ q ∈ news', q ∈ news) : RaisedD base G l e cls dict news' h := by
  (refine hide fun PQ kQ => ?_; obtain ⟨B, a, b, c, d⟩ := R; refine kQ ?_; clear kQ PQ)
  exact ⟨B, a, b, fun q hq => c q (hs q hq), d⟩
noncomputable def RaisableO (C : Addr) (E : Value → Shared → Prop) (v : Value) (s₁ : Shared) : Prop :=
  ∃ e oe D, v = .ref e ∧ (∃ N fI mN, ECls s₁.heap C N fI mN) ∧ s₁.heap.get? e = some oe ∧ EObj oe C D ∧ E (.ref e) s₁
theorem raiseStmt_own {M : Model} {A : Around} {E : Value → Shared → Prop} {env : Env} {s : Shared} {C : Addr} {x : Sem Value} {Q : Flow → Shared → Prop} (hh : A.handled = none) (h : wpAny M A x (RaisableO C E) E s) :
    wpAny M A (raiseStmt env (some x) none) Q E s := by
  unfold raiseStmt
  refine wpAny_bind (wpAny_mono h (fun v s₁ h₁ => ?_) fun _ _ x => x)
  (refine hide fun PQ kQ => ?_; obtain ⟨e, oe, D, rfl, ⟨N, fI, mN, EC⟩, he, EO, hE⟩ := h₁; refine kQ ?_; clear kQ PQ)
  (refine hide fun PQ kQ => ?_; obtain ⟨⟨nm, q, bs, sn, sub, ab, col, dd, k0, k1, k2, k3, k5, hC⟩, _⟩ := EC; refine kQ ?_; clear kQ PQ)
  (refine hide fun PQ kQ => ?_; obtain ⟨hcls, _, t, hdat⟩ := EO; refine kQ ?_; clear kQ PQ)
  (refine hide fun PQ kQ => ?_; obtain ⟨ocls, od, odata, osl⟩ := oe; refine kQ ?_; clear kQ PQ)
  dsimp only at hcls hdat
  subst hcls hdat
  have hcB : (Value.ref C :: [.type "Exception", .type "BaseException", .type "object"]).contains (.type "BaseException") = true := by rw [List.contains_cons]; simp
  (refine hide fun PQ kQ => ?_; obtain ⟨hp, g, d, tk, os⟩ := s₁; refine kQ ?_; clear kQ PQ)
  repeat (first | with_reducible refine wpAny_loadPart_at he ?_ | with_reducible refine wpAny_loadPart_at hC ?_ | (with_reducible refine wpAny_isSubtype_exc hC ?_; rw [hcB]) | wp_step)
  exact wpAny_raiseNew_none hh hE
theorem Raise_own {M : Model} {A : Around} {E : Value → Shared → Prop} {env : Env} {s : Shared} {C : Addr} {e : Expr} {pos : Pos} {Q : Flow → Shared → Prop} (hh : A.handled = none)
    (h : wpAny M A (eval e env) (RaisableO C E) E s) : wpAny M A (exec (.Raise (some e) none pos) env) Q E s := by
  show wpAny M A (do standAt pos; raiseStmt env (some (do let v ← eval e env; standAt pos; pure v)) none) Q E s
  exact wpAny_bind (wpAny_standAt (raiseStmt_own hh (wpAny_bind (wpAny_mono h (fun v s₁ h₁ => wpAny_bind (wpAny_standAt (wpAny_pure h₁))) fun _ _ x => x))))
local macro_rules | `(tactic| walk_at "exec Raise some none") => `(tactic| (k_here; refine Raise_own (C := 182) rfl ?_))
local macro_rules | `(tactic| walk_at $k) => Mine.stopAt k ["call ref", "pyIter ref", "call builtin:str.split"]
theorem part_tell (w : World) (rs1 rs2 : List PySem.Str) (h1 : RowsOk rs1) (h2 : RowsOk rs2) (z1 : (unrows rs1).length ≤ 60000) (z2 : (unrows rs2).length ≤ 60000) :
    TellR w 60 197 182 (fun _ vs => ∃ t1 t2, vs = [.str (unrows rs1) t1, .str (unrows rs2) t2]) (fun tl r => tl = [] ∧ r = .none ∧ partOf 0 (rs1 ++ [nilS]) (rs2 ++ [nilS]) = none)
      (fun tl D => ∃ k a b oD tk ta tb, partOf 0 (rs1 ++ [nilS]) (rs2 ++ [nilS]) = some (k, a, b) ∧ (D, oD) ∈ tl ∧ Ns1O oD (fun y => if y = "got" then some (.str b tb) else if y = "example" then some (.str a ta) else if y = "test" then some (.int (k : Int) tk) else none)) := by
  have hfill : PySem.Challenge.rw_wa0025_01 = PySem.Challenge.rw_wa0025_01 ∧ hd.heap_1 = hd.heap_1 := by k_fill; exact ⟨rfl, rfl⟩
  unfold TellR
  intro prog p loose mean mg mb dp un gd cn cs ad ccd cl outer A₀ base h₀ L m news s vs Q E B F X N T hk hR hdp hun hret hraise
  obtain ⟨sH, sG, sD, sT, sO⟩ := s
  dsimp only at F N hret hraise
  (refine hide fun PQ kQ => ?_; obtain ⟨t1, t2, rfl⟩ := hR; refine kQ ?_; clear kQ PQ)
  refine wpAny_call ?_
  k_dflt ktn_open
  rename_i g5 L5 h5 FG5 F5a N5a B5 X5 T5
  k_steps
  refine Stop.e ?_
  refine KSpl.split1 (by k_asm) (by k_asm) (by decide) (fun D1 l1 h3 k3 e1 a1 F3 N3 o1 => ?_) (by rw [sizeLine_eq]; omega)
  rw [show (PySem.Str.ofString "\n") = ⟨#[10]⟩ from by decide +kernel, split_unrows h1] at e1
  k_steps
  refine Stop.e ?_
  refine KSpl.split1 (by k_asm) (by k_asm) (by decide) (fun D2 l2 h4 k4 e2 a2 F4 N4 o2 => ?_) (by rw [sizeLine_eq]; omega)
  rw [show (PySem.Str.ofString "\n") = ⟨#[10]⟩ from by decide +kernel, split_unrows h2] at e2
  have c1 : (strValues l1).length = rs1.length + 1 := by rw [show (strValues l1).length = (l1.map (·.1)).length by simp [strValues], e1]; simp
  have c2 : (strValues l2).length = rs2.length + 1 := by rw [show (strValues l2).length = (l2.map (·.1)).length by simp [strValues], e2]; simp
  have y1 : (strValues l1).length ≤ 70000 := by
    have := split_le (unrows rs1) ⟨#[10]⟩
    rw [split_unrows h1, List.length_append] at this
    simp only [List.length_cons, List.length_nil] at this
    omega
  have y2 : (strValues l2).length ≤ 70000 := by
    have := split_le (unrows rs2) ⟨#[10]⟩
    rw [split_unrows h2, List.length_append] at this
    simp only [List.length_cons, List.length_nil] at this
    omega
  k_steps
  refine Stop.e ?_
  rename IsRange _ _ _ _ _ _ _ _ => R5
  rename Fr _ _ _ _ => F5
  rename News _ _ _ _ => N5
  (revert R5; refine gen1 ((if ((strValues l2).length : Int) < ((strValues l1).length : Int) then ((strValues l2).length : Int) else ((strValues l1).length : Int))) fun bb hb => ?_; intro R5)
  have hbb : bb = ((min (strValues l1).length (strValues l2).length : Nat) : Int) := by
    rw [← hb]; split <;> omega
  clear hb
  subst hbb
  refine' for_range (σ := Unit) (· = g5) (fun _ => _) (fun _ => [("rows", .ref D1), ("lines", .ref D2)]) (fun i _ => partOf 0 (rs1 ++ [nilS]) (rs2 ++ [nilS]) = partOf i ((rs1 ++ [nilS]).drop i) ((rs2 ++ [nilS]).drop i)) () R5 (small_one (by decide) (by decide) (by omega) (by omega)) (by rw [rangeSize_nat, Int.sub_zero, Int.toNat_natCast]) rfl rfl rfl rfl F5 N5 (by (repeat' (first | exact Says.nil | refine Says.cons rfl ?_))) rfl ?turn ?done ?hE
  case hE => passes_own
  case done =>
    rintro _ h₁ h tk u hP rfl F6 N6
    have hend := partOf_end (xs := rs1 ++ [nilS]) (ys := rs2 ++ [nilS]) (i := min (strValues l1).length (strValues l2).length) (by simp only [List.length_append, List.length_cons, List.length_nil]; omega)
    rw [hend] at hP
    dsimp only
    k_steps
    rename Fr h₀ L _ m => kF
    rename News h₀ L _ _ => kN
    exact hret _ [] _ _ kF (fun q hq => kN q (.tail _ (.tail _ hq))) (fun _ _ _ hp => nomatch hp) ⟨rfl, rfl, hP⟩
  case turn =>
    rintro i _ h₁ h tk t it o u hi hP rfl F6 N6 hne
    dsimp only [kstB] at F6
    refine gen_Q fun QQ kQQ => ?_
    have hi1 : i < (strValues l1).length := by omega
    have hi2 : i < (strValues l2).length := by omega
    k_steps
    · rename (_ != _) = true => hne2
      have e0 : (0 + (i : Int)).toNat = i := toNat_zero_add i
      have g1 : (rs1 ++ [nilS])[i]? = some ((rs1 ++ [nilS]).getD i PySem.Str.empty) := by
        rw [List.getD_eq_getElem?_getD, List.getElem?_eq_getElem (by simp; omega)]; rfl
      have g2 : (rs2 ++ [nilS])[i]? = some ((rs2 ++ [nilS]).getD i PySem.Str.empty) := by
        rw [List.getD_eq_getElem?_getD, List.getElem?_eq_getElem (by simp; omega)]; rfl
      have hdrop := partOf_drop g1 g2
      rw [e0, e1, e2, bne_iff_ne] at hne2
      rw [if_neg hne2] at hdrop
      refine Stop.e ?_
      rw [e0, e1, e2]
      refine Tell.use B5 F6 X5 N6 T5 rfl (exc182_tell w _ _ _) rfl (by show dp + 1 + 20 < recursionLimit; omega) (by show un + 3 + 8 * 20 < cLine; omega) ?_
      (intro r tl h' tk' F8 N8 hlt hQ108; refine hide fun PQ kQ => ?_; obtain ⟨e, D, oe, oD, t', ot, rfl, rfl, EO, nD, hte, heD⟩ := hQ108; refine kQ ?_; clear kQ PQ)
      rw [Int.zero_add] at nD
      have hnl : ∀ q ∈ news, q ∈ [(it, o)] ++ ((D2, W.listOf (strValues l2).toArray 0) :: (D1, W.listOf (strValues l1).toArray 0) :: news) := fun q hq => by simp [hq]
      refine ⟨e, oe, some D, rfl, ⟨181, 172, _, (ecls182 X5).keeps F8.keep⟩, (N8 _ (.head _)).1, EO, ?_⟩
      refine leave_raiseD B5 EO F8 N8 ?_ (fun h9 R9 U9 => ?_) (by rfl)
      · intro p hp
        rcases List.mem_cons.mp hp with rfl | hp
        · exact Nat.ne_of_gt heD
        rcases List.mem_cons.mp hp with rfl | hp
        · exact Nat.ne_of_lt hte
        · exact Nat.ne_of_lt (hlt p hp _ (.head _))
      · refine hraise h₁ e D [(D, oD), (t', ot)] h9 tk' FG5 (R9.sub fun q hq => ?_) U9 (fun q hq p hp => hlt q (hnl q hq) p (.tail _ hp)) (fun q hq => hlt q (hnl q hq) _ (.head _)) ⟨i, _, _, oD, t, _, _, hP.trans hdrop, .head _, nD⟩
        simp only [List.mem_cons, List.mem_append, List.not_mem_nil, or_false] at hq ⊢
        rcases hq with (rfl | rfl) | hq <;> simp [*]
    · rename (_ != _) = false => hne2
      have e0 : (0 + (i : Int)).toNat = i := toNat_zero_add i
      have g1 : (rs1 ++ [nilS])[i]? = some ((rs1 ++ [nilS]).getD i PySem.Str.empty) := by
        rw [List.getD_eq_getElem?_getD, List.getElem?_eq_getElem (by simp; omega)]; rfl
      have g2 : (rs2 ++ [nilS])[i]? = some ((rs2 ++ [nilS]).getD i PySem.Str.empty) := by
        rw [List.getD_eq_getElem?_getD, List.getElem?_eq_getElem (by simp; omega)]; rfl
      have hdrop := partOf_drop g1 g2
      rw [e0, e1, e2, bne_eq_false_iff_eq] at hne2
      rw [if_pos hne2] at hdrop
      refine kQQ _ _ ?_
      refine' TurnPost.next () rfl F6 N6 (own_off hne) (by (repeat' (first | exact Says.nil | refine Says.cons rfl ?_))) (hP.trans hdrop)
end Mine
end
section
open PySem PySem.Spec PySem.Calls PyProof.Rows PySem.W
set_option Elab.async false
set_option maxRecDepth 100000
set_option maxHeartbeats 4000000
set_option pp.deepTerms false
set_option pp.maxSteps 2500
namespace Mine
open Builtin Builtin.ObjectAttr
section
variable {prog : Program} {w : World} {A : Around} {E : Value → Shared → Prop} {h : Heap} {g : Array GenState} {d : Drawn} {t : Nat} {os : OsState}
variable {nm q : PySem.Str} {C N x : Addr} {bs : List Value} {sn : List PySem.Str} {sub : List Value} {ab : Bool} {col : Option Bool} {dd : Option Addr} {k0 k1 k2 k3 k5 : Option Value} {newId : String}
  {mN mA : PySem.Str → Option Value} {name : PySem.Str} {v : Value} {o : Obj} {dx : Addr}
theorem loadE_entry {tk : Tok} {Q : Fin → Shared → Prop}
    (hC : h.get? C = some (excClassObj nm q C N bs ([Value.type "Exception", Value.type "BaseException", Value.type "object"] : List Value) true sn sub ab col dd k0 k1 k2 k3 k5 newId)) (hn : h.Ns N mN) (hna : mN name = none)
    (hB : typeLookup (.type "Exception") name = pure none) (hx : h.get? x = some o) (hc : o.cls = .ref C) (hnc : ∀ c, o.data ≠ .cls c) (hdx : o.dict = some dx) (hns : h.Ns1 dx mA) (hv : mA name = some v) (hq : Q (.done (.ret v)) ⟨h, g, d, t, os⟩) :
    wpAny (model prog w) A (Builtin.«object.__getattribute__» ⟨[.ref x, .str name tk], []⟩) Q E ⟨h, g, d, t, os⟩ := by
  have hmro := PySem.F.attrBase_Exception.mro
  unfold Builtin.«object.__getattribute__»
  repeat (first | (with_reducible refine wpAny_loadPart_at hx ?_; rw [hc]) | (with_reducible refine wpAny_typeLookup_exc hC hn hmro hB ?_; rw [hna]) | wp_step)
  split
  · rename_i c hcd
    exact absurd hcd (hnc c)
  unfold instanceDict
  repeat (first | (with_reducible refine wpAny_loadPart_at hx ?_; rw [hc]) | with_reducible refine wpAny_loadPart_at hC ?_ | wp_step)
  rw [hdx]
  repeat (first | (with_reducible refine wpAny_nsGet hns.ns ?_; rw [hv]) | wp_step)
  exact hq
theorem check_gaE {M : Model} {nameV : Value} {Q : Unit → Shared → Prop} (hC : h.get? C = some (excClassObj nm q C N bs ([Value.type "Exception", Value.type "BaseException", Value.type "object"] : List Value) true sn sub ab col dd k0 k1 k2 k3 k5 newId))
    (hx : h.get? x = some o) (hc : o.cls = .ref C) (hq : Q () ⟨h, g, d, t, os⟩) : wpAny M A (checkBuiltinCall "BaseException.__getattribute__" ⟨[.ref x, nameV], []⟩) Q E ⟨h, g, d, t, os⟩ := by
  have hk : builtinKind "BaseException.__getattribute__" = some .slot := by decide +kernel
  have hsplit : splitId "BaseException.__getattribute__" = some ("BaseException", "__getattribute__") := by decide +kernel
  have hcB : (Value.ref C :: ([Value.type "Exception", Value.type "BaseException", Value.type "object"] : List Value)).contains (.type "BaseException") = true := by rw [List.contains_cons]; simp
  have ha := PySem.F.args_bexc_ga (.ref x) nameV
  simp only [checkBuiltinCall, hk, hsplit]
  refine wpAny_bind ?_
  · unfold isInstance
    repeat (first | (with_reducible refine wpAny_loadPart_at hx ?_; rw [hc]) | (with_reducible refine wpAny_isSubtype_exc hC ?_; rw [hcB]) | wp_step)
    exact hq
theorem loadE_attr {expr : Bool} {Q : Value → Shared → Prop}
    (hC : h.get? C = some (excClassObj nm q C N bs ([Value.type "Exception", Value.type "BaseException", Value.type "object"] : List Value) true sn sub ab col dd k0 k1 k2 k3 k5 newId)) (hn : h.Ns N mN) (hng : mN "__getattribute__" = none) (hnx : mN "__getattr__" = none) (hna : mN name = none)
    (hB : typeLookup (.type "Exception") name = pure none) (hx : h.get? x = some o) (hc : o.cls = .ref C) (hnc : ∀ c, o.data ≠ .cls c) (hdx : o.dict = some dx) (hns : h.Ns1 dx mA) (hv : mA name = some v) (hh : handedOut v = pure v) (hq : Q v ⟨h, g, d, t + 1, os⟩) :
    wpAny (model prog w) A (getAttr (.ref x) name expr) Q E ⟨h, g, d, t, os⟩ := by
  have hmro := PySem.F.attrBase_Exception.mro
  have FB := PySem.F.attrBase_Exception
  have f3 := FB.ga.bind (.ref x)
  have hx0 : (expr && onTheHeap (Value.builtin "BaseException.__getattribute__")) = false := by cases expr <;> rfl
  have hx2 : (Value.builtin "BaseException.__getattribute__" == Value.builtin "object.__getattribute__") = false := by decide +kernel
  have hx1 : (onTheHeap (Value.ref C) && Value.builtin "BaseException.__getattribute__" == Value.builtin "object.__getattribute__") = false := by rw [hx2]; rfl
  unfold getAttr getAttrBy
  repeat (any_goals (first | assumption | (with_reducible refine wpAny_loadPart_at hx ?_; rw [hc]) | (with_reducible refine wpAny_typeLookup_exc hC hn hmro FB.ga.lookup ?_; rw [hng]) | (with_reducible refine wpAny_typeLookup_exc hC hn hmro FB.noGetattr ?_; rw [hnx]) | wp_step))
  refine codeAny_call_builtin FB.ga.plain PySem.F.entry_bexc_ga (check_gaE hC hx hc (loadE_entry hC hn hna hB hx hc hnc hdx hns hv ?_))
  repeat (any_goals (first | assumption | wp_step))
theorem canon_bexc_ga : (Manifest.canonical "BaseException.__getattribute__" != "object.__getattribute__") = false := by decide +kernel
theorem methodE {pl : Sem Bool} {f : Addr} {of : Obj} {Q : Value × List Value → Shared → Prop}
    (hC : h.get? C = some (excClassObj nm q C N bs ([Value.type "Exception", Value.type "BaseException", Value.type "object"] : List Value) true sn sub ab col dd k0 k1 k2 k3 k5 newId)) (hn : h.Ns N mN) (hng : mN "__getattribute__" = none) (hnx : mN "__getattr__" = none)
    (hf : mN name = some (.ref f)) (hfo : h.get? f = some of) (hfc : of.cls = .type "function") {y : Option Value} (hB : typeLookup (.type "Exception") name = pure y)
    (hx : h.get? x = some o) (hc : o.cls = .ref C) (hdx : o.dict = some dx) (hns : h.Ns1 dx mA) (hsh : mA name = none) (hq : Q (.ref f, [.ref x]) ⟨h, g, d, t, os⟩) :
    wpAny (model prog w) A (getMethod (.ref x) name pl) Q E ⟨h, g, d, t, os⟩ := by
  have hmro := PySem.F.attrBase_Exception.mro
  have FB := PySem.F.attrBase_Exception
  have hcan := canon_bexc_ga
  unfold getMethod specialOf
  repeat (first | (with_reducible refine wpAny_loadPart_at hx ?_; rw [hc]) | (with_reducible refine wpAny_typeLookup_exc hC hn hmro FB.ga.lookup ?_; rw [hng]) | (with_reducible refine wpAny_typeLookup_exc hC hn hmro FB.noGetattr ?_; rw [hnx]) | (with_reducible refine wpAny_typeLookup_exc hC hn hmro hB ?_; rw [hf]) | (with_reducible refine wpAny_typeOf (T := "function") ⟨_, hfo, hfc⟩ ?_) | simp only [hcan, Bool.false_eq_true, if_false] | wp_step)
  rw [hdx]
  repeat (first | (with_reducible refine wpAny_nsGet hns.ns ?_; rw [hsh]) | wp_step)
  exact hq
end
section
variable {prog : Program} {w : World} {A : Around} {E : Value → Shared → Prop} {s : Shared} {g₀ : Heap} {L : Addr} {m : PySem.Str → Option Value} {x C N fI D : Addr} {mN mA : PySem.Str → Option Value} {o oD : Obj} {name : PySem.Str} {v : Value}
theorem getE {expr : Bool} {Q : Value → Shared → Prop} (F : Fr g₀ L s.heap m) (X : ECls g₀ C N fI mN) (hx : s.heap.get? x = some o) (hc : o.cls = .ref C) (hdx : o.dict = some D) (hf : ∃ ws, o.data = .fields ws) (hD : s.heap.get? D = some oD) (nD : Ns1O oD mA)
    (hna : mN name = none) (hB : typeLookup (.type "Exception") name = pure none) (hv : mA name = some v) (hh : handedOut v = pure v) (hq : Q v { s with toks := s.toks + 1 }) : wpAny (model prog w) A (getAttr (.ref x) name expr) Q E s := by
  (refine hide fun PQ kQ => ?_; obtain ⟨hh', g, d, t, os⟩ := s; refine kQ ?_; clear kQ PQ)
  (refine hide fun PQ kQ => ?_; obtain ⟨⟨nm, q, bs, sn, sub, ab, col, dd, k0, k1, k2, k3, k5, hC⟩, hn, _, hsa, hga, hgx⟩ := X.keeps F.keep; refine kQ ?_; clear kQ PQ)
  obtain ⟨ws, hws⟩ := hf
  exact loadE_attr hC hn hga hgx hna hB hx hc (fun c q => by rw [hws] at q; cases q) hdx (nD.ns hD) hv hh hq
theorem getE_method {pl : Sem Bool} {f : Addr} {of : Obj} {Q : Value × List Value → Shared → Prop} (F : Fr g₀ L s.heap m) (X : ECls g₀ C N fI mN) (hx : s.heap.get? x = some o) (hc : o.cls = .ref C) (hdx : o.dict = some D) (hD : s.heap.get? D = some oD) (nD : Ns1O oD mA)
    (hf : mN name = some (.ref f)) (hfo : g₀.get? f = some of) (hfc : of.cls = .type "function") {y : Option Value} (hB : typeLookup (.type "Exception") name = pure y) (hsh : mA name = none) (hq : Q (.ref f, [.ref x]) s) :
    wpAny (model prog w) A (getMethod (.ref x) name pl) Q E s := by
  (refine hide fun PQ kQ => ?_; obtain ⟨hh', g, d, t, os⟩ := s; refine kQ ?_; clear kQ PQ)
  (refine hide fun PQ kQ => ?_; obtain ⟨⟨nm, q, bs, sn, sub, ab, col, dd, k0, k1, k2, k3, k5, hC⟩, hn, _, hsa, hga, hgx⟩ := X.keeps F.keep; refine kQ ?_; clear kQ PQ)
  exact methodE hC hn hga hgx hf (F.keep _ _ hfo) hfc hB hx hc hdx (nD.ns hD) hsh hq
end
end Mine
end
section
open PySem PySem.Spec PySem.Calls PyProof.Rows PySem.W
set_option Elab.async false
set_option maxRecDepth 100000
set_option maxHeartbeats 8000000
set_option pp.deepTerms false
set_option pp.maxSteps 2500
namespace Mine
theorem myparted_off : True := by
  w_top off
  trivial
local macro_rules | `(tactic| walk_at $k) => Mine.stopAt k ["call ref", "getAttr ref"]
theorem allLt_all {d : Nat} {l : List (Addr × Obj)} (h : AllLt d l) : ∀ p ∈ l, p.1 < d := by
  induction l with
  | nil => intro p hp; cases hp
  | cons a r ih =>
    intro p hp
    rcases List.mem_cons.mp hp with rfl | hp
    · exact h.1
    · exact ih h.2 p hp
theorem news_fin2 {h₀ h : Heap} {L : Addr} {a b c : Addr × Obj} {tl news : List (Addr × Obj)} (N : News h₀ L h (a :: b :: c :: (tl ++ news))) : News h₀ L h ([a, b] ++ news) := fun q hq => N q (by
  rcases List.mem_cons.mp hq with rfl | hq
  · exact .head _
  rcases List.mem_cons.mp hq with rfl | hq
  · exact .tail _ (.head _)
  · exact .tail _ (.tail _ (.tail _ (List.mem_append_right _ hq))))
theorem ord_fin2 {l D e : Addr} {o1 o2 : Obj} {tl news : List (Addr × Obj)} (o8 : e < D ∧ AllLt D (tl ++ news)) (o9 : D < l ∧ e < l ∧ AllLt l (tl ++ news)) : ∀ q ∈ news, ∀ p ∈ [(l, o1), (D, o2)], q.1 < p.1 := by
  intro q hq p hp
  have a9 := allLt_all o9.2.2 q (List.mem_append_right _ hq)
  have a8 := allLt_all o8.2 q (List.mem_append_right _ hq)
  simp only [List.mem_cons, List.not_mem_nil, or_false] at hp
  rcases hp with rfl | rfl
  · exact a9
  · exact a8
noncomputable def PartedAt (o : Option (Nat × PySem.Str × PySem.Str)) (tl : List (Addr × Obj)) (r : Value) : Prop :=
  match o with
  | none => ∃ D n, r = .ref D ∧ (D, listOf #[] n) ∈ tl
  | some (k, a, b) => ∃ D n T tk ta tb nt, r = .ref D ∧ (D, listOf #[.ref T] n) ∈ tl ∧ (T, { cls := .type "tuple", data := .seq #[.int (k : Int) tk, .str a ta, .str b tb] nt }) ∈ tl
theorem parted_tell (w : World) (rs1 rs2 : List PySem.Str) (h1 : RowsOk rs1) (h2 : RowsOk rs2) (z1 : (unrows rs1).length ≤ 60000) (z2 : (unrows rs2).length ≤ 60000) :
    TellS w 80 204 (fun _ vs => ∃ t1 t2, vs = [.str (unrows rs1) t1, .str (unrows rs2) t2]) (fun tl r => PartedAt (partOf 0 (rs1 ++ [nilS]) (rs2 ++ [nilS])) tl r) := by
  have hfill : PySem.Challenge.rw_wa0025_01 = PySem.Challenge.rw_wa0025_01 ∧ hd.heap_1 = hd.heap_1 := by k_fill; exact ⟨rfl, rfl⟩
  unfold TellS
  intro prog p loose mean mg mb dp un gd cn cs ad ccd cl outer A₀ base h₀ L m news s vs Q E B F X N T hk XB TB D0 hR hdp hun hret
  (refine hide fun PQ kQ => ?_; obtain ⟨t1, t2, rfl⟩ := hR; refine kQ ?_; clear kQ PQ)
  refine wpAny_call ?_
  k_dflt open_k0
  rename_i g5 L5 h5 FG5 F5 N5 B5 X5 T5 D5
  k_steps
  refine Stop.e ?_
  refine TellR.use B5 F5 X5 N5 T5 rfl (part_tell w rs1 rs2 h1 h2 z1 z2) ⟨_, _, rfl⟩ (by show dp + 1 + 60 < recursionLimit; omega) (by show un + 3 + 8 * 60 < cLine; omega) ?ret ?raise
  case ret =>
    (intro r tl h' tk' F6 N6 hlt hQ42; refine hide fun PQ kQ => ?_; obtain ⟨rfl, rfl, hp⟩ := hQ42; refine kQ ?_; clear kQ PQ)
    dsimp only
    k_steps
    rename Fr g5 L5 _ _ => F8
    rename News g5 L5 _ (_ :: _) => N8
    rename (∀ p ∈ [] ++ news, _) => l1
    refine Stop.e (.go g5 L5 _ _ KtsTurn.refl F8 N8 fun h0' T1 kF kN kB kX kT kD => ?_)
    refine hret _ [_] _ _ h0' kB kF kX kN kT kD T1 (fun q hq p hp => ?_) ?_
    · rw [List.mem_singleton.mp hp]
      exact l1 q hq
    · show PartedAt _ _ _
      rw [hp]
      exact ⟨_, _, rfl, .head _⟩
  case raise =>
    (intro g e D tl h' tk' FG6 R6 U6 hlt hlte hQ56; refine hide fun PQ kQ => ?_; obtain ⟨k, a, b, oD, tkk, ta, tb, hp, hD, nD⟩ := hQ56; refine kQ ?_; clear kQ PQ)
    dsimp only
    refine caughtD R6 FG6 B5 U6 XB TB D5 (fun h X => ecls182 X) rfl (fun h7 g7 tk7 oe T7 F7 N7 hoc hod hoe B7 X7 P7 D7 => ?_) (by rfl) (by rfl) (by rfl) (by decide)
    k_steps
    have hDm : (D, oD) ∈ (e, oe) :: (tl ++ news) := .tail _ (List.mem_append_left _ hD)
    have hna : ∀ n : PySem.Str, nsIn (hd.heap_1 w.params) 181 n = some none → g7.nsMap 181 n = none := fun n q => ns_none_of X7 (ecls182 X7).ns q
    refine Stop.e ?_
    refine getE F7 (ecls182 X7) (N7 _ (.head _)).1 hoc hod hoe (N7 _ hDm).1 nD (hna _ rfl) (by rw [typeLookup_type, builtinLookup_eq_fast]; kernel_rfl) rfl rfl ?_
    k_steps
    refine Stop.e ?_
    refine getE F7 (ecls182 X7) (N7 _ (.head _)).1 hoc hod hoe (N7 _ hDm).1 nD (hna _ rfl) (by rw [typeLookup_type, builtinLookup_eq_fast]; kernel_rfl) rfl rfl ?_
    k_steps
    refine Stop.e ?_
    refine getE F7 (ecls182 X7) (N7 _ (.head _)).1 hoc hod hoe (N7 _ hDm).1 nD (hna _ rfl) (by rw [typeLookup_type, builtinLookup_eq_fast]; kernel_rfl) rfl rfl ?_
    k_steps
    rename Fr g7 L5 _ _ => F9
    rename News g7 L5 _ _ => N9
    rename (_ < _ ∧ _ < _ ∧ AllLt _ _) => o9
    rename (_ < _ ∧ AllLt _ _) => o8
    refine Stop.e (.go g7 L5 _ _ T7 F9 N9 fun h0' T1 kF kN kB kX kT kD => ?_)
    refine hret _ _ _ _ h0' kB kF kX (news_fin2 kN) kT kD T1 (ord_fin2 o8 o9) ?_
    show PartedAt _ _ _
    rw [hp]
    exact ⟨_, _, _, _, _, _, _, rfl, .head _, .tail _ (.head _)⟩
end Mine
end
section
open PySem PySem.Spec PySem.Calls PyProof.Rows PySem.W
set_option Elab.async false
set_option maxRecDepth 100000
set_option maxHeartbeats 4000000
set_option pp.deepTerms false
set_option pp.maxSteps 2500
namespace Mine
noncomputable def NsO (o : Obj) (m : PySem.Str → Option Value) : Prop := ∃ es ep, o.data = .dict es ep ∧ StrKeys es ∧ ∀ name, nsFind es name = m name
theorem NsO.ns {h : Heap} {C : Addr} {o : Obj} {m : PySem.Str → Option Value} (n : NsO o m) (e : h.get? C = some o) : Heap.Ns h C m := let ⟨es, ep, a, b, c⟩ := n; ⟨o, es, ep, e, a, b, c⟩
theorem NsO.of {h : Heap} {C : Addr} {m : PySem.Str → Option Value} (n : Heap.Ns h C m) : ∃ o, h.get? C = some o ∧ NsO o m := by
  (refine hide fun PQ kQ => ?_; obtain ⟨o, es, ep, e, r⟩ := n; refine kQ ?_; clear kQ PQ)
  exact ⟨o, e, es, ep, r⟩
section
variable {prog : Program} {w : World} {A : Around} {R : Result → Shared → Prop} {s : Shared}
noncomputable def compTests (ifs : List Expr) (env : Env) : Sem Bool := forIn ifs true fun c r => if r = true then do let ok ← isTrue c env (eval c env); pure (ForInStep.yield ok) else pure (ForInStep.yield r)
theorem compLoop_last {elt : Expr} {gens : List Comprehension} {scope : Scope} {pos : Pos} {depth : Nat} {g : Comprehension} {it acc : Value} {env : Env} (hg : gens[depth]? = some g) (hn : gens[depth + 1]? = none) (has : g.is_async = 0) (I : Nat → Shared → Prop)
    (turn : ∀ n s, I n s → wpAny (model prog w) A (pyNext it) (fun r s₁ => match r with
      | none => R (.ok .next) s₁
      | some v => wpAny (model prog w) A (letOwnedTupleGo g.target it v) (fun _ s₁ => wpAny (model prog w) A (assign g.target env v) (fun _ s₂ =>
          wpAny (model prog w) A (compTests g.ifs env) (fun ok s₃ =>
            if ok = true then wpAny (model prog w) A (eval elt env) (fun x s₄ =>
              wpAny (model prog w) A (call (.builtin "list.append") [acc, x]) (fun _ s₅ => ∃ m, m < n ∧ I m s₅) (notedBy (model prog w) A env fun e s' => R (.error e) s') s₄) (notedBy (model prog w) A env fun e s' => R (.error e) s') s₃
            else ∃ m, m < n ∧ I m s₃) (notedBy (model prog w) A env fun e s' => R (.error e) s') s₂) (notedBy (model prog w) A env fun e s' => R (.error e) s') s₁) (notedBy (model prog w) A env fun e s' => R (.error e) s') s₁) (notedBy (model prog w) A env fun e s' => R (.error e) s') s)
    (n : Nat) (h : I n s) :
    codeAny (model prog w) A (.compLoop (.ListComp elt gens scope pos) depth it acc env) R s := by
  refine codeAny_loop rfl I (fun n s hI => ?_) n h
  show wpAny _ A ((compTurn (.ListComp elt gens scope pos) depth it acc env).onRaise (fun x => do noteFrame x env; theTreesLotGoes x)) _ _ s
  refine wpAny_noted ?_
  unfold compTurn
  simp only [hg, hn, has]
  refine wpAny_bind (wpAny_standAt (wpAny_bind (wpAny_mono (turn n s hI) (fun r s₁ h₁ => ?_) fun _ _ h' => h')))
  cases r with
  | none => exact wpAny_pure h₁
  | some v =>
    refine wpAny_bind (wpAny_mono h₁ (fun _ s₁ h₁ => ?_) fun _ _ h' => h')
    refine wpAny_bind (wpAny_mono h₁ (fun _ s₂ h₂ => wpAny_bind (wpAny_mono h₂ (fun ok s₃ h₃ => ?_) fun _ _ h' => h')) fun _ _ h' => h')
    cases ok with
    | false => exact wpAny_pure ⟨rfl, h₃⟩
    | true =>
      exact wpAny_bind (wpAny_bind (wpAny_mono h₃ (fun x s₄ h₄ => wpAny_bind (wpAny_mono h₄ (fun _ s₅ h₅ => wpAny_pure (wpAny_pure ⟨rfl, h₅⟩)) fun _ _ h' => h')) fun _ _ h' => h'))
theorem compLoop_more {elt : Expr} {gens : List Comprehension} {scope : Scope} {pos : Pos} {depth : Nat} {g g' : Comprehension} {it acc : Value} {env : Env} (hg : gens[depth]? = some g) (hn : gens[depth + 1]? = some g') (has : g.is_async = 0) (has' : g'.is_async = 0) (I : Nat → Shared → Prop)
    (hs : ∀ x, foldedSetIterable g'.iter env x = pure x) (hif : g.ifs = [])
    (turn : ∀ n s, I n s → wpAny (model prog w) A (pyNext it) (fun r s₁ => match r with
      | none => R (.ok .next) s₁
      | some v => wpAny (model prog w) A (letOwnedTupleGo g.target it v) (fun _ s₁ => wpAny (model prog w) A (assign g.target env v) (fun _ s₂ =>
          wpAny (model prog w) A (eval g'.iter env) (fun x s₃ => wpAny (model prog w) A (pyIter x) (fun it' s₄ =>
            codeAny (model prog w) A (.compStart (.ListComp elt gens scope pos) (depth + 1) it' acc env) (fun r s₅ => match r with | .ok _ => ∃ m, m < n ∧ I m s₅ | .error e => cameBackBy (model prog w) A env (notedBy (model prog w) A env fun e s' => R (.error e) s') e s₅) s₄) (notedBy (model prog w) A env fun e s' => R (.error e) s') s₃) (notedBy (model prog w) A env fun e s' => R (.error e) s') s₂) (notedBy (model prog w) A env fun e s' => R (.error e) s') s₁) (notedBy (model prog w) A env fun e s' => R (.error e) s') s₁) (notedBy (model prog w) A env fun e s' => R (.error e) s') s)
    (n : Nat) (h : I n s) :
    codeAny (model prog w) A (.compLoop (.ListComp elt gens scope pos) depth it acc env) R s := by
  refine codeAny_loop rfl I (fun n s hI => ?_) n h
  show wpAny _ A ((compTurn (.ListComp elt gens scope pos) depth it acc env).onRaise (fun x => do noteFrame x env; theTreesLotGoes x)) _ _ s
  refine wpAny_noted ?_
  unfold compTurn
  simp only [hg, hn, has, has', hif]
  refine wpAny_bind (wpAny_standAt (wpAny_bind (wpAny_mono (turn n s hI) (fun r s₁ h₁ => ?_) fun _ _ h' => h')))
  cases r with
  | none => exact wpAny_pure h₁
  | some v =>
    refine wpAny_bind (wpAny_mono h₁ (fun _ s₁ h₁ => ?_) fun _ _ h' => h')
    refine wpAny_bind (wpAny_mono h₁ (fun _ s₂ h₂ => ?_) fun _ _ h' => h')
    refine wpAny_bind (wpAny_pure ?_)
    refine wpAny_bind (wpAny_mono h₂ (fun x s₃ h₃ => ?_) fun _ _ h' => h')
    refine wpAny_bind (wpAny_standAt (wpAny_bind (wpAny_of_eq (hs x) ?_)))
    refine wpAny_bind (wpAny_holding (wpAny_mono h₃ (fun it' s₄ h₄ => ?_) fun _ _ h' => h'))
    refine wpAny_bind (wpAny_runOwn (codeAny_mono h₄ fun r s₅ hr => ?_))
    cases r with
    | ok f => exact wpAny_pure ⟨rfl, hr⟩
    | error e => exact hr
theorem compStart_gen {elt : Expr} {gens : List Comprehension} {scope : Scope} {pos : Pos} {depth : Nat} {g : Comprehension} {it acc : Value} {env : Env} (hg : gens[depth]? = some g) (has : g.is_async = 0)
    (h0 : codeAny (model prog w) A (.compLoop (.ListComp elt gens scope pos) depth it acc env) R s)
    (h : wpAny (model prog w) A (pyIter it) (fun it' s' => codeAny (model prog w) A (.compLoop (.ListComp elt gens scope pos) depth it' acc env) R s') (notedBy (model prog w) A env fun x s' => R (.error x) s') s) :
    codeAny (model prog w) A (.compStart (.ListComp elt gens scope pos) depth it acc env) R s := by
  refine codeAny_of_tree ?_
  show wpAny _ _ ((compStart (.ListComp elt gens scope pos) depth it acc env).onRaise (fun x => do noteFrame x env; standAt theWindowsPlace)) _ _ s
  refine wpAny_notedAt ?_
  unfold compStart
  have hc : (clausesOf (.ListComp elt gens scope pos))[depth]? = some g := hg
  simp only [hc]
  have ha : (some g).elim false (fun x : Comprehension => x.is_async != 0) = false := by simp [has]
  rw [ha, if_neg Bool.false_ne_true]
  refine wpAny_bind (wpAny_askSetting ?_)
  refine wpAny_ite ?_
  split
  · exact wpAny_bind (wpAny_pure (wpAny_pure ⟨rfl, h0⟩))
  · refine wpAny_bind (wpAny_rule (wpAny_bind (wpAny_standAt ?_)))
    exact wpAny_bind (wpAny_mono h (fun it' s' h' => wpAny_pure ⟨rfl, h'⟩) fun _ _ y => y)
end
structure CompAt (h₀ : Heap) (L : Addr) (m : PySem.Str → Option Value) (C D I : Addr) (oI : Obj) (its : List Value) (nn : Nat) (led : List (Addr × Obj)) (u : PySem.Str → Option Value) (h : Heap) : Prop where
  F : Fr h₀ L h m
  N : ∃ oC, NsO oC u ∧ News h₀ L h ((C, oC) :: (D, listOf its.toArray nn) :: (I, oI) :: led)
  cd : C ≠ D
  ci : C ≠ I
  di : D ≠ I
  off : ∀ p ∈ led, p.1 ≠ C ∧ p.1 ≠ D ∧ p.1 ≠ I
section
variable {prog : Program} {w : World} {A : Around} {s : Shared} {env : Env} {h₀ : Heap} {L : Addr} {E : Value → Shared → Prop}
theorem CompAt.turnI {m u : PySem.Str → Option Value} {C D I : Addr} {oI o' : Obj} {its : List Value} {nn : Nat} {led : List (Addr × Obj)} {h h' : Heap} (c : CompAt h₀ L m C D I oI its nn led u h)
    (hk : ∀ b o, b ∉ [I] → h.get? b = some o → h'.get? b = some o) (hI : h'.get? I = some o') : CompAt h₀ L m C D I o' its nn led u h' := by
  (refine hide fun PQ kQ => ?_; obtain ⟨oC, hn, N⟩ := c.N; refine kQ ?_; clear kQ PQ)
  have hIo := (N _ (.tail _ (.tail _ (.head _))))
  have ne : ∀ b, b ≠ I → b ∉ [I] := fun b hb q => hb (List.mem_singleton.mp q)
  refine ⟨⟨c.F.ns.at' fun o e => hk _ o (ne _ (Ne.symm hIo.2.1)) e, fun b o e => hk b o (ne _ fun q => by rw [q, hIo.2.2] at e; cases e) (c.F.keep b o e), c.F.above⟩, ⟨oC, hn, fun p hp => ?_⟩, c.cd, c.ci, c.di, c.off⟩
  have old : ∀ p, p ∈ ((C, oC) :: (D, listOf its.toArray nn) :: (I, oI) :: led) → p.1 ≠ I → h'.get? p.1 = some p.2 ∧ p.1 ≠ L ∧ h₀.get? p.1 = none := fun p hp hne => ⟨hk _ _ (ne _ hne) (N p hp).1, (N p hp).2⟩
  rcases List.mem_cons.mp hp with rfl | hp
  · exact old _ (.head _) c.ci
  rcases List.mem_cons.mp hp with rfl | hp
  · exact old _ (.tail _ (.head _)) c.di
  rcases List.mem_cons.mp hp with rfl | hp
  · exact ⟨hI, hIo.2⟩
  · exact old _ (.tail _ (.tail _ (.tail _ hp))) (c.off p hp).2.2
theorem CompAt.endI {m u : PySem.Str → Option Value} {C D I : Addr} {oI : Obj} {its : List Value} {nn : Nat} {led : List (Addr × Obj)} {h h' : Heap} (c : CompAt h₀ L m C D I oI its nn led u h)
    (hk : ∀ b o, b ∉ [I] → h.get? b = some o → h'.get? b = some o) : Fr h₀ L h' m ∧ ∃ oC, NsO oC u ∧ News h₀ L h' ((C, oC) :: (D, listOf its.toArray nn) :: led) := by
  (refine hide fun PQ kQ => ?_; obtain ⟨oC, hn, N⟩ := c.N; refine kQ ?_; clear kQ PQ)
  have hIo := (N _ (.tail _ (.tail _ (.head _))))
  have ne : ∀ b, b ≠ I → b ∉ [I] := fun b hb q => hb (List.mem_singleton.mp q)
  refine ⟨⟨c.F.ns.at' fun o e => hk _ o (ne _ (Ne.symm hIo.2.1)) e, fun b o e => hk b o (ne _ fun q => by rw [q, hIo.2.2] at e; cases e) (c.F.keep b o e), c.F.above⟩, oC, hn, fun p hp => ?_⟩
  have old : ∀ p, p ∈ ((C, oC) :: (D, listOf its.toArray nn) :: (I, oI) :: led) → p.1 ≠ I → h'.get? p.1 = some p.2 ∧ p.1 ≠ L ∧ h₀.get? p.1 = none := fun p hp hne => ⟨hk _ _ (ne _ hne) (N p hp).1, (N p hp).2⟩
  rcases List.mem_cons.mp hp with rfl | hp
  · exact old _ (.head _) c.ci
  rcases List.mem_cons.mp hp with rfl | hp
  · exact old _ (.tail _ (.head _)) c.di
  · exact old _ (.tail _ (.tail _ (.tail _ hp))) (c.off p hp).2.2
theorem CompAt.turnC {m u u' : PySem.Str → Option Value} {C D I : Addr} {oI : Obj} {its : List Value} {nn : Nat} {led : List (Addr × Obj)} {h h' : Heap} (c : CompAt h₀ L m C D I oI its nn led u h)
    (hs : Heap.SameBut C h h') (hC : h'.Ns C u') : CompAt h₀ L m C D I oI its nn led u' h' := by
  (refine hide fun PQ kQ => ?_; obtain ⟨oC, hn, N⟩ := c.N; refine kQ ?_; clear kQ PQ)
  (refine hide fun PQ kQ => ?_; obtain ⟨o', ho', hn'⟩ := NsO.of hC; refine kQ ?_; clear kQ PQ)
  have hCo := N _ (.head _)
  refine ⟨⟨c.F.ns.at' fun o e => (hs.2 _ (Ne.symm hCo.2.1)).trans e, fun b o e => (hs.2 b fun q => by rw [q, hCo.2.2] at e; cases e).trans (c.F.keep b o e), c.F.above⟩, ⟨o', hn', fun p hp => ?_⟩, c.cd, c.ci, c.di, c.off⟩
  have old : ∀ p, p ∈ ((C, oC) :: (D, listOf its.toArray nn) :: (I, oI) :: led) → p.1 ≠ C → h'.get? p.1 = some p.2 ∧ p.1 ≠ L ∧ h₀.get? p.1 = none := fun p hp hne => ⟨(hs.2 _ hne).trans (N p hp).1, (N p hp).2⟩
  rcases List.mem_cons.mp hp with rfl | hp
  · exact ⟨ho', hCo.2⟩
  rcases List.mem_cons.mp hp with rfl | hp
  · exact old _ (.tail _ (.head _)) (Ne.symm c.cd)
  rcases List.mem_cons.mp hp with rfl | hp
  · exact old _ (.tail _ (.tail _ (.head _))) (Ne.symm c.ci)
  · exact old _ (.tail _ (.tail _ (.tail _ hp))) (c.off p hp).1
theorem CompAt.ns {m u : PySem.Str → Option Value} {C D I : Addr} {oI : Obj} {its : List Value} {nn : Nat} {led : List (Addr × Obj)} {h : Heap} (c : CompAt h₀ L m C D I oI its nn led u h) : h.Ns C u := by
  (refine hide fun PQ kQ => ?_; obtain ⟨oC, hn, N⟩ := c.N; refine kQ ?_; clear kQ PQ)
  exact hn.ns (N _ (.head _)).1
theorem CompAt.append {m u : PySem.Str → Option Value} {C D I : Addr} {oI : Obj} {its : List Value} {nn : Nat} {led : List (Addr × Obj)} {y : Value} {Q : Value → Shared → Prop} (c : CompAt h₀ L m C D I oI its nn led u s.heap) (hz : its.length ≤ 2 ^ 20)
    (h : ∀ h', CompAt h₀ L m C D I oI (its ++ [y]) (nn + 1) led u h' → Q .none { s with heap := h' }) : wpAny (model prog w) A (call (.builtin "list.append") [.ref D, y]) Q E s := by
  (refine hide fun PQ kQ => ?_; obtain ⟨oC, hn, N⟩ := c.N; refine kQ ?_; clear kQ PQ)
  have hD := N _ (.tail _ (.head _))
  have e : its.toArray.push y = (its ++ [y]).toArray := by simp
  refine append_K (its := its.toArray) (n := nn) (news' := (C, oC) :: (D, listOf (its ++ [y]).toArray (nn + 1)) :: (I, oI) :: led) c.F N ?_ (fun h' F' N' => ?_) ?_
  · rw [← e]
    refine .tail c.cd (.head fun p hp => ?_)
    rcases List.mem_cons.mp hp with rfl | hp
    · exact Ne.symm c.di
    · exact (c.off p hp).2.1
  · exact h h' ⟨F', ⟨oC, hn, N'⟩, c.cd, c.ci, c.di, c.off⟩
  · rw [List.size_toArray]
    exact Nat.le_trans hz (by decide)
noncomputable def CompEnd {σ : Type} (h₀ : Heap) (L : Addr) (m : PySem.Str → Option Value) (C D I : Addr) (oI : Obj) (its : List Value) (nn : Nat) (Led : σ → List (Addr × Obj)) (P : List Value → σ → Prop) (tail : List Value) (s s' : Shared) : Prop :=
  ∃ c h' tk' u, s' = { s with heap := h', toks := tk' } ∧ CompAt h₀ L m C D I oI its nn (Led c) u h' ∧ P (its ++ tail) c
theorem CompEnd.i {σ : Type} {h₀ : Heap} {L : Addr} {m : PySem.Str → Option Value} {C D I : Addr} {oI : Obj} {its : List Value} {nn : Nat} {Led : σ → List (Addr × Obj)} {P : List Value → σ → Prop} {tail : List Value} {s : Shared} {h' : Heap} {tk' : Nat} {u : PySem.Str → Option Value} (c : σ) (hc : CompAt h₀ L m C D I oI its nn (Led c) u h') (hP : P (its ++ tail) c) :
    CompEnd h₀ L m C D I oI its nn Led P tail s { s with heap := h', toks := tk' } := ⟨c, h', tk', u, rfl, hc, hP⟩
theorem compIn_walks {σ : Type} {elt : Expr} {gens : List Comprehension} {iter : Expr} {depth : Nat} {x : PySem.Str} {px : Pos} {ifs : List Expr} {scope : Scope} {pos : Pos} {cenv : Env} {C D I : Addr} {ax : List (Addr × Obj)} {n : Nat} {Pv : Nat → Value → Prop} {St : Nat → Heap → Prop} {m : PySem.Str → Option Value} {oi : Obj}
    {R : Result → Shared → Prop} {its₀ : List Value} {nn₀ : Nat} {u₀ : PySem.Str → Option Value}
    (Led : σ → List (Addr × Obj)) (P : Nat → List Value → σ → Prop) (c₀ : σ)
    (hg : gens[depth]? = some ⟨.Name x px, iter, ifs, 0⟩) (hgn : gens[depth + 1]? = none)
    (W : Walks prog w A I (I :: ax.map (·.1)) [I] n Pv St) (hSt : ∀ i h, St i h → ∃ o, h.get? I = some o) (hax : ∀ c, ∀ p ∈ ax, p ∈ Led c)
    (hC : cenv.locals = C) (hx : cenv.kindOf x = some .local) (hpl : (cenv.scope.kind == .class || (cenv.scope.kind == .module && cenv.locals != cenv.globals)) = false)
    (hst : St 0 s.heap) (start : CompAt h₀ L m C D I oi its₀ nn₀ (Led c₀) u₀ s.heap) (h0 : P 0 its₀ c₀) (hlen : ∀ i its c, P i its c → its.length ≤ 2 ^ 20)
    (turn : ∀ i c h tk v oI its nn (u : PySem.Str → Option Value) (E' : Value → Shared → Prop), i < n → P i its c → Pv i v → CompAt h₀ L m C D I oI its nn (Led c) (fun y => if y = x then some v else u y) h → (∀ y, y ≠ x → u y = u₀ y) →
      wpAny (model prog w) A (compTests ifs cenv) (fun ok s₁ => if ok = true then wpAny (model prog w) A (eval elt cenv) (fun y s₂ => ∃ c' h' tk' u', s₂ = { s with heap := h', toks := tk' } ∧ CompAt h₀ L m C D I oI its nn (Led c') u' h' ∧ (∀ y, y ≠ x → u' y = u₀ y) ∧ P (i + 1) (its ++ [y]) c') E' s₁
        else ∃ c' h' tk' u', s₁ = { s with heap := h', toks := tk' } ∧ CompAt h₀ L m C D I oI its nn (Led c') u' h' ∧ (∀ y, y ≠ x → u' y = u₀ y) ∧ P (i + 1) its c') E' { s with heap := h, toks := tk })
    (done : ∀ c h tk its nn oC u, P n its c → Fr h₀ L h m → NsO oC u → News h₀ L h ((C, oC) :: (D, listOf its.toArray nn) :: Led c) → C ≠ D → (∀ p ∈ Led c, p.1 ≠ C ∧ p.1 ≠ D) → R (.ok .next) { s with heap := h, toks := tk }) :
    codeAny (model prog w) A (.compStart (.ListComp elt gens scope pos) depth (.ref I) (.ref D) cenv) R s := by
  subst hC
  have loop : codeAny (model prog w) A (.compLoop (.ListComp elt gens scope pos) depth (.ref I) (.ref D) cenv) R s := by
    refine compLoop_last (g := ⟨.Name x px, iter, ifs, 0⟩) hg hgn rfl
      (fun k s' => ∃ i c h tk oI its nn u, s' = { s with heap := h, toks := tk } ∧ CompAt h₀ L m cenv.locals D I oI its nn (Led c) u h ∧ (∀ y, y ≠ x → u y = u₀ y) ∧ St i h ∧ P i its c ∧ i ≤ n ∧ k = n - i) ?_ n
      ⟨0, c₀, s.heap, s.toks, oi, its₀, nn₀, u₀, rfl, start, fun _ _ => rfl, hst, h0, Nat.zero_le _, rfl⟩
    (intro k s' hQ286; refine hide fun PQ kQ => ?_; obtain ⟨i, c, h, tk, oI, its, nn, u, rfl, hcat, hu, hst', hP, hi, rfl⟩ := hQ286; refine kQ ?_; clear kQ PQ)
    by_cases hlt : i < n
    · refine W.item i _ _ _ hlt hst' fun v h₂ tk₂ hPv hst₂ hk₂ => ?_
      dsimp only
      obtain ⟨o₂, hI₂⟩ := hSt _ _ hst₂
      have c₂ := hcat.turnI hk₂ hI₂
      refine wpAny_of_eq (a := ()) rfl ?_
      refine wpAny_assign_Name (wpAny_storeName_local hx c₂.ns (fun h₃ hn₃ hs₃ => ?_) hpl)
      have c₃ := c₂.turnC hs₃ hn₃
      have hst₃ : St (i + 1) h₃ := W.frame _ _ _ hst₂ fun b hb o e => by
        have hbC : b ≠ cenv.locals := by
          rcases List.mem_cons.mp hb with rfl | hb
          · exact Ne.symm c₃.ci
          · (refine hide fun PQ kQ => ?_; obtain ⟨p, hp, rfl⟩ := List.mem_map.mp hb; refine kQ ?_; clear kQ PQ)
            exact (c₃.off p (hax c p hp)).1
        exact (hs₃.2 b hbC).trans e
      have stay : ∀ (c' : σ) (h' : Heap) (its' : List Value) (nn' : Nat) (u' : PySem.Str → Option Value), CompAt h₀ L m cenv.locals D I o₂ its' nn' (Led c') u' h' → St (i + 1) h' := fun c' h' its' nn' u' c₄ => by
        (refine hide fun PQ kQ => ?_; obtain ⟨_, _, N₃⟩ := c₃.N; refine kQ ?_; clear kQ PQ)
        (refine hide fun PQ kQ => ?_; obtain ⟨_, _, N₄⟩ := c₄.N; refine kQ ?_; clear kQ PQ)
        refine W.frame _ _ _ hst₃ fun b hb o e => ?_
        rcases List.mem_cons.mp hb with rfl | hb
        · have e1 := (N₃ _ (.tail _ (.tail _ (.head _)))).1
          rw [e1] at e; cases e
          exact (N₄ _ (.tail _ (.tail _ (.head _)))).1
        · (refine hide fun PQ kQ => ?_; obtain ⟨p, hp, rfl⟩ := List.mem_map.mp hb; refine kQ ?_; clear kQ PQ)
          have e1 := (N₃ p (.tail _ (.tail _ (.tail _ (hax c p hp))))).1
          rw [e1] at e; cases e
          exact (N₄ p (.tail _ (.tail _ (.tail _ (hax c' p hp))))).1
      refine wpAny_mono (turn i c h₃ _ v o₂ its nn u _ hlt hP hPv c₃ hu) (fun ok s₃ h₃' => ?_) fun _ _ e => e
      cases ok with
      | false =>
        (refine hide fun PQ kQ => ?_; obtain ⟨c', h', tk', u', rfl, c₄, hu', hP'⟩ := h₃'; refine kQ ?_; clear kQ PQ)
        exact ⟨n - (i + 1), by omega, i + 1, c', h', tk', o₂, its, nn, u', rfl, c₄, hu', stay c' h' its nn u' c₄, hP', hlt, rfl⟩
      | true =>
        refine wpAny_mono h₃' (fun y s₄ h₄ => ?_) fun _ _ e => e
        (refine hide fun PQ kQ => ?_; obtain ⟨c', h', tk', u', rfl, c₄, hu', hP'⟩ := h₄; refine kQ ?_; clear kQ PQ)
        refine CompAt.append (s := { s with heap := h', toks := tk' }) c₄ (hlen _ _ _ hP) fun h'' c₅ => ?_
        exact ⟨n - (i + 1), by omega, i + 1, c', h'', tk', o₂, its ++ [y], nn + 1, u', rfl, c₅, hu', stay c' h'' _ _ u' c₅, hP', hlt, rfl⟩
    · have hin : i = n := by omega
      subst hin
      refine W.done _ _ _ hst' fun h₂ tk₂ hk₂ => ?_
      dsimp only
      (refine hide fun PQ kQ => ?_; obtain ⟨F', oC', hn', N'⟩ := hcat.endI hk₂; refine kQ ?_; clear kQ PQ)
      exact done c h₂ tk₂ its nn oC' u hP F' hn' N' hcat.cd fun p hp => ⟨(hcat.off p hp).1, (hcat.off p hp).2.1⟩
  exact compStart_gen hg rfl loop (W.self 0 _ _ _ hst loop)
theorem comp2_walks {σ : Type} {elt iter : Expr} {x : PySem.Str} {px : Pos} {g' : Comprehension} {scope : Scope} {cl : List (PySem.Str × Addr)} {pos : Pos} {I : Addr} {ax : List (Addr × Obj)} {n : Nat} {Pv : Nat → Value → Prop} {St : Nat → Heap → Prop} {m : PySem.Str → Option Value} {oi : Obj}
    {RR : Value → Addr → Result → Shared → Prop}
    (Led : σ → List (Addr × Obj)) (P : Nat → List Value → σ → Prop) (c₀ : σ)
    (W : Walks prog w A I (I :: ax.map (·.1)) [I] n Pv St) (hSt : ∀ i h, St i h → ∃ o, h.get? I = some o) (hax : ∀ c, ∀ p ∈ ax, p ∈ Led c)
    (hcell : ∀ y ∈ scope.names, y.2 ≠ .cell) (hkind : scope.kind = .function) (hx : scope.names.lookup x = some .local)
    (has' : g'.is_async = 0) (hs : ∀ (cenv : Env) x, foldedSetIterable g'.iter cenv x = pure x)
    (hst : St 0 s.heap) (F : Fr h₀ L s.heap m) (N : News h₀ L s.heap ((I, oi) :: Led c₀)) (hI : ∀ p ∈ Led c₀, p.1 ≠ I) (h0 : P 0 [] c₀)
    (turn : ∀ i c h tk v C D oI its nn (u : PySem.Str → Option Value) (E' E'' : Value → Shared → Prop), i < n → P i its c → Pv i v → CompAt h₀ L m C D I oI its nn (Led c) (fun y => if y = x then some v else u y) h →
      wpAny (model prog w) A (eval g'.iter (compEnvC scope cl C env)) (fun xv s₃ => wpAny (model prog w) A (pyIter xv) (fun it' s₄ =>
        codeAny (model prog w) A (.compStart (.ListComp elt [⟨.Name x px, iter, [], 0⟩, g'] scope pos) 1 it' (.ref D) (compEnvC scope cl C env)) (fun r s₅ => match r with
          | .ok _ => ∃ c' h' tk' its' nn' u', s₅ = { s with heap := h', toks := tk' } ∧ CompAt h₀ L m C D I oI its' nn' (Led c') u' h' ∧ P (i + 1) its' c'
          | .error e => E'' e s₅) s₄) E' s₃) E' { s with heap := h, toks := tk })
    (done : ∀ c h tk D C its nn oC u, P n its c → Fr h₀ L h m → NsO oC u → News h₀ L h ((C, oC) :: (D, listOf its.toArray nn) :: Led c) → C ≠ D → (∀ p ∈ Led c, p.1 ≠ C ∧ p.1 ≠ D) → RR (.ref D) C (.ok .next) { s with heap := h, toks := tk }) :
    wpAny (model prog w) A (newList []) (fun acc s₃ => wpAny (model prog w) A (newFunctionEnv scope env.globals cl [] env.qual none .none (some env)) (fun cenv s₄ =>
      codeAny (model prog w) A (.compStart (.ListComp elt [⟨.Name x px, iter, [], 0⟩, g'] scope pos) 0 (.ref I) acc { cenv with scope := relabel scope env }) (RR acc cenv.locals) s₄) E s₃) E s := by
  refine wpAny_newObj_type (wpAny_newFunctionEnv hcell (by intro y hy; simp at hy) (fun h₁ hns₁ hsb₁ => ?_) hkind)
  dsimp only at hns₁ hsb₁ ⊢
  (revert hsb₁; revert hns₁; refine gen1 (s.heap.push { cls := .type "list", dict := none, data := .seq ([] : List Value).toArray }) fun H2 hH2 => ?_; intro hns₁ hsb₁)
  have hC : H2.objs.size = s.heap.objs.size + 1 := by rw [← hH2, Heap.size_push]
  have lt0 : ∀ b o, s.heap.get? b = some o → b < s.heap.objs.size := fun b o e => Heap.lt_size e
  have old : ∀ b o, s.heap.get? b = some o → h₁.get? b = some o := fun b o e => hsb₁.extBut b o (by have := lt0 b o e; rw [hC]; exact Nat.ne_of_lt (Nat.lt_succ_of_lt this)) (Heap.get?_push_of_some _ (hH2 ▸ Heap.get?_push_of_some _ e))
  have hDC : s.heap.objs.size ≠ H2.objs.size := by rw [hC]; exact Nat.ne_of_lt (Nat.lt_succ_self _)
  have hacc : h₁.get? s.heap.objs.size = some (listOf ([] : List Value).toArray 0) := hsb₁.extBut _ _ hDC (Heap.get?_push_of_some _ (hH2 ▸ Heap.get?_push_size _ rfl))
  (refine hide fun PQ kQ => ?_; obtain ⟨oC, hoC, hnC⟩ := NsO.of hns₁; refine kQ ?_; clear kQ PQ)
  have none_at : ∀ a, s.heap.objs.size ≤ a → h₀.get? a = none := fun a ha => by
    cases e : h₀.get? a with
    | none => rfl
    | some o => exact absurd (lt0 _ _ (F.keep _ _ e)) (Nat.not_lt.mpr ha)
  have hL : L < s.heap.objs.size := F.ns.lt
  have start : CompAt h₀ L m H2.objs.size s.heap.objs.size I oi [] 0 (Led c₀) (fun y => ([] : List (PySem.Str × Value)).reverse.lookup y) h₁ := by
    have hIl := lt0 _ _ (N _ (.head _)).1
    refine ⟨F.keeps old, ⟨oC, hnC, fun p hp => ?_⟩, Ne.symm hDC, ?_, ?_, fun p hp => ?_⟩
    · rcases List.mem_cons.mp hp with rfl | hp
      · exact ⟨hoC, by rw [hC]; exact Nat.ne_of_gt (Nat.lt_succ_of_lt hL), none_at _ (by rw [hC]; exact Nat.le_succ _)⟩
      rcases List.mem_cons.mp hp with rfl | hp
      · exact ⟨hacc, Nat.ne_of_gt hL, none_at _ (Nat.le_refl _)⟩
      · exact ⟨old _ _ (N p hp).1, (N p hp).2⟩
    · rw [hC]; exact Nat.ne_of_gt (Nat.lt_succ_of_lt hIl)
    · exact Nat.ne_of_gt hIl
    · have hpl := lt0 _ _ (N p (.tail _ hp)).1
      refine ⟨?_, Nat.ne_of_lt hpl, hI p hp⟩
      rw [hC]; exact Nat.ne_of_lt (Nat.lt_succ_of_lt hpl)
  have hst₁ : St 0 h₁ := W.frame _ _ _ hst fun b _ o e => old b o e
  have loop : codeAny (model prog w) A (.compLoop (.ListComp elt [⟨.Name x px, iter, [], 0⟩, g'] scope pos) 0 (.ref I) (.ref s.heap.objs.size) (compEnvC scope cl H2.objs.size env))
      (RR (.ref s.heap.objs.size) H2.objs.size) { s with heap := h₁, toks := s.toks + ([] : List (PySem.Str × Value)).length } := by
    refine compLoop_more (g := ⟨.Name x px, iter, [], 0⟩) (g' := g') rfl rfl rfl has'
      (fun k s' => ∃ i c h tk oI its nn u, s' = { s with heap := h, toks := tk } ∧ CompAt h₀ L m H2.objs.size s.heap.objs.size I oI its nn (Led c) u h ∧ St i h ∧ P i its c ∧ i ≤ n ∧ k = n - i) (hs _) rfl ?_ n
      ⟨0, c₀, h₁, _, oi, [], 0, _, rfl, start, hst₁, h0, Nat.zero_le _, rfl⟩
    (intro k s' hQ381; refine hide fun PQ kQ => ?_; obtain ⟨i, c, h, tk, oI, its, nn, u, rfl, hcat, hst', hP, hi, rfl⟩ := hQ381; refine kQ ?_; clear kQ PQ)
    by_cases hlt : i < n
    · refine W.item i _ _ _ hlt hst' fun v h₂ tk₂ hPv hst₂ hk₂ => ?_
      dsimp only
      obtain ⟨o₂, hI₂⟩ := hSt _ _ hst₂
      have c₂ := hcat.turnI hk₂ hI₂
      refine wpAny_of_eq (a := ()) rfl ?_
      refine wpAny_assign_Name (wpAny_storeName_local (env := compEnvC scope cl H2.objs.size env) (lookup_relabel_local hx) c₂.ns (fun h₃ hn₃ hs₃ => ?_) (by simp [compEnvC, relabel, hkind]))
      have c₃ := c₂.turnC hs₃ hn₃
      have hst₃ : St (i + 1) h₃ := W.frame _ _ _ hst₂ fun b hb o e => by
        have hbC : b ≠ H2.objs.size := by
          rcases List.mem_cons.mp hb with rfl | hb
          · exact Ne.symm c₃.ci
          · (refine hide fun PQ kQ => ?_; obtain ⟨p, hp, rfl⟩ := List.mem_map.mp hb; refine kQ ?_; clear kQ PQ)
            exact (c₃.off p (hax c p hp)).1
        exact (hs₃.2 b hbC).trans e
      have stay : ∀ (c' : σ) (h' : Heap) (its' : List Value) (nn' : Nat) (u' : PySem.Str → Option Value), CompAt h₀ L m H2.objs.size s.heap.objs.size I o₂ its' nn' (Led c') u' h' → St (i + 1) h' := fun c' h' its' nn' u' c₄ => by
        (refine hide fun PQ kQ => ?_; obtain ⟨_, _, N₃⟩ := c₃.N; refine kQ ?_; clear kQ PQ)
        (refine hide fun PQ kQ => ?_; obtain ⟨_, _, N₄⟩ := c₄.N; refine kQ ?_; clear kQ PQ)
        refine W.frame _ _ _ hst₃ fun b hb o e => ?_
        rcases List.mem_cons.mp hb with rfl | hb
        · have e1 := (N₃ _ (.tail _ (.tail _ (.head _)))).1
          rw [e1] at e; cases e
          exact (N₄ _ (.tail _ (.tail _ (.head _)))).1
        · (refine hide fun PQ kQ => ?_; obtain ⟨p, hp, rfl⟩ := List.mem_map.mp hb; refine kQ ?_; clear kQ PQ)
          have e1 := (N₃ p (.tail _ (.tail _ (.tail _ (hax c p hp))))).1
          rw [e1] at e; cases e
          exact (N₄ p (.tail _ (.tail _ (.tail _ (hax c' p hp))))).1
      refine wpAny_mono (turn i c h₃ _ v H2.objs.size s.heap.objs.size o₂ its nn u _ (cameBackBy (model prog w) A (compEnvC scope cl H2.objs.size env) (notedBy (model prog w) A (compEnvC scope cl H2.objs.size env) fun e s' => RR (.ref s.heap.objs.size) H2.objs.size (.error e) s')) hlt hP hPv c₃) (fun xv s₃ h₃' => ?_) fun _ _ e => e
      refine wpAny_mono h₃' (fun it' s₄ h₄ => ?_) fun _ _ e => e
      refine codeAny_mono h₄ fun r s₅ hr => ?_
      cases r with
      | ok f =>
        (refine hide fun PQ kQ => ?_; obtain ⟨c', h', tk', its', nn', u', rfl, c₄, hP'⟩ := hr; refine kQ ?_; clear kQ PQ)
        exact ⟨n - (i + 1), by omega, i + 1, c', h', tk', o₂, its', nn', u', rfl, c₄, stay c' h' its' nn' u' c₄, hP', hlt, rfl⟩
      | error e => exact hr
    · have hin : i = n := by omega
      subst hin
      refine W.done _ _ _ hst' fun h₂ tk₂ hk₂ => ?_
      dsimp only
      (refine hide fun PQ kQ => ?_; obtain ⟨F', oC', hn', N'⟩ := hcat.endI hk₂; refine kQ ?_; clear kQ PQ)
      exact done c h₂ tk₂ _ _ its nn oC' u hP F' hn' N' hcat.cd fun p hp => ⟨(hcat.off p hp).1, (hcat.off p hp).2.1⟩
  exact compStart_gen (g := ⟨.Name x px, iter, [], 0⟩) rfl rfl loop (W.self 0 _ _ _ hst₁ loop)
theorem compPost_none {M : Model} {Q : Value → Shared → Prop} {acc : Value} {C : Addr} {oC : Obj} {u : PySem.Str → Option Value} {m : PySem.Str → Option Value} {h : Heap} {tk : Nat} {led : List (Addr × Obj)} (F : Fr h₀ L h m) (hn : NsO oC u) (N : News h₀ L h ((C, oC) :: led)) (off : ∀ p ∈ led, p.1 ≠ C)
    (hQ : ∀ h', Fr h₀ L h' m → News h₀ L h' led → Q acc { s with heap := h', toks := tk }) : compPost M A E none Q acc C (.ok .next) { s with heap := h, toks := tk } := by
  refine ⟨u, hn.ns (N _ (.head _)).1, fun h' hs => ?_⟩
  have hC := N _ (.head _)
  exact hQ h' ⟨F.ns.at' fun o e => (hs.2 _ (Ne.symm hC.2.1)).trans e, fun b o e => (hs.2 b fun q => by rw [q, hC.2.2] at e; cases e).trans (F.keep b o e), F.above⟩ fun p hp =>
    ⟨(hs.2 _ (off p hp)).trans (N p (.tail _ hp)).1, (N p (.tail _ hp)).2⟩
end
end Mine
end
section
open PySem PySem.Spec PySem.Calls PyProof.Rows PySem.W
set_option Elab.async false
set_option maxRecDepth 100000
set_option maxHeartbeats 4000000
set_option pp.deepTerms false
set_option pp.maxSteps 2500
namespace Mine
section
variable {prog : Program} {w : World} {A : Around} {s : Shared} {env : Env} {h₀ : Heap} {L : Addr} {E : Value → Shared → Prop}
theorem compG_walks {σ : Type} {elt iter : Expr} {tgt : Expr} {ifs : List Expr} {scope : Scope} {cl : List (PySem.Str × Addr)} {pos : Pos} {I : Addr} {ax : List (Addr × Obj)} {n : Nat} {Pv : Nat → Value → Prop} {St : Nat → Heap → Prop} {m : PySem.Str → Option Value} {oi : Obj}
    {RR : Value → Addr → Result → Shared → Prop}
    (Led : σ → List (Addr × Obj)) (P : Nat → List Value → σ → Prop) (c₀ : σ)
    (W : Walks prog w A I (I :: ax.map (·.1)) [I] n Pv St) (hSt : ∀ i h, St i h → ∃ o, h.get? I = some o) (hax : ∀ c, ∀ p ∈ ax, p ∈ Led c)
    (hcell : ∀ y ∈ scope.names, y.2 ≠ .cell) (hkind : scope.kind = .function) (hn : n ≤ 2 ^ 20)
    (hst : St 0 s.heap) (F : Fr h₀ L s.heap m) (N : News h₀ L s.heap ((I, oi) :: Led c₀)) (hI : ∀ p ∈ Led c₀, p.1 ≠ I) (h0 : P 0 [] c₀) (hlen : ∀ i its c, P i its c → its.length ≤ i)
    (turn : ∀ i c h tk v C D oI its nn (u : PySem.Str → Option Value) (E' : Value → Shared → Prop), i < n → P i its c → Pv i v → CompAt h₀ L m C D I oI its nn (Led c) u h → St (i + 1) h →
      wpAny (model prog w) A (letOwnedTupleGo tgt (.ref I) v) (fun _ s₁ => wpAny (model prog w) A (assign tgt (compEnvC scope cl C env) v) (fun _ s₂ =>
        wpAny (model prog w) A (compTests ifs (compEnvC scope cl C env)) (fun ok s₁ => if ok = true then wpAny (model prog w) A (eval elt (compEnvC scope cl C env)) (fun y s₂ => CompEnd h₀ L m C D I oI its nn Led (P (i + 1)) [y] s s₂) E' s₁ else CompEnd h₀ L m C D I oI its nn Led (P (i + 1)) [] s s₁) E' s₂) E' s₁) E' { s with heap := h, toks := tk })
    (done : ∀ c h tk D C its nn oC u, P n its c → Fr h₀ L h m → NsO oC u → News h₀ L h ((C, oC) :: (D, listOf its.toArray nn) :: Led c) → C ≠ D → (∀ p ∈ Led c, p.1 ≠ C ∧ p.1 ≠ D) → RR (.ref D) C (.ok .next) { s with heap := h, toks := tk }) :
    wpAny (model prog w) A (newList []) (fun acc s₃ => wpAny (model prog w) A (newFunctionEnv scope env.globals cl [] env.qual none .none (some env)) (fun cenv s₄ =>
      codeAny (model prog w) A (.compStart (.ListComp elt [⟨tgt, iter, ifs, 0⟩] scope pos) 0 (.ref I) acc { cenv with scope := relabel scope env }) (RR acc cenv.locals) s₄) E s₃) E s := by
  refine wpAny_newObj_type (wpAny_newFunctionEnv hcell (by intro y hy; simp at hy) (fun h₁ hns₁ hsb₁ => ?_) hkind)
  dsimp only at hns₁ hsb₁ ⊢
  (revert hsb₁; revert hns₁; refine gen1 (s.heap.push { cls := .type "list", dict := none, data := .seq ([] : List Value).toArray }) fun H2 hH2 => ?_; intro hns₁ hsb₁)
  have hC : H2.objs.size = s.heap.objs.size + 1 := by rw [← hH2, Heap.size_push]
  have lt0 : ∀ b o, s.heap.get? b = some o → b < s.heap.objs.size := fun b o e => Heap.lt_size e
  have old : ∀ b o, s.heap.get? b = some o → h₁.get? b = some o := fun b o e => hsb₁.extBut b o (by have := lt0 b o e; rw [hC]; exact Nat.ne_of_lt (Nat.lt_succ_of_lt this)) (Heap.get?_push_of_some _ (hH2 ▸ Heap.get?_push_of_some _ e))
  have hDC : s.heap.objs.size ≠ H2.objs.size := by rw [hC]; exact Nat.ne_of_lt (Nat.lt_succ_self _)
  have hacc : h₁.get? s.heap.objs.size = some (listOf ([] : List Value).toArray 0) := hsb₁.extBut _ _ hDC (Heap.get?_push_of_some _ (hH2 ▸ Heap.get?_push_size _ rfl))
  (refine hide fun PQ kQ => ?_; obtain ⟨oC, hoC, hnC⟩ := NsO.of hns₁; refine kQ ?_; clear kQ PQ)
  have none_at : ∀ a, s.heap.objs.size ≤ a → h₀.get? a = none := fun a ha => by
    cases e : h₀.get? a with
    | none => rfl
    | some o => exact absurd (lt0 _ _ (F.keep _ _ e)) (Nat.not_lt.mpr ha)
  have hL : L < s.heap.objs.size := F.ns.lt
  have start : CompAt h₀ L m H2.objs.size s.heap.objs.size I oi [] 0 (Led c₀) (fun y => ([] : List (PySem.Str × Value)).reverse.lookup y) h₁ := by
    have hIl := lt0 _ _ (N _ (.head _)).1
    refine ⟨F.keeps old, ⟨oC, hnC, fun p hp => ?_⟩, Ne.symm hDC, ?_, ?_, fun p hp => ?_⟩
    · rcases List.mem_cons.mp hp with rfl | hp
      · exact ⟨hoC, by rw [hC]; exact Nat.ne_of_gt (Nat.lt_succ_of_lt hL), none_at _ (by rw [hC]; exact Nat.le_succ _)⟩
      rcases List.mem_cons.mp hp with rfl | hp
      · exact ⟨hacc, Nat.ne_of_gt hL, none_at _ (Nat.le_refl _)⟩
      · exact ⟨old _ _ (N p hp).1, (N p hp).2⟩
    · rw [hC]; exact Nat.ne_of_gt (Nat.lt_succ_of_lt hIl)
    · exact Nat.ne_of_gt hIl
    · have hpl := lt0 _ _ (N p (.tail _ hp)).1
      refine ⟨?_, Nat.ne_of_lt hpl, hI p hp⟩
      rw [hC]; exact Nat.ne_of_lt (Nat.lt_succ_of_lt hpl)
  have hst₁ : St 0 h₁ := W.frame _ _ _ hst fun b _ o e => old b o e
  have loop : codeAny (model prog w) A (.compLoop (.ListComp elt [⟨tgt, iter, ifs, 0⟩] scope pos) 0 (.ref I) (.ref s.heap.objs.size) (compEnvC scope cl H2.objs.size env))
      (RR (.ref s.heap.objs.size) H2.objs.size) { s with heap := h₁, toks := s.toks + ([] : List (PySem.Str × Value)).length } := by
    refine compLoop_last (g := ⟨tgt, iter, ifs, 0⟩) rfl rfl rfl
      (fun k s' => ∃ i c h tk oI its nn u, s' = { s with heap := h, toks := tk } ∧ CompAt h₀ L m H2.objs.size s.heap.objs.size I oI its nn (Led c) u h ∧ St i h ∧ P i its c ∧ i ≤ n ∧ k = n - i) ?_ n
      ⟨0, c₀, h₁, _, oi, [], 0, _, rfl, start, hst₁, h0, Nat.zero_le _, rfl⟩
    (intro k s' hQ56; refine hide fun PQ kQ => ?_; obtain ⟨i, c, h, tk, oI, its, nn, u, rfl, hcat, hst', hP, hi, rfl⟩ := hQ56; refine kQ ?_; clear kQ PQ)
    by_cases hlt : i < n
    · refine W.item i _ _ _ hlt hst' fun v h₂ tk₂ hPv hst₂ hk₂ => ?_
      dsimp only
      obtain ⟨o₂, hI₂⟩ := hSt _ _ hst₂
      have c₂ := hcat.turnI hk₂ hI₂
      have stay : ∀ (c' : σ) (h' : Heap) (its' : List Value) (nn' : Nat) (u' : PySem.Str → Option Value), CompAt h₀ L m H2.objs.size s.heap.objs.size I o₂ its' nn' (Led c') u' h' → St (i + 1) h' := fun c' h' its' nn' u' c₄ => by
        (refine hide fun PQ kQ => ?_; obtain ⟨_, _, N₃⟩ := c₂.N; refine kQ ?_; clear kQ PQ)
        (refine hide fun PQ kQ => ?_; obtain ⟨_, _, N₄⟩ := c₄.N; refine kQ ?_; clear kQ PQ)
        refine W.frame _ _ _ hst₂ fun b hb o e => ?_
        rcases List.mem_cons.mp hb with rfl | hb
        · have e1 := (N₃ _ (.tail _ (.tail _ (.head _)))).1
          rw [e1] at e; cases e
          exact (N₄ _ (.tail _ (.tail _ (.head _)))).1
        · (refine hide fun PQ kQ => ?_; obtain ⟨p, hp, rfl⟩ := List.mem_map.mp hb; refine kQ ?_; clear kQ PQ)
          have e1 := (N₃ p (.tail _ (.tail _ (.tail _ (hax c p hp))))).1
          rw [e1] at e; cases e
          exact (N₄ p (.tail _ (.tail _ (.tail _ (hax c' p hp))))).1
      refine wpAny_mono (turn i c h₂ _ v H2.objs.size s.heap.objs.size o₂ its nn u _ hlt hP hPv c₂ hst₂) (fun _ s₁ h₁' => ?_) fun _ _ e => e
      refine wpAny_mono h₁' (fun _ s₂ h₂' => ?_) fun _ _ e => e
      refine wpAny_mono h₂' (fun ok s₃ h₃' => ?_) fun _ _ e => e
      cases ok with
      | false =>
        (refine hide fun PQ kQ => ?_; obtain ⟨c', h', tk', u', rfl, c₄, hP'⟩ := h₃'; refine kQ ?_; clear kQ PQ)
        rw [List.append_nil] at hP'
        exact ⟨n - (i + 1), by omega, i + 1, c', h', tk', o₂, its, nn, u', rfl, c₄, stay c' h' its nn u' c₄, hP', hlt, rfl⟩
      | true =>
        refine wpAny_mono h₃' (fun y s₄ h₄ => ?_) fun _ _ e => e
        (refine hide fun PQ kQ => ?_; obtain ⟨c', h', tk', u', rfl, c₄, hP'⟩ := h₄; refine kQ ?_; clear kQ PQ)
        refine CompAt.append (s := { s with heap := h', toks := tk' }) c₄ (Nat.le_trans (hlen _ _ _ hP) (Nat.le_trans hi hn)) fun h'' c₅ => ?_
        exact ⟨n - (i + 1), by omega, i + 1, c', h'', tk', o₂, its ++ [y], nn + 1, u', rfl, c₅, stay c' h'' _ _ u' c₅, hP', hlt, rfl⟩
    · have hin : i = n := by omega
      subst hin
      refine W.done _ _ _ hst' fun h₂ tk₂ hk₂ => ?_
      dsimp only
      (refine hide fun PQ kQ => ?_; obtain ⟨F', oC', hn', N'⟩ := hcat.endI hk₂; refine kQ ?_; clear kQ PQ)
      exact done c h₂ tk₂ _ _ its nn oC' u hP F' hn' N' hcat.cd fun p hp => ⟨(hcat.off p hp).1, (hcat.off p hp).2.1⟩
  exact compStart_gen (g := ⟨tgt, iter, ifs, 0⟩) rfl rfl loop (W.self 0 _ _ _ hst₁ loop)
theorem compG_list {σ : Type} {elt iter tgt : Expr} {ifs : List Expr} {scope : Scope} {cl : List (PySem.Str × Addr)} {pos : Pos} {m : PySem.Str → Option Value} {l : Addr} {vs : List Value} {nn₀ : Nat}
    {RR : Value → Addr → Result → Shared → Prop}
    (Led : σ → List (Addr × Obj)) (P : Nat → List Value → σ → Prop) (c₀ : σ)
    (hl : ∀ c, (l, listOf vs.toArray nn₀) ∈ Led c) (hh : A.handled = none)
    (hcell : ∀ y ∈ scope.names, y.2 ≠ .cell) (hkind : scope.kind = .function) (hn : vs.length ≤ 2 ^ 20)
    (F : Fr h₀ L s.heap m) (N : News h₀ L s.heap (Led c₀)) (h0 : P 0 [] c₀) (hlen : ∀ i its c, P i its c → its.length ≤ i)
    (turn : ∀ i c h tk v C D I oI its nn (u : PySem.Str → Option Value) (E' : Value → Shared → Prop) (RE : List Value → Shared → Prop), vs[i]? = some v → P i its c → CompAt h₀ L m C D I oI its nn (Led c) u h → h.IsListIter I l (i + 1) → (∀ tl s', CompEnd h₀ L m C D I oI its nn Led (P (i + 1)) tl s s' → RE tl s') →
      wpAny (model prog w) A (letOwnedTupleGo tgt (.ref I) v) (fun _ s₁ => wpAny (model prog w) A (assign tgt (compEnvC scope cl C env) v) (fun _ s₂ =>
        wpAny (model prog w) A (compTests ifs (compEnvC scope cl C env)) (fun ok s₁ => if ok = true then wpAny (model prog w) A (eval elt (compEnvC scope cl C env)) (fun y s₂ => RE [y] s₂) E' s₁ else RE [] s₁) E' s₂) E' s₁) E' { s with heap := h, toks := tk })
    (done : ∀ c h tk D C its nn oC u, P vs.length its c → Fr h₀ L h m → NsO oC u → News h₀ L h ((C, oC) :: (D, listOf its.toArray nn) :: Led c) → C ≠ D → (∀ p ∈ Led c, p.1 ≠ C ∧ p.1 ≠ D) → RR (.ref D) C (.ok .next) { s with heap := h, toks := tk }) :
    wpAny (model prog w) A (pyIter (.ref l)) (fun it s₂ => wpAny (model prog w) A (newList []) (fun acc s₃ => wpAny (model prog w) A (newFunctionEnv scope env.globals cl [] env.qual none .none (some env)) (fun cenv s₄ =>
      codeAny (model prog w) A (.compStart (.ListComp elt [⟨tgt, iter, ifs, 0⟩] scope pos) 0 it acc { cenv with scope := relabel scope env }) (RR acc cenv.locals) s₄) E s₃) E s₂) E s := by
  have hls : s.heap.IsList l vs.toArray := ⟨_, (N _ (hl c₀)).1, rfl, nn₀, rfl⟩
  have hne : l ≠ s.heap.objs.size := Nat.ne_of_lt (Heap.lt_size (N _ (hl c₀)).1)
  refine wpAny_pyIter_list hls ?_
  have N' := News.push F N { cls := .type "list_iterator", data := .fields #[.ref l, .int 0 0] }
  have W := Walks.list (prog := prog) (w := w) hh s.heap.objs.size l hne vs.toArray
  rw [List.size_toArray] at W
  refine compG_walks (s := { s with heap := _ }) (ax := [(l, listOf vs.toArray nn₀)]) Led P c₀ W (fun _ _ h => ?_) (fun c p hp => (List.mem_singleton.mp hp) ▸ hl c) hcell hkind hn ?_ (F.push _) N' (fun p hp => Nat.ne_of_lt (Heap.lt_size (N p hp).1)) h0 hlen ?_ done
  · obtain ⟨⟨o, ho, _⟩, _⟩ := h; exact ⟨o, ho⟩
  · exact ⟨⟨_, Heap.get?_push_size _ rfl, rfl, rfl⟩, hls.at fun o e => Heap.get?_push_of_some _ e⟩
  · intro i c h tk v C D oI its nn u E' hi hP hv hc hst
    exact turn i c h tk v C D _ oI its nn u E' (fun tl s' => CompEnd h₀ L m C D _ oI its nn Led (P (i + 1)) tl _ s') (by simpa using hv) hP hc hst.1 (fun _ _ x => x)
theorem compG_range {σ : Type} {elt iter tgt : Expr} {ifs : List Expr} {scope : Scope} {cl : List (PySem.Str × Addr)} {pos : Pos} {m : PySem.Str → Option Value} {r : Addr} {a b : Int} {t₀ u₀ v₀ : Tok} {n : Nat}
    {RR : Value → Addr → Result → Shared → Prop}
    (Led : σ → List (Addr × Obj)) (P : Nat → List Value → σ → Prop) (c₀ : σ)
    (hr : IsRange s.heap r a b 1 t₀ u₀ v₀) (hsmall : Builtin.Range.small a b 1 = true) (hnn : Builtin.Range.rangeSize a b 1 = (n : Int)) (hh : A.handled = none)
    (hcell : ∀ y ∈ scope.names, y.2 ≠ .cell) (hkind : scope.kind = .function) (hn : n ≤ 2 ^ 20)
    (F : Fr h₀ L s.heap m) (N : News h₀ L s.heap (Led c₀)) (h0 : P 0 [] c₀) (hlen : ∀ i its c, P i its c → its.length ≤ i)
    (turn : ∀ i c h tk t C D I oI its nn (u : PySem.Str → Option Value) (E' : Value → Shared → Prop) (RE : List Value → Shared → Prop), i < n → P i its c → CompAt h₀ L m C D I oI its nn (Led c) u h → (∀ tl s', CompEnd h₀ L m C D I oI its nn Led (P (i + 1)) tl s s' → RE tl s') →
      wpAny (model prog w) A (letOwnedTupleGo tgt (.ref I) (.int (a + (i : Int)) t)) (fun _ s₁ => wpAny (model prog w) A (assign tgt (compEnvC scope cl C env) (.int (a + (i : Int)) t)) (fun _ s₂ =>
        wpAny (model prog w) A (compTests ifs (compEnvC scope cl C env)) (fun ok s₁ => if ok = true then wpAny (model prog w) A (eval elt (compEnvC scope cl C env)) (fun y s₂ => RE [y] s₂) E' s₁ else RE [] s₁) E' s₂) E' s₁) E' { s with heap := h, toks := tk })
    (done : ∀ c h tk D C its nn oC u, P n its c → Fr h₀ L h m → NsO oC u → News h₀ L h ((C, oC) :: (D, listOf its.toArray nn) :: Led c) → C ≠ D → (∀ p ∈ Led c, p.1 ≠ C ∧ p.1 ≠ D) → RR (.ref D) C (.ok .next) { s with heap := h, toks := tk }) :
    wpAny (model prog w) A (pyIter (.ref r)) (fun it s₂ => wpAny (model prog w) A (newList []) (fun acc s₃ => wpAny (model prog w) A (newFunctionEnv scope env.globals cl [] env.qual none .none (some env)) (fun cenv s₄ =>
      codeAny (model prog w) A (.compStart (.ListComp elt [⟨tgt, iter, ifs, 0⟩] scope pos) 0 it acc { cenv with scope := relabel scope env }) (RR acc cenv.locals) s₄) E s₃) E s₂) E s := by
  refine wpAny_pyIter_range hr hsmall ?_
  have N' := News.push F N { cls := .type "range_iterator", data := .fields #[rawInt a, rawInt (Builtin.Range.rangeSize a b 1), rawInt 1] }
  refine compG_walks (s := { s with heap := _ }) (ax := []) Led P c₀ (Walks.range hh s.heap.objs.size a 1 n) (fun _ _ h => ⟨_, h⟩) (fun _ p hp => nomatch hp) hcell hkind hn ?_ (F.push _) N' (fun p hp => Nat.ne_of_lt (Heap.lt_size (N p hp).1)) h0 hlen ?_ done
  · show IsRangeIter _ _ _ _ _
    rw [hnn]
    simpa using Heap.get?_push_size _ rfl
  · rintro i c h tk v C D oI its nn u E' hi hP ⟨t, rfl⟩ hc hst
    rw [Int.mul_one]
    exact turn i c h tk t C D _ oI its nn u E' (fun tl s' => CompEnd h₀ L m C D _ oI its nn Led (P (i + 1)) tl _ s') hi hP hc (fun _ _ x => x)
theorem CompAt.keeps {m u : PySem.Str → Option Value} {C D I : Addr} {oI : Obj} {its : List Value} {nn : Nat} {led : List (Addr × Obj)} {h h' : Heap} (c : CompAt h₀ L m C D I oI its nn led u h)
    (hk : ∀ b o, h.get? b = some o → h'.get? b = some o) : CompAt h₀ L m C D I oI its nn led u h' := by
  (refine hide fun PQ kQ => ?_; obtain ⟨oC, hn, N⟩ := c.N; refine kQ ?_; clear kQ PQ)
  exact ⟨c.F.keeps hk, ⟨oC, hn, fun p hp => ⟨hk _ _ (N p hp).1, (N p hp).2⟩⟩, c.cd, c.ci, c.di, c.off⟩
theorem CompAt.get {m u : PySem.Str → Option Value} {C D I : Addr} {oI : Obj} {its : List Value} {nn : Nat} {led : List (Addr × Obj)} {h : Heap} (c : CompAt h₀ L m C D I oI its nn led u h) {p : Addr × Obj} (hp : p ∈ led) : h.get? p.1 = some p.2 := by
  (refine hide fun PQ kQ => ?_; obtain ⟨oC, hn, N⟩ := c.N; refine kQ ?_; clear kQ PQ)
  exact (N p (.tail _ (.tail _ (.tail _ hp)))).1
theorem CompAt.set {m u : PySem.Str → Option Value} {C D I : Addr} {oI : Obj} {its : List Value} {nn : Nat} {led : List (Addr × Obj)} {scope : Scope} {cl : List (PySem.Str × Addr)} {x : PySem.Str} {px : Pos} {v : Value} {Q : Unit → Shared → Prop}
    (c : CompAt h₀ L m C D I oI its nn led u s.heap) (hkind : scope.kind = .function) (hx : scope.names.lookup x = some .local)
    (h : ∀ h', CompAt h₀ L m C D I oI its nn led (fun y => if y = x then some v else u y) h' → Q () { s with heap := h', toks := s.toks + 1 }) :
    wpAny (model prog w) A (assign (.Name x px) (compEnvC scope cl C env) v) Q E s :=
  wpAny_assign_Name (wpAny_storeName_local (env := compEnvC scope cl C env) (lookup_relabel_local hx) c.ns (fun h' hn hs => h h' (c.turnC hs hn)) (by simp [compEnvC, relabel, hkind]))
theorem compTests_nil {e' : Env} {Q : Bool → Shared → Prop} (h : Q true s) : wpAny (model prog w) A (compTests [] e') Q E s := wpAny_pure h
theorem compTests_one {c : Expr} {e' : Env} {Q : Bool → Shared → Prop} (h : wpAny (model prog w) A (isTrue c e' (eval c e')) Q E s) : wpAny (model prog w) A (compTests [c] e') Q E s := by
  unfold compTests
  simp only [List.forIn_cons, List.forIn_nil, if_true]
  refine wpAny_bind ?_
  exact wpAny_bind (wpAny_mono h (fun ok s₁ h₁ => wpAny_pure (wpAny_pure h₁)) fun _ _ e => e)
theorem evalComp {elt : Expr} {tgt iter : Expr} {ifs : List Expr} {gs : List Comprehension} {scope : Scope} {pos : Pos} {cl : List (PySem.Str × Addr)} {Q : Value → Shared → Prop}
    (hs : ∀ x, foldedSetIterable iter env x = pure x) (hclos : closureFor scope env = pure cl) (hkind : scope.kind = .function) (hnames : ∀ x ∈ scope.names, x.2 = .local → scope.names.lookup x.1 = some .local)
    (h : wpAny (model prog w) A (eval iter env) (fun x s₁ => wpAny (model prog w) A (pyIter x) (fun it s₂ => wpAny (model prog w) A (newList []) (fun acc s₃ =>
      wpAny (model prog w) A (newFunctionEnv scope env.globals cl [] env.qual none .none (some env)) (fun cenv s₄ =>
        codeAny (model prog w) A (.compStart (.ListComp elt (⟨tgt, iter, ifs, 0⟩ :: gs) scope pos) 0 it acc { cenv with scope := relabel scope env }) (compPost (model prog w) A E none Q acc cenv.locals) s₄) E s₃) E s₂) E s₁) E s) :
    wpAny (model prog w) A (eval (.ListComp elt (⟨tgt, iter, ifs, 0⟩ :: gs) scope pos) env) Q E s := by
  rw [eval_ListComp]
  exact wpAny_comprehension_free (use := none) rfl hs hclos hkind hnames h
theorem execCompAssign {elt : Expr} {tgt iter : Expr} {ifs : List Expr} {gs : List Comprehension} {scope : Scope} {pos py spos : Pos} {cl : List (PySem.Str × Addr)} {y : PySem.Str} {Q : Flow → Shared → Prop}
    (hsw : swapsWith (.ListComp elt (⟨tgt, iter, ifs, 0⟩ :: gs) scope pos) (some (.Name y py)) spos.line env = pure true)
    (hs : ∀ x, foldedSetIterable iter env x = pure x) (hclos : closureFor scope env = pure cl) (hkind : scope.kind = .function) (hnames : ∀ x ∈ scope.names, x.2 = .local → scope.names.lookup x.1 = some .local)
    (h : wpAny (model prog w) A (eval iter env) (fun x s₁ => wpAny (model prog w) A (pyIter x) (fun it s₂ => wpAny (model prog w) A (newList []) (fun acc s₃ =>
      wpAny (model prog w) A (newFunctionEnv scope env.globals cl [] env.qual none .none (some env)) (fun cenv s₄ =>
        codeAny (model prog w) A (.compStart (.ListComp elt (⟨tgt, iter, ifs, 0⟩ :: gs) scope pos) 0 it acc { cenv with scope := relabel scope env }) (compPost (model prog w) A E (some (assign (.Name y py) env)) (fun _ s' => Q .next s') acc cenv.locals) s₄) E s₃) E s₂) E s₁) E s) :
    wpAny (model prog w) A (exec (.Assign [.Name y py] (.ListComp elt (⟨tgt, iter, ifs, 0⟩ :: gs) scope pos) spos) env) Q E s := by
  rw [exec_Assign_Name_used _ _ _ _ hsw]
  refine wpAny_bind (wpAny_standAt (wpAny_bind ?_))
  show wpAny _ A (do let _ ← comprehension (.ListComp elt (⟨tgt, iter, ifs, 0⟩ :: gs) scope pos) scope env _ (newList []) false (eval iter env) (some (assign (.Name y py) env))) _ _ s
  exact wpAny_bind (wpAny_mono (wpAny_comprehension_free (use := some (assign (.Name y py) env)) (Q := fun _ s' => Q .next s') rfl hs hclos hkind hnames h) (fun _ s' hq => wpAny_pure (wpAny_pure hq)) fun _ _ e => e)
theorem nameC_local {scope : Scope} {cl : List (PySem.Str × Addr)} {C : Addr} {x : PySem.Str} {px : Pos} {v : Value} {u : PySem.Str → Option Value} {Q : Value → Shared → Prop} (hn : s.heap.Ns C u) (hv : u x = some v) (h : Q v s)
    (hk : scope.kind = .function) (hx : (compEnvC scope cl C env).kindOf x = some .local) (hb : (x == ("__debug__" : PySem.Str)) = false) :
    wpAny (model prog w) A (eval (.Name x px) (compEnvC scope cl C env)) Q E s := wpAny_Name (wpAny_loadName_local hk hx hn hv h) hb
theorem nameC_cell {scope : Scope} {cl : List (PySem.Str × Addr)} {C c : Addr} {x : PySem.Str} {px : Pos} {v : Value} {o : Obj} {Q : Value → Shared → Prop} (hc : cl.lookup x = some c) (ho : s.heap.get? c = some o) (hd : o.data = .cell (some v)) (h : Q v s)
    (hk : scope.kind = .function) (hx : (compEnvC scope cl C env).kindOf x = some .cell) (hb : (x == ("__debug__" : PySem.Str)) = false) :
    wpAny (model prog w) A (eval (.Name x px) (compEnvC scope cl C env)) Q E s := wpAny_Name (wpAny_loadName_cell hk hx hc ⟨o, ho, hd⟩ h) hb
end
end Mine
end
section
open PySem PySem.Spec PySem.Calls PyProof.Rows PySem.W
set_option Elab.async false
set_option maxRecDepth 100000
set_option maxHeartbeats 8000000
set_option pp.deepTerms false
set_option pp.maxSteps 2500
namespace Mine
theorem myahead_off : True := by
  w_top off
  trivial
local macro_rules | `(tactic| walk_at "eval Name") => `(tactic| (k_here; (with_reducible show wpAny _ _ (eval (Expr.Name _ _) (compEnvC _ _ _ _)) _ _ _); refine nameC_local (by assumption) rfl ?_ (by rfl) (by rfl) (by decide)))
local macro_rules | `(tactic| walk_at $k) => Mine.stopAt k ["call ref", "eval ListComp Name cons", "eval ListComp Name"]
theorem ahead_tell (w : World) (rs1 rs2 : List PySem.Str) (h1 : RowsOk rs1) (h2 : RowsOk rs2) (z1 : (unrows rs1).length ≤ 60000) (z2 : (unrows rs2).length ≤ 60000) :
    TellS w 100 209 (fun _ vs => ∃ t1 t2, vs = [.str (unrows rs1) t1, .str (unrows rs2) t2]) (fun tl r => tl = [] ∧ r = .bool ((partOf 0 (rs1 ++ [nilS]) (rs2 ++ [nilS])).elim false fun x => decide (x.2.1.cps.toList < x.2.2.cps.toList))) := by
  have hfill : PySem.Challenge.rw_wa0025_01 = PySem.Challenge.rw_wa0025_01 ∧ hd.heap_1 = hd.heap_1 := by k_fill; exact ⟨rfl, rfl⟩
  unfold TellS
  intro prog p loose mean mg mb dp un gd cn cs ad ccd cl outer A₀ base h₀ L m news s vs Q E B F X N T hk XB TB D0 hR hdp hun hret
  obtain ⟨sH, sG, sD, sT, sO⟩ := s
  dsimp only at F N hret
  (refine hide fun PQ kQ => ?_; obtain ⟨t1, t2, rfl⟩ := hR; refine kQ ?_; clear kQ PQ)
  refine wpAny_call ?_
  k_dflt open_k0
  rename_i g5 L5 h5 FG5 F5 N5 B5 X5 T5 D5
  refine gen_E PassesOwn.leaving fun EE hEE => ?_
  k_steps
  refine Stop.e ?_
  refine evalComp (cl := []) (fun _ => rfl) rfl rfl (by decide) ?_
  k_steps
  refine Stop.e ?_
  refine TellS.use B5 F5 X5 N5 T5 rfl XB TB D5 (parted_tell w rs1 rs2 h1 h2 z1 z2) ⟨_, _, rfl⟩ (by show dp + 1 + 80 < recursionLimit; omega) (by show un + 3 + 8 * 80 < cLine; omega) ?_
  rintro r tl h6 tk6 g6 B6 F6 X6 N6 T6 D6 KT6 hlt hp
  clear F5 N5 X5 T5 D5 B5
  (revert hret; revert hp; refine gen1 (partOf 0 (rs1 ++ [nilS]) (rs2 ++ [nilS])) fun o hq => ?_; intro hp hret)
  dsimp only
  cases o with
  | none =>
    (refine hide fun PQ kQ => ?_; obtain ⟨D, n, rfl, hD⟩ := hp; refine kQ ?_; clear kQ PQ)
    refine compG_list (σ := Unit) (vs := []) (nn₀ := n) (fun _ => tl ++ news) (fun _ its _ => its = []) () (fun _ => List.mem_append_left _ hD) rfl (by decide) rfl (by decide) F6 N6 rfl (fun _ its _ h => by rw [h]; exact Nat.zero_le _) (fun i c h tk v C D I oI its nn u E' RE hv => by simp at hv) (fun c h tk D2 C its nn oC u hP F7 hn N7 hCD off => ?_)
    subst hP
    refine compPost_none F7 hn N7 (fun p hp => ?_) (fun h8 F8 N8 => ?_)
    · rcases List.mem_cons.mp hp with rfl | hp
      · exact Ne.symm hCD
      · exact (off p hp).1
    k_steps
    rename Fr g6 L5 _ _ => F9
    rename News g6 L5 _ _ => N9
    exact Stop.e (.go g6 L5 _ _ KT6 F9 N9 fun h0' T1 kF kN kB kX kT kD => hret _ [] _ _ h0' kB kF kX (fun q hq => kN q (by repeat (first | exact List.mem_append_right _ hq | apply List.mem_cons_of_mem))) kT kD T1 (fun _ _ _ hp => nomatch hp) ⟨rfl, rfl⟩)
  | some x =>
    (refine hide fun PQ kQ => ?_; obtain ⟨k, a, b⟩ := x; refine kQ ?_; clear kQ PQ)
    (refine hide fun PQ kQ => ?_; obtain ⟨D, n, T, tk, ta, tb, nt, rfl, hD, hT⟩ := hp; refine kQ ?_; clear kQ PQ)
    refine compG_list (σ := Unit) (vs := [.ref T]) (nn₀ := n) (fun _ => tl ++ news) (fun i its _ => its = if i = 0 then [] else if a.cps.toList < b.cps.toList then [.int (k : Int) tk] else []) () (fun _ => List.mem_append_left _ hD) rfl (by decide) rfl (Nat.le_of_ble_eq_true rfl) F6 N6 rfl (fun i its _ h => by rw [h]; split; exact Nat.zero_le _; split; simp; omega; exact Nat.zero_le _) (fun i c h tk' v C D2 I oI its nn u E' RE hv hP hc hit hRE => ?_) (fun c h tk' D2 C its nn oC u hP F7 hn N7 hCD off => ?_)
    · obtain ⟨rfl, rfl⟩ : i = 0 ∧ v = .ref T := by
        cases i with
        | zero => exact ⟨rfl, by simpa using hv.symm⟩
        | succ j => simp at hv
      subst hP
      refine wpAny_letOwnedTupleGo_listiter hit ?_
      refine assign_Tuple_tuple (items := #[.int (k : Int) tk, .str a ta, .str b tb]) rfl ⟨_, hc.get (List.mem_append_left _ hT), rfl, nt, rfl⟩ rfl rfl (fun h' he => ?_)
      have c1 := hc.keeps (fun z o e => he z o (Nat.ne_of_lt (Heap.lt_size e)) e)
      refine assignInOrder_cons (CompAt.set (s := ⟨h', sG, sD, tk', sO⟩) c1 rfl rfl fun h2 c2 => ?_)
      dsimp only
      refine assignInOrder_cons (CompAt.set c2 rfl rfl fun h3 c3 => ?_)
      dsimp only
      refine assignInOrder_cons (CompAt.set c3 rfl rfl fun h4 c4 => ?_)
      dsimp only
      refine assignInOrder_nil (compTests_one ?_)
      have hns := c4.ns
      k_steps
      · rename _ < _ => hab
        exact hRE _ _ ⟨(), h4, _, _, rfl, c4, by simp [hab]⟩
      · rename ¬ _ < _ => hab
        exact hRE _ _ ⟨(), h4, _, _, rfl, c4, by simp [hab]⟩
    · simp only [List.length_cons, List.length_nil, Nat.zero_add, Nat.one_ne_zero, if_false] at hP
      refine compPost_none F7 hn N7 (fun p hp => ?_) (fun h8 F8 N8 => ?_)
      · rcases List.mem_cons.mp hp with rfl | hp
        · exact Ne.symm hCD
        · exact (off p hp).1
      by_cases hab : a.cps.toList < b.cps.toList
      · rw [if_pos hab] at hP
        subst hP
        k_steps
        rename Fr g6 L5 _ _ => F9
        rename News g6 L5 _ _ => N9
        refine Stop.e (.go g6 L5 _ _ KT6 F9 N9 fun h0' T1 kF kN kB kX kT kD => hret _ [] _ _ h0' kB kF kX (fun q hq => kN q (by repeat (first | exact List.mem_append_right _ hq | apply List.mem_cons_of_mem))) kT kD T1 (fun _ _ _ hp => nomatch hp) ⟨rfl, ?_⟩)
        show _ = Value.bool (decide (a.cps.toList < b.cps.toList))
        rw [decide_eq_true hab]
        simp
      · rw [if_neg hab] at hP
        subst hP
        k_steps
        rename Fr g6 L5 _ _ => F9
        rename News g6 L5 _ _ => N9
        refine Stop.e (.go g6 L5 _ _ KT6 F9 N9 fun h0' T1 kF kN kB kX kT kD => hret _ [] _ _ h0' kB kF kX (fun q hq => kN q (by repeat (first | exact List.mem_append_right _ hq | apply List.mem_cons_of_mem))) kT kD T1 (fun _ _ _ hp => nomatch hp) ⟨rfl, ?_⟩)
        show _ = Value.bool (decide (a.cps.toList < b.cps.toList))
        rw [decide_eq_false hab]
end Mine
end
section
open PySem PySem.Sre
set_option Elab.async false
set_option maxRecDepth 100000
set_option maxHeartbeats 4000000
namespace Mine
noncomputable def rc : Array Nat := #[14, 4, 0, 0, 0, 6, 1, 5, 5, 0, 6, 6, 1, 1]
noncomputable def bol (t : Array Nat) (p : Nat) : Bool := p == 0 || t.getD (p - 1) 0 == 10
noncomputable def eol (t : Array Nat) (p : Nat) : Bool := p == t.size || t.getD p 0 == 10
theorem runFor_stop {m : M} (h : m.outcome.isSome = true) : ∀ n, M.runFor n m = m
  | 0 => rfl
  | n + 1 => by rw [M.runFor, if_pos h]
theorem runFor_add : ∀ (a b : Nat) (m : M), M.runFor (a + b) m = M.runFor b (M.runFor a m)
  | 0, b, m => by rw [Nat.zero_add]; rfl
  | a + 1, b, m => by
    rw [Nat.add_right_comm, M.runFor, M.runFor]
    split
    · rename_i h; exact (runFor_stop h b).symm
    · exact runFor_add a b _
noncomputable def M0 (t : Array Nat) (must first : Bool) (s : Nat) (seen : Seen) : M :=
  { code := rc, text := t, lim := t.size, start := s, lastStart := t.size, mustAdvance := must, pc := 5, pos := s, handed := s, outermost := first, marks := #[],
    frames := [{ wait := .nextStart, pc := 5, pos := s, outermost := first }], weight := 1, seen := seen }
theorem forSearch_M0 (t : Array Nat) (p : Nat) (must : Bool) (hp : p ≤ t.size) : ∃ seen, forSearch rc t 0 p t.size must = M0 t must true p seen := by
  refine ⟨({} : Seen).add 14, ?_⟩
  unfold forSearch
  have h1 : ¬ ((decide (p > t.size) || decide (t.size - p < (header rc).1)) = true) := by
    have : (header rc).1 = 0 := rfl
    simp [this, hp]
  dsimp only
  rw [if_neg h1]
  rfl
theorem bol_false {t : Array Nat} {s : Nat} (hb : bol t s = false) : ¬ (s = 0 ∨ t[s - 1]?.getD 0 = 10) := by
  simpa [bol] using hb
theorem bol_true {t : Array Nat} {s : Nat} (hb : bol t s = true) : (s = 0 ∨ t[s - 1]?.getD 0 = 10) := by
  simpa [bol] using hb
theorem eol_false {t : Array Nat} {s : Nat} (hb : eol t s = false) : ¬ (s = t.size ∨ t[s]?.getD 0 = 10) := by
  simpa [eol] using hb
theorem eol_true {t : Array Nat} {s : Nat} (hb : eol t s = true) : (s = t.size ∨ t[s]?.getD 0 = 10) := by
  simpa [eol] using hb
theorem turn_no {t : Array Nat} {must first : Bool} {s : Nat} {seen : Seen} (hb : bol t s = false) (hs : s < t.size) : ∃ seen', M.runFor 2 (M0 t must first s seen) = M0 t false false (s + 1) seen' := by
  have hc := bol_false hb
  refine ⟨(seen.add 6).add 44, ?_⟩
  simp [M.runFor, M0, M.step, M.exec, M.word, rc, ops, M.isAt, M.say, M.resume, M.putBack, M.attemptFrom, M.hasFirstSet, M.attemptAt, M.attempt, hs, hc]
theorem end_no {t : Array Nat} {must first : Bool} {s : Nat} {seen : Seen} (hb : bol t s = false) (hs : ¬ s < t.size) : ∃ m, M.runFor 3 (M0 t must first s seen) = m ∧ m.outcome = some .failed := by
  have hc := bol_false hb
  refine ⟨_, rfl, ?_⟩
  simp [M.runFor, M0, M.step, M.exec, M.word, rc, ops, M.isAt, M.say, M.resume, M.putBack, M.attemptFrom, M.hasFirstSet, M.attemptAt, M.attempt, hs, hc]
noncomputable def M1 (t : Array Nat) (must first : Bool) (s : Nat) (seen : Seen) : M :=
  { code := rc, text := t, lim := t.size, start := s, lastStart := t.size, mustAdvance := must, pc := 10, pos := s, handed := s, outermost := false, marks := #[],
    frames := [{ wait := .lookNot, pc := 7, pos := s, outermost := first }, { wait := .nextStart, pc := 5, pos := s, outermost := first }], weight := 2, seen := ((seen.add 6).add 44).add 5 }
theorem run_bol {t : Array Nat} {must first : Bool} {s : Nat} {seen : Seen} (hb : bol t s = true) : M.runFor 2 (M0 t must first s seen) = M1 t must first s seen := by
  have hc := bol_true hb
  simp [M1, M.runFor, M0, M.step, M.exec, M.word, rc, ops, M.isAt, M.say, M.resume, M.putBack, M.attemptFrom, M.hasFirstSet, M.attemptAt, M.attempt, M.frame, M.keep, hc]
noncomputable def M2 (t : Array Nat) (must first : Bool) (s : Nat) (seen : Seen) : M :=
  { code := rc, text := t, lim := t.size, start := s, lastStart := t.size, mustAdvance := must, pc := 13, pos := s, handed := s, outermost := first, marks := #[],
    frames := [{ wait := .nextStart, pc := 5, pos := s, outermost := first }], weight := 1, seen := ((((seen.add 6).add 44).add 5).add 6).add 49 }
theorem run_mid {t : Array Nat} {must first : Bool} {s : Nat} {seen : Seen} (hb : bol t s = true) (he : eol t s = false) (k : Nat) : M.runFor (4 + k) (M0 t must first s seen) = M.runFor k (M2 t must first s seen) := by
  have hd := eol_false he
  rw [runFor_add, show (4 : Nat) = 2 + 2 from rfl, runFor_add, run_bol hb]
  congr 1
  simp [M2, M.runFor, M1, M.step, M.exec, M.word, rc, ops, M.isAt, M.say, M.resume, M.putBack, M.attemptFrom, M.hasFirstSet, M.attemptAt, M.attempt, M.frame, M.keep, hd]
noncomputable def M3 (t : Array Nat) (must first : Bool) (s : Nat) (seen : Seen) : M :=
  { code := rc, text := t, lim := t.size, start := s, lastStart := t.size, mustAdvance := must, pc := 12, pos := s, handed := s, outermost := false, marks := #[],
    frames := [{ wait := .lookNot, pc := 7, pos := s, outermost := first }, { wait := .nextStart, pc := 5, pos := s, outermost := first }], weight := 2, answer := some true, seen := (((((seen.add 6).add 44).add 5).add 6).add 49).add 1 }
theorem run_eol {t : Array Nat} {must first : Bool} {s : Nat} {seen : Seen} (hb : bol t s = true) (he : eol t s = true) (k : Nat) : M.runFor (4 + k) (M0 t must first s seen) = M.runFor k (M3 t must first s seen) := by
  have hd := eol_true he
  rw [runFor_add, show (4 : Nat) = 2 + 2 from rfl, runFor_add, run_bol hb]
  congr 1
  simp [M3, M.runFor, M1, M.step, M.exec, M.word, rc, ops, M.isAt, M.say, M.resume, M.putBack, M.attemptFrom, M.hasFirstSet, M.attemptAt, M.attempt, M.frame, M.keep, hd]
theorem turn_eol {t : Array Nat} {must first : Bool} {s : Nat} {seen : Seen} (hb : bol t s = true) (he : eol t s = true) (hs : s < t.size) : ∃ seen', M.runFor 6 (M0 t must first s seen) = M0 t false false (s + 1) seen' := by
  refine ⟨(((((seen.add 6).add 44).add 5).add 6).add 49).add 1, ?_⟩
  rw [show (6 : Nat) = 4 + 2 from rfl, run_eol hb he]
  simp [M.runFor, M3, M0, M.step, M.exec, M.word, rc, ops, M.isAt, M.say, M.resume, M.putBack, M.attemptFrom, M.hasFirstSet, M.attemptAt, M.attempt, M.frame, M.keep, hs]
theorem end_eol {t : Array Nat} {must first : Bool} {seen : Seen} (hb : bol t t.size = true) : ∃ m, M.runFor 7 (M0 t must first t.size seen) = m ∧ m.outcome = some .failed := by
  refine ⟨_, rfl, ?_⟩
  rw [show (7 : Nat) = 4 + 3 from rfl, run_eol hb (by simp [eol])]
  simp [M.runFor, M3, M.step, M.exec, M.word, rc, ops, M.isAt, M.say, M.resume, M.putBack, M.attemptFrom, M.hasFirstSet, M.attemptAt, M.attempt, M.frame, M.keep]
theorem hit {t : Array Nat} {must first : Bool} {s : Nat} {seen : Seen} (hb : bol t s = true) (he : eol t s = false) (hm : (first && must) = false) : ∃ m, M.runFor 7 (M0 t must first s seen) = m ∧ m.outcome = some .matched ∧ m.start = s ∧ m.handed = s := by
  refine ⟨_, rfl, ?_⟩
  rw [show (7 : Nat) = 4 + 3 from rfl, run_mid hb he]
  simp [hm, M.runFor, M2, M.step, M.exec, M.word, rc, ops, M.isAt, M.say, M.resume, M.putBack, M.attemptFrom, M.hasFirstSet, M.attemptAt, M.attempt, M.frame, M.keep]
theorem turn_must {t : Array Nat} {s : Nat} {seen : Seen} (hb : bol t s = true) (he : eol t s = false) (hs : s < t.size) : ∃ seen', M.runFor 6 (M0 t true true s seen) = M0 t false false (s + 1) seen' := by
  refine ⟨(((((seen.add 6).add 44).add 5).add 6).add 49).add 1, ?_⟩
  rw [show (6 : Nat) = 4 + 2 from rfl, run_mid hb he]
  simp [M.runFor, M2, M0, M.step, M.exec, M.word, rc, ops, M.isAt, M.say, M.resume, M.putBack, M.attemptFrom, M.hasFirstSet, M.attemptAt, M.attempt, M.frame, M.keep, hs]
theorem sub_step {n i : Nat} (h : i < n) : n - i = n - (i + 1) + 1 := (Nat.sub_add_cancel (Nat.sub_pos_of_lt h)).symm
theorem stay_step {n s a : Nat} (ha : a ≤ 7) (h : s < n) : a + 7 * (n - (s + 1) + 1) ≤ 7 * (n - s + 2) := by
  rw [← sub_step h, Nat.mul_add, Nat.add_comm]
  exact Nat.add_le_add_left (Nat.le_trans ha (by decide)) _
noncomputable def found (t : Array Nat) : (fuel s : Nat) → Option Nat
  | 0, _ => none
  | fuel + 1, s => if bol t s && !eol t s then some s else if s < t.size then found t fuel (s + 1) else none
noncomputable def Ends (t : Array Nat) (m : M) (o : Option Nat) (k : Nat) : Prop :=
  match o with
  | some p => ∃ m', M.runFor k m = m' ∧ m'.outcome = some .matched ∧ m'.start = p ∧ m'.handed = p
  | none => (M.runFor k m).outcome = some .failed
theorem Ends.more {t : Array Nat} {m m' : M} {o : Option Nat} {a k : Nat} (h : M.runFor a m = m') (e : Ends t m' o k) : Ends t m o (a + k) := by
  unfold Ends at *
  rw [runFor_add, h]
  exact e
theorem Ends.stays {t : Array Nat} {m : M} {o : Option Nat} {k k' : Nat} (e : Ends t m o k) (h : k ≤ k') : Ends t m o k' := by
  obtain ⟨d, rfl⟩ := Nat.exists_eq_add_of_le h
  unfold Ends at *
  rw [runFor_add]
  cases o with
  | none =>
    dsimp only at *
    rw [runFor_stop (by rw [e]; rfl)]; exact e
  | some p =>
    (refine hide fun PQ kQ => ?_; obtain ⟨m', h1, h2, h3⟩ := e; refine kQ ?_; clear kQ PQ)
    dsimp only
    exact ⟨_, rfl, by rw [h1, runFor_stop (by rw [h2]; rfl)]; exact ⟨h2, h3⟩⟩
theorem ends_free (t : Array Nat) : ∀ (d s : Nat) (must first : Bool) (seen : Seen), s + d = t.size → (first && must) = false → Ends t (M0 t must first s seen) (found t (d + 1) s) (7 * (d + 1)) := by
  intro d
  induction d with
  | zero =>
    intro s must first seen hs hm
    have hs' : s = t.size := by omega
    subst hs'
    have he : eol t t.size = true := by simp [eol]
    simp only [found, he, Bool.not_true, Bool.and_false, Bool.false_eq_true, if_false, Nat.lt_irrefl]
    cases hb : bol t t.size with
    | true =>
      (refine hide fun PQ kQ => ?_; obtain ⟨m, h1, h2⟩ := end_eol (must := must) (first := first) (seen := seen) hb; refine kQ ?_; clear kQ PQ)
      show (M.runFor _ _).outcome = _
      rw [h1]; exact h2
    | false =>
      (refine hide fun PQ kQ => ?_; obtain ⟨m, h1, h2⟩ := end_no (must := must) (first := first) (seen := seen) hb (Nat.lt_irrefl _); refine kQ ?_; clear kQ PQ)
      refine Ends.stays (k := 3) ?_ (by omega)
      show (M.runFor _ _).outcome = _
      rw [h1]; exact h2
  | succ d ih =>
    intro s must first seen hs hm
    have hlt : s < t.size := by omega
    rw [found]
    cases hb : bol t s with
    | false =>
      obtain ⟨seen', h⟩ := turn_no (must := must) (first := first) (seen := seen) hb hlt
      simp only [Bool.false_and, Bool.false_eq_true, if_false, hlt, if_true]
      exact (Ends.more h (ih (s + 1) false false seen' (by omega) rfl)).stays (by omega)
    | true =>
      cases he : eol t s with
      | true =>
        obtain ⟨seen', h⟩ := turn_eol (must := must) (first := first) (seen := seen) hb he hlt
        simp only [Bool.not_true, Bool.and_false, Bool.false_eq_true, if_false, hlt, if_true]
        exact (Ends.more h (ih (s + 1) false false seen' (by omega) rfl)).stays (by omega)
      | false =>
        simp only [Bool.not_false, Bool.and_self, if_true]
        exact Ends.stays (k := 7) (hit hb he hm) (by omega)
noncomputable def next (t : Array Nat) (must : Bool) (s : Nat) : Option Nat :=
  if must && bol t s && !eol t s then found t (t.size - s) (s + 1) else found t (t.size - s + 1) s
theorem ends_search (t : Array Nat) (must : Bool) (s : Nat) (hs : s ≤ t.size) : Ends t (forSearch rc t 0 s t.size must) (next t must s) (7 * (t.size - s + 2)) := by
  obtain ⟨seen, h⟩ := forSearch_M0 t s must hs
  rw [h]
  unfold next
  cases must with
  | false => exact (ends_free t (t.size - s) s false true seen (by omega) rfl).stays (by omega)
  | true =>
    cases hb : bol t s with
    | false =>
      simp only [Bool.true_and, Bool.false_and, Bool.false_eq_true, if_false]
      by_cases hlt : s < t.size
      · obtain ⟨seen', h'⟩ := turn_no (must := true) (first := true) (seen := seen) hb hlt
        have e : found t (t.size - s + 1) s = found t (t.size - (s + 1) + 1) (s + 1) := by
          rw [found, hb]
          simp only [Bool.false_and, Bool.false_eq_true, if_false, hlt, if_true]
          congr 1; exact sub_step hlt
        rw [e]
        exact (Ends.more h' (ends_free t (t.size - (s + 1)) (s + 1) false false seen' (Nat.add_sub_cancel' hlt) rfl)).stays (stay_step (by decide) hlt)
      · (refine hide fun PQ kQ => ?_; obtain ⟨m, h1, h2⟩ := end_no (must := true) (first := true) (seen := seen) hb hlt; refine kQ ?_; clear kQ PQ)
        have e : found t (t.size - s + 1) s = none := by
          rw [found, hb]
          simp only [Bool.false_and, Bool.false_eq_true, if_false, hlt]
        rw [e]
        refine Ends.stays (k := 3) ?_ (by omega)
        show (M.runFor _ _).outcome = _
        rw [h1]; exact h2
    | true =>
      cases he : eol t s with
      | true =>
        simp only [Bool.true_and, Bool.not_true, Bool.false_eq_true, if_false]
        by_cases hlt : s < t.size
        · obtain ⟨seen', h'⟩ := turn_eol (must := true) (first := true) (seen := seen) hb he hlt
          have e : found t (t.size - s + 1) s = found t (t.size - (s + 1) + 1) (s + 1) := by
            rw [found, he]
            simp only [Bool.not_true, Bool.and_false, Bool.false_eq_true, if_false, hlt, if_true]
            congr 1; exact sub_step hlt
          rw [e]
          exact (Ends.more h' (ends_free t (t.size - (s + 1)) (s + 1) false false seen' (Nat.add_sub_cancel' hlt) rfl)).stays (stay_step (by decide) hlt)
        · have hs' : s = t.size := by omega
          subst hs'
          (refine hide fun PQ kQ => ?_; obtain ⟨m, h1, h2⟩ := end_eol (must := true) (first := true) (seen := seen) hb; refine kQ ?_; clear kQ PQ)
          have e : found t (t.size - t.size + 1) t.size = none := by
            rw [found, he]
            simp only [Bool.not_true, Bool.and_false, Bool.false_eq_true, if_false, Nat.lt_irrefl]
          rw [e]
          refine Ends.stays (k := 7) ?_ (by omega)
          show (M.runFor _ _).outcome = _
          rw [h1]; exact h2
      | false =>
        have hlt : s < t.size := by
          rcases Nat.lt_or_eq_of_le hs with h | h
          · exact h
          · subst h; simp [eol] at he
        simp only [Bool.true_and, Bool.not_false, if_true]
        obtain ⟨seen', h'⟩ := turn_must (seen := seen) hb he hlt
        have e : t.size - s = t.size - (s + 1) + 1 := sub_step hlt
        rw [e]
        exact (Ends.more h' (ends_free t (t.size - (s + 1)) (s + 1) false false seen' (Nat.add_sub_cancel' hlt) rfl)).stays (by omega)
end Mine
end
section
open PySem PySem.Spec PySem.Calls PyProof.Rows PySem.W
set_option Elab.async false
set_option maxRecDepth 100000
set_option maxHeartbeats 4000000
namespace Mine
theorem plainAttrs_pat : PlainAttrs "re.Pattern" :=
  ⟨⟨"object.__getattribute__", by rw [typeLookup_type, builtinLookup_eq_fast]; kernel_rfl, by decide +kernel⟩, by rw [typeLookup_type, builtinLookup_eq_fast]; kernel_rfl⟩
theorem slot_pat_sub : Slot "re.Pattern" "sub" "re.Pattern.sub" :=
  .of (owner := "re.Pattern") (n := "sub") (by rw [typeLookup_type, builtinLookup_eq_fast]; kernel_rfl) (by decide +kernel) (by decide +kernel) (by decide +kernel)
    (by first | exact .inl (by decide +kernel) | exact .inr (by decide +kernel)) (by rw [isSubtype_type]; kernel_rfl)
theorem type_pat_sub : typeOf (.builtin "re.Pattern.sub") = pure (.type "method_descriptor") := by show builtinType _ = _; rw [builtinType_eq_fast]; kernel_rfl
theorem entry_pat_sub : entryFor table "re.Pattern.sub" = some Builtin.«re.Pattern.sub» := entryFor_of_tree (by kernel_rfl)
theorem entry_pat_loop : entryFor table "re.Pattern.sub.loop" = some Builtin.«re.Pattern.sub.loop» := entryFor_of_tree (by kernel_rfl)
theorem args_pat_sub (a b c : Value) : argsOk "re.Pattern.sub" ⟨[a, b, c], []⟩ := by
  unfold argsOk; kernel_rfl
theorem str_no_call : typeLookup (.type "str") "__call__" = pure none := by rw [typeLookup_type, builtinLookup_eq_fast]; kernel_rfl
theorem plain_loop : plainId "re.Pattern.sub.loop" = true := by decide +kernel
end Mine
end
section
open PySem PySem.Spec PySem.Calls PyProof.Rows PySem.W
set_option Elab.async false
set_option maxRecDepth 100000
set_option maxHeartbeats 4000000
set_option pp.deepTerms false
set_option pp.maxSteps 2500
namespace Mine
open PySem.Builtin.Re
section
variable {prog : Program} {w : World} {M : Model} {A : Around} {E : Value → Shared → Prop} {s : Shared}
theorem reDrive_wp {Q : Sre.M → Shared → Prop} : ∀ (turns k : Nat) (m : Sre.M), k ≤ reTurnSteps * turns → turns ≠ 0 → (Sre.M.runFor k m).outcome.isSome = true → Q (Sre.M.runFor k m) s → wpAny M A (reDrive turns m) Q E s
  | 0, _, _, _, h0, _, _ => absurd rfl h0
  | turns + 1, k, m, hk, _, ho, hQ => by
    unfold reDrive
    dsimp only
    have e : Sre.M.runFor k m = Sre.M.runFor (k - reTurnSteps) (Sre.M.runFor reTurnSteps m) ∨ (Sre.M.runFor reTurnSteps m).outcome.isSome = true ∧ Sre.M.runFor reTurnSteps m = Sre.M.runFor k m := by
      rcases Nat.le_total k reTurnSteps with h | h
      · right
        obtain ⟨d, hd⟩ := Nat.exists_eq_add_of_le h
        rw [hd, runFor_add, runFor_stop ho]
        exact ⟨ho, rfl⟩
      · left
        obtain ⟨d, rfl⟩ := Nat.exists_eq_add_of_le h
        rw [runFor_add, Nat.add_sub_cancel_left]
    refine wpAny_ite ?_
    split
    · rename_i hs
      rcases e with e | ⟨_, e⟩
      · rw [runFor_stop hs] at e
        rw [← e]; exact wpAny_pure hQ
      · rw [e]; exact wpAny_pure hQ
    · rename_i hs
      rcases e with e | ⟨h1, _⟩
      · refine wpAny_bind (wpAny_rule ?_)
        by_cases ht : turns = 0
        · subst ht
          exfalso
          have : k - reTurnSteps = 0 := by omega
          rw [this] at e
          rw [e] at ho
          exact hs ho
        · exact reDrive_wp turns (k - reTurnSteps) _ (by rw [Nat.mul_add] at hk; omega) ht (e ▸ ho) (e ▸ hQ)
      · exact absurd h1 hs
theorem reRun_wp {t : Array Nat} {m : Sre.M} {o : Option Nat} {k : Nat} {Q : Option Sre.M → Shared → Prop} (he : Ends t m o k) (hk : k ≤ reTurnSteps * 2 ^ 64)
    (hs : ∀ p m', o = some p → m'.start = p → m'.handed = p → Q (some m') s) (hn : o = none → Q none s) : wpAny M A (reRunToEnd m) Q E s := by
  unfold reRunToEnd
  have ho : (Sre.M.runFor k m).outcome.isSome = true := by
    unfold Ends at he
    cases o with
    | none => rw [he]; rfl
    | some p => obtain ⟨m', h1, h2, _⟩ := he; rw [h1, h2]; rfl
  refine wpAny_bind (reDrive_wp _ k m hk (by decide) ho ?_)
  have hend : wpAny M A (match (Sre.M.runFor k m).outcome with
      | some .matched => pure (some (Sre.M.runFor k m))
      | some .failed => pure none
      | some (.stuck why) => unsupported s!"_sre:{why}"
      | none => unsupported "internal:sre:no-outcome") Q E s := by
    unfold Ends at he
    cases o with
    | none => rw [he]; exact wpAny_pure (hn rfl)
    | some p =>
      (refine hide fun PQ kQ => ?_; obtain ⟨m', h1, h2, h3, h4⟩ := he; refine kQ ?_; clear kQ PQ)
      rw [h1, h2]
      exact wpAny_pure (hs p m' rfl h3 h4)
  refine wpAny_bind (wpAny_forIn_list _ (fun _ _ s' => s' = s) _ (fun x rest b s' hs' => ?_) (fun b s' hs' => ?_) _ _ rfl)
  · subst hs'
    split
    · exact wpAny_bind (wpAny_rule (wpAny_pure rfl))
    · exact wpAny_pure rfl
  · subst hs'
    exact hend
noncomputable def patObj : Obj := ⟨.type "re.Pattern", none, .fields #[.str "(?m)^(?!$)" 448, .int 40 465, .int 0 0, .none, .none, .ref 149, .int 0 0], #[]⟩
noncomputable def patCode : Obj := ⟨.type "tuple", none, .seq #[.int 14 0, .int 4 0, .int 0 0, .int 0 0, .int 0 0, .int 6 0, .int 1 0, .int 5 0, .int 5 0, .int 0 0, .int 6 0, .int 6 0, .int 1 0, .int 1 0] 0, #[]⟩
noncomputable def PatIn (h : Heap) : Prop := h.get? 150 = some patObj ∧ h.get? 149 = some patCode
noncomputable def tgt (x : PySem.Str) (t : Tok) : ReTarget := { pattern := .ref 150, string := .str x t, code := rc, text := x.cps, kind := 0, groups := 0, pos := 0, lim := x.cps.size }
theorem whole_wp {x : PySem.Str} {t : Tok} {Q : ReTarget → Shared → Prop} (hp : PatIn s.heap) (hQ : Q (tgt x t) s) : wpAny M A (reWholeTarget (.ref 150) (.str x t)) Q E s := by
  unfold reWholeTarget
  refine wpAny_bind (wpAny_fieldsOf hp.1 rfl ?_)
  refine wpAny_bind ?_
  unfold reTextOf
  refine wpAny_bind ?_
  unfold asStr?
  refine wpAny_pure ?_
  refine wpAny_pure ?_
  have hw : reRawNat ((#[.str "(?m)^(?!$)" 448, .int 40 465, .int 0 0, .none, .none, .ref 149, .int 0 0] : Array Value).getD 6 .none) = 0 := rfl
  have hg : reRawNat ((#[.str "(?m)^(?!$)" 448, .int 40 465, .int 0 0, .none, .none, .ref 149, .int 0 0] : Array Value).getD 2 .none) = 0 := rfl
  have h5 : ((#[.str "(?m)^(?!$)" 448, .int 40 465, .int 0 0, .none, .none, .ref 149, .int 0 0] : Array Value).getD 5 .none) = .ref 149 := rfl
  simp only [hw, hg, h5]
  unfold reNoCollectionInside reRawItems
  repeat wp_step
  refine wpAny_load hp.2 ?_
  have hrc : Array.map (fun (x : Int) => x.toNat) (Array.map reRawOf ((some #[Value.int 14 0, Value.int 4 0, Value.int 0 0, Value.int 0 0, Value.int 0 0, Value.int 6 0, Value.int 1 0, Value.int 5 0, Value.int 5 0, Value.int 0 0, Value.int 6 0, Value.int 6 0, Value.int 1 0, Value.int 1 0]).getD #[])) = rc := by decide +kernel
  refine wpAny_pure (wpAny_pure (wpAny_pure ?_))
  unfold tgt at hQ
  rw [← hrc] at hQ
  exact hQ
theorem nextFound_wp {x : PySem.Str} {t : Tok} {start : Nat} {must : Bool} {Q : Option Sre.M → Shared → Prop} (hs : start ≤ x.cps.size) (hsz : x.cps.size ≤ 2 ^ 24)
    (hf : ∀ p m', next x.cps must start = some p → m'.start = p → m'.handed = p → Q (some m') s) (hn : next x.cps must start = none → Q none s) : wpAny M A (reNextFound (tgt x t) start must) Q E s := by
  unfold reNextFound
  refine reRun_wp (ends_search x.cps must start hs) ?_ hf hn
  have : reTurnSteps = 4 := rfl
  omega
noncomputable def pieces (t : Array Nat) (rep : PySem.Str) : (fuel : Nat) → (done : Nat) → (must : Bool) → List PySem.Str
  | 0, _, _ => []
  | fuel + 1, d, must => match next t must d with
    | some p => (if d < p then [⟨t.extract d p⟩] else []) ++ rep :: pieces t rep fuel p true
    | none => if d < t.size then [⟨t.extract d t.size⟩] else []
noncomputable def loopArgs (x : PySem.Str) (t : Tok) (rep : PySem.Str) (tr : Tok) (n d : Nat) (must : Bool) (l : Addr) : Args :=
  ⟨[.ref 150, .str x t, .str rep tr, rawInt 0, rawInt 0, rawInt n, rawInt d, rawInt d, .bool must, .ref l, .bool false], []⟩
theorem reSlice_wp {t : Array Nat} {b e : Nat} {Q : Value → Shared → Prop} (hsz : t.size ≤ sizeLine) (h : Q (.str ⟨t.extract b e⟩ s.toks) { s with toks := s.toks + 1 }) : wpAny M A (reSlice t 0 b e) Q E s := by
  unfold reSlice
  refine wpAny_mkStr h ?_
  show (t.extract b e).size ≤ sizeLine
  rw [Array.size_extract]
  omega
end
section
variable {prog : Program} {w : World} {A : Around} {E : Value → Shared → Prop} {s : Shared}
theorem push_wp {l : Addr} {vs : List Value} {nn : Nat} {v : Value} {Q : Unit → Shared → Prop} (hl : s.heap.get? l = some (listOf vs.toArray nn)) (hz : vs.length ≤ 2 ^ 20)
    (h : ∀ h' n', h'.get? l = some (listOf (vs ++ [v]).toArray n') → (∀ b, b ≠ l → h'.get? b = s.heap.get? b) → h'.objs.size = s.heap.objs.size → Q () { s with heap := h' }) : wpAny (model prog w) A (updateSeq l (·.push v)) Q E s := by
  refine wpAny_updateSeq hl rfl ?_ ?_ ?_
  · have e : Obj.mapSeq (·.push v) (listOf vs.toArray nn) = listOf (vs ++ [v]).toArray (nn + 1) := by
      simp [Obj.mapSeq, List.push_toArray]
    refine h _ _ ((Heap.get?_update_self _ hl rfl).trans (congrArg some e)) (fun b hb => Heap.get?_update_other _ _ (Ne.symm hb)) (Heap.size_after_update ..)
  · rw [List.size_toArray]; exact Nat.le_trans hz (by decide)
  · rw [Array.size_push, List.size_toArray]
    have : sizeLine = 2 ^ 24 := rfl
    omega
end
end Mine
end
section
open PySem PySem.Spec PySem.Calls PyProof.Rows PySem.W
set_option Elab.async false
set_option maxRecDepth 100000
set_option maxHeartbeats 4000000
set_option pp.deepTerms false
set_option pp.maxSteps 2500
namespace Mine
open PySem.Builtin.Re
noncomputable def atp (t : Array Nat) (p : Nat) : Bool := bol t p && !eol t p
theorem atp_lt {t : Array Nat} {p : Nat} (h : atp t p = true) (hp : p ≤ t.size) : p < t.size := by
  rcases Nat.lt_or_eq_of_le hp with h' | h'
  · exact h'
  · subst h'
    simp [atp, eol] at h
theorem found_le {t : Array Nat} : ∀ {f s p : Nat}, found t f s = some p → s ≤ p ∧ atp t p = true ∧ (s ≤ t.size → p < t.size)
  | 0, _, _, h => nomatch h
  | f + 1, s, p, h => by
    rw [found] at h
    split at h
    · rename_i hb
      cases h
      exact ⟨Nat.le_refl _, hb, fun hs => atp_lt hb hs⟩
    · split at h
      · (refine hide fun PQ kQ => ?_; obtain ⟨h1, h2, h3⟩ := found_le h; refine kQ ?_; clear kQ PQ)
        exact ⟨by omega, h2, fun _ => h3 (by omega)⟩
      · cases h
noncomputable def indL (t : Array Nat) (rep : List Nat) : (fuel i : Nat) → List Nat
  | 0, _ => []
  | f + 1, i => (if atp t i then rep else []) ++ t.getD i 0 :: indL t rep f (i + 1)
theorem drop_getD {t : Array Nat} {i : Nat} (h : i < t.size) : t.toList.drop i = t.getD i 0 :: t.toList.drop (i + 1) := by
  have h' : i < t.toList.length := by simpa using h
  rw [List.drop_eq_getElem_cons h']
  simp [Array.getD, h]
theorem found_skip {t : Array Nat} {rep : List Nat} : ∀ {f s p : Nat}, s ≤ t.size → found t f s = some p → indL t rep (t.size - s) s = (t.toList.drop s).take (p - s) ++ indL t rep (t.size - p) p
  | 0, _, _, _, h => nomatch h
  | f + 1, s, p, hs, h => by
    rw [found] at h
    split at h
    · cases h
      simp
    · rename_i hb
      split at h
      · rename_i hlt
        have ih := found_skip (rep := rep) (by omega) h
        have hle := (found_le h).1
        have e : t.size - s = (t.size - (s + 1)) + 1 := sub_step hlt
        rw [e, indL, if_neg (show ¬ atp t s = true from hb), List.nil_append, ih, drop_getD hlt]
        have e2 : p - s = (p - (s + 1)) + 1 := sub_step hle
        rw [e2, List.take_succ_cons, List.cons_append]
      · cases h
theorem found_none {t : Array Nat} {rep : List Nat} : ∀ {f s : Nat}, s + f = t.size + 1 → found t f s = none → indL t rep (t.size - s) s = t.toList.drop s
  | 0, s, hs, _ => by
    have : s = t.size + 1 := by omega
    subst this
    simp [indL]
  | f + 1, s, hs, h => by
    rw [found] at h
    split at h
    · cases h
    · rename_i hb
      split at h
      · rename_i hlt
        have ih := found_none (rep := rep) (by omega) h
        have e : t.size - s = (t.size - (s + 1)) + 1 := sub_step hlt
        rw [e, indL, if_neg (show ¬ atp t s = true from hb), List.nil_append, ih, drop_getD hlt]
      · have : t.size - s = 0 := by omega
        rw [this]
        simp [indL]
        omega
noncomputable def catP (l : List PySem.Str) : List Nat := l.flatMap (·.cps.toList)
noncomputable def restL (t : Array Nat) (rep : List Nat) (d : Nat) (must : Bool) : List Nat :=
  if must then t.getD d 0 :: indL t rep (t.size - (d + 1)) (d + 1) else indL t rep (t.size - d) d
theorem extract_list {t : Array Nat} {d p : Nat} : (t.extract d p).toList = (t.toList.drop d).take (p - d) := by
  simp [Array.toList_extract, List.extract_eq_take_drop]
theorem next_some {t : Array Nat} {must : Bool} {d p : Nat} (hd : d ≤ t.size) (hm : must = true → atp t d = true) (h : next t must d = some p) : d ≤ p ∧ atp t p = true ∧ p < t.size ∧ (must = true → d < p) := by
  unfold next at h
  cases must with
  | false =>
    simp only [Bool.false_and, Bool.false_eq_true, if_false] at h
    (refine hide fun PQ kQ => ?_; obtain ⟨h1, h2, h3⟩ := found_le h; refine kQ ?_; clear kQ PQ)
    exact ⟨h1, h2, h3 hd, fun q => nomatch q⟩
  | true =>
    have hb := hm rfl
    have hlt := atp_lt hb hd
    unfold atp at hb
    rw [Bool.true_and, hb, if_pos rfl] at h
    (refine hide fun PQ kQ => ?_; obtain ⟨h1, h2, h3⟩ := found_le h; refine kQ ?_; clear kQ PQ)
    exact ⟨by omega, h2, h3 (by omega), fun _ => by omega⟩
theorem pieces_cat {t : Array Nat} {rep : PySem.Str} : ∀ (fuel d : Nat) (must : Bool), d ≤ t.size → (must = true → atp t d = true) → t.size + 1 ≤ fuel + d + (if must then 1 else 0) → 
    catP (pieces t rep fuel d must) = restL t rep.cps.toList d must
  | 0, d, must, hd, hm, hf => by
    cases must with
    | false => simp at hf; omega
    | true =>
      have := atp_lt (hm rfl) hd
      simp at hf; omega
  | fuel + 1, d, must, hd, hm, hf => by
    rw [pieces]
    cases hn : next t must d with
    | none =>
      dsimp only
      have hd' : catP (if d < t.size then [⟨t.extract d t.size⟩] else []) = t.toList.drop d := by
        split
        · simp [catP, extract_list]
          rw [List.take_of_length_le (by simp)]
        · rename_i h
          have : d = t.size := by omega
          subst this
          simp [catP]
      rw [hd']
      unfold next at hn
      cases must with
      | false =>
        simp only [Bool.false_and, Bool.false_eq_true, if_false] at hn
        exact (found_none (by omega) hn).symm
      | true =>
        have hb := hm rfl
        have hlt := atp_lt hb hd
        unfold atp at hb
        rw [Bool.true_and, hb, if_pos rfl] at hn
        rw [restL, if_pos rfl, found_none (by omega) hn, drop_getD hlt]
    | some p =>
      dsimp only
      (refine hide fun PQ kQ => ?_; obtain ⟨h1, h2, h3, h4⟩ := next_some hd hm hn; refine kQ ?_; clear kQ PQ)
      have ih := pieces_cat (rep := rep) fuel p true (by omega) (fun _ => h2) (by cases must <;> simp at hf h4 ⊢ <;> omega)
      have hcat : catP ((if d < p then [⟨t.extract d p⟩] else []) ++ rep :: pieces t rep fuel p true) = (t.toList.drop d).take (p - d) ++ (rep.cps.toList ++ restL t rep.cps.toList p true) := by
        have e : catP (if d < p then [⟨t.extract d p⟩] else []) = (t.toList.drop d).take (p - d) := by
          split
          · simp [catP, extract_list]
          · have : p - d = 0 := by omega
            rw [this]; simp [catP]
        rw [← e, ← ih]
        simp [catP]
      rw [hcat]
      have hp1 : indL t rep.cps.toList (t.size - p) p = rep.cps.toList ++ restL t rep.cps.toList p true := by
        have e : t.size - p = (t.size - (p + 1)) + 1 := sub_step h3
        rw [e, indL, if_pos h2, restL, if_pos rfl]
      unfold next at hn
      cases must with
      | false =>
        simp only [Bool.false_and, Bool.false_eq_true, if_false] at hn
        show _ = indL t rep.cps.toList (t.size - d) d
        rw [found_skip hd hn, hp1]
      | true =>
        have hb := hm rfl
        have hlt := atp_lt hb hd
        unfold atp at hb
        rw [Bool.true_and, hb, if_pos rfl] at hn
        have h5 := h4 rfl
        show _ = t.getD d 0 :: indL t rep.cps.toList (t.size - (d + 1)) (d + 1)
        rw [found_skip (by omega) hn, hp1, drop_getD hlt]
        have e2 : p - d = (p - (d + 1)) + 1 := by omega
        rw [e2, List.take_succ_cons, List.cons_append]
theorem join_empty_cat (l : List PySem.Str) : (Txt.join ⟨#[]⟩ l).cps.toList = catP l := by
  unfold Txt.join
  rw [StrLaws.glued_eq_join]
  induction l with
  | nil => rfl
  | cons x r ih => cases r with
    | nil => simp [PySem.Str.join, catP]
    | cons y r =>
      show (x ++ ⟨#[]⟩ ++ PySem.Str.join ⟨#[]⟩ (y :: r)).cps.toList = _
      rw [show catP (x :: y :: r) = x.cps.toList ++ catP (y :: r) from by simp [catP], ← ih]
      rw [PySem.Str.cps_append, PySem.Str.cps_append]
      simp
end Mine
end
section
open PySem PySem.Spec PySem.Calls PyProof.Rows PySem.W
set_option Elab.async false
set_option maxRecDepth 100000
set_option maxHeartbeats 4000000
set_option pp.deepTerms false
set_option pp.maxSteps 2500
namespace Mine
open PySem.Builtin.Re
noncomputable def indentS (x rep : PySem.Str) : PySem.Str := ⟨(indL x.cps rep.cps.toList x.cps.size 0).toArray⟩
section
variable {prog : Program} {w : World}
theorem PatIn.keeps {h h' : Heap} {l : Addr} (p : PatIn h) (hl : 150 < l) (k : ∀ b, b ≠ l → h'.get? b = h.get? b) : PatIn h' :=
  ⟨(k 150 (Nat.ne_of_lt hl)).trans p.1, (k 149 (Nat.ne_of_lt (Nat.lt_trans (by decide) hl))).trans p.2⟩
theorem strVals_snoc (ps : List (PySem.Str × Tok)) (y : PySem.Str) (t : Tok) : strValues ps ++ [.str y t] = strValues (ps ++ [(y, t)]) := by simp [strValues]
theorem loop_wp {x : PySem.Str} {t : Tok} {rep : PySem.Str} {tr : Tok} {l : Addr} (hx : x.cps.size ≤ 60000) (hrep : rep.length ≤ 100) (hl : 150 < l) :
    ∀ (fuel n d : Nat) (must : Bool) (ps : List (PySem.Str × Tok)) (nn : Nat) (A : Around) (s : Shared) (R : Result → Shared → Prop),
    d ≤ x.cps.size → (must = true → atp x.cps d = true) → x.cps.size + 1 ≤ fuel + d + (if must then 1 else 0) → PatIn s.heap → s.heap.get? l = some (listOf (strValues ps).toArray nn) →
    ps.length + 2 * fuel ≤ 300000 → ((ps.map (·.1)).map (·.length)).sum + (x.cps.size - d) + fuel * rep.length ≤ 10000000 →
    (∀ h' tk u, (∀ b, b ≠ l → h'.get? b = s.heap.get? b) → h'.objs.size = s.heap.objs.size → R (.ok (.ret (.str ⟨(catP (ps.map (·.1)) ++ restL x.cps rep.cps.toList d must).toArray⟩ u))) { s with heap := h', toks := tk }) →
    codeAny (model prog w) A (.builtin "re.Pattern.sub.loop" (loopArgs x t rep tr n d must l)) R s
  | 0, n, d, must, ps, nn, A, s, R, hd, hm, hf, hp, hls, hlen, hsum, hR => by
    exfalso
    cases must with
    | false => simp at hf; omega
    | true =>
      have := atp_lt (hm rfl) hd
      simp at hf; omega
  | fuel + 1, n, d, must, ps, nn, A, s, R, hd, hm, hf, hp, hls, hlen, hsum, hR => by
    have hcat := pieces_cat (rep := rep) (fuel + 1) d must hd hm hf
    refine codeAny_builtin entry_pat_loop ?_
    unfold Builtin.«re.Pattern.sub.loop» loopArgs
    dsimp only [rawInt]
    refine wpAny_bind (whole_wp hp ?_)
    refine wpAny_bind ?_
    unfold reLiteralCannotBeTurned asStr?
    refine wpAny_bind (wpAny_pure ?_)
    simp only [Option.isNone_some, Bool.false_eq_true, if_false, bne_self_eq_false, Bool.false_and, Int.toNat_natCast, beq_self_eq_true, if_true]
    refine wpAny_pure (wpAny_bind ?_)
    refine nextFound_wp hd (by omega) (fun p m' hn e1 e2 => ?_) fun hn => ?_
    · (refine hide fun PQ kQ => ?_; obtain ⟨h1, h2, h3, h4⟩ := next_some hd hm hn; refine kQ ?_; clear kQ PQ)
      have hnext : ∀ (ps' : List (PySem.Str × Tok)) (nn' tk' : Nat) (h' : Heap), ps'.length ≤ ps.length + 1 → catP (ps'.map (·.1)) = catP (ps.map (·.1)) ++ (x.cps.toList.drop d).take (p - d) →
          ((ps'.map (·.1)).map (·.length)).sum = ((ps.map (·.1)).map (·.length)).sum + (p - d) →
          h'.get? l = some (listOf (strValues ps').toArray nn') → (∀ b, b ≠ l → h'.get? b = s.heap.get? b) → h'.objs.size = s.heap.objs.size →
          wpAny (model prog w) (A.under (Code.builtin "re.Pattern.sub.loop" { pos := [Value.ref 150, Value.str x t, Value.str rep tr, Value.int 0 0, Value.int 0 0, Value.int n 0, Value.int d 0, Value.int d 0, Value.bool must, Value.ref l, Value.bool false] }))
            (do
              updateSeq l fun x => x.push (Value.str rep tr)
              again (Code.builtin "re.Pattern.sub.loop" { pos := [Value.ref 150, Value.str x t, Value.str rep tr, Value.int 0 0, Value.int 0 0, Value.int (n + 1) 0, Value.int m'.handed 0, Value.int m'.handed 0, Value.bool (m'.handed == m'.start), Value.ref l, Value.bool false] }))
            (fun fin s' => match fin with | .done f => R (.ok f) s' | .again c' => c'.quiet = true ∧ codeAny (model prog w) A c' R s') (fun e s' => R (.error e) s') { s with heap := h', toks := tk' } := by
        intro ps' nn' tk' h' hl1 hc1 hs1 hg hk hz
        refine wpAny_bind (push_wp (nn := nn') hg (by simp [strValues]; omega) fun h'' n'' hg2 hk2 hz2 => ?_)
        refine wpAny_pure ?_
        refine ⟨plainId_quiet plain_loop _, ?_⟩
        rw [e1, e2, beq_self_eq_true]
        rw [strVals_snoc] at hg2
        refine loop_wp hx hrep hl fuel (n + 1) p true (ps' ++ [(rep, tr)]) n'' A _ R (by omega) (fun _ => h2) (by cases must <;> simp at hf h4 ⊢ <;> omega) ((hp.keeps hl hk).keeps hl hk2) hg2 (by simp; omega) ?_ fun h3' tk3 u hk3 hz3 => ?_
        · simp only [List.map_append, List.map_cons, List.map_nil, List.sum_append, List.sum_cons, List.sum_nil, hs1]
          rw [Nat.succ_mul] at hsum
          omega
        · have := hR h3' tk3 u (fun b hb => (hk3 b hb).trans ((hk2 b hb).trans (hk b hb))) (hz3.trans (hz2.trans hz))
          rw [← hcat, pieces, hn] at this
          dsimp only at this
          have ih := pieces_cat (rep := rep) fuel p true (by omega) (fun _ => h2) (by cases must <;> simp at hf h4 ⊢ <;> omega)
          rw [← ih]
          have e3 : catP ((ps' ++ [(rep, tr)]).map (·.1)) ++ catP (pieces x.cps rep fuel p true) = catP (ps.map (·.1)) ++ catP ((if d < p then [⟨x.cps.extract d p⟩] else []) ++ rep :: pieces x.cps rep fuel p true) := by
            rw [List.map_append]
            have : catP (ps'.map (·.1) ++ [(rep, tr)].map (·.1)) = catP (ps'.map (·.1)) ++ rep.cps.toList := by simp [catP]
            rw [this, hc1]
            split
            · simp [catP, extract_list]
            · have : p - d = 0 := by omega
              rw [this]; simp [catP]
          rw [e3]
          exact this
      have hne : (Value.str rep tr != Value.none) = true := by simp
      simp only [tgt, hne, if_true]
      rw [e1]
      split
      · rename_i hlt
        refine wpAny_bind (reSlice_wp (by show x.cps.size ≤ 2 ^ 24; omega) ?_)
        refine wpAny_bind (push_wp (nn := nn) hls (by simp [strValues]; omega) fun h'' n'' hg2 hk2 hz2 => ?_)
        rw [strVals_snoc] at hg2
        have := hnext (ps ++ [(⟨x.cps.extract d p⟩, s.toks)]) n'' (s.toks + 1) h'' (by simp) (by simp [catP, extract_list]) (by simp [PySem.Str.length]; omega) hg2 hk2 hz2
        rw [e1] at this
        exact this
      · rename_i hlt
        have hdp : p - d = 0 := by omega
        have := hnext ps nn s.toks s.heap (by omega) (by rw [hdp]; simp) (by omega) hls (fun _ _ => rfl) rfl
        rw [e1] at this
        exact this
    · have hfin : ∀ (ps' : List (PySem.Str × Tok)) (nn' tk' : Nat) (h' : Heap), ps'.length ≤ ps.length + 1 → catP (ps'.map (·.1)) = catP (ps.map (·.1)) ++ restL x.cps rep.cps.toList d must →
          ((ps'.map (·.1)).map (·.length)).sum ≤ 10000000 →
          h'.get? l = some (listOf (strValues ps').toArray nn') → (∀ b, b ≠ l → h'.get? b = s.heap.get? b) → h'.objs.size = s.heap.objs.size →
          wpAny (model prog w) (A.under (Code.builtin "re.Pattern.sub.loop" { pos := [Value.ref 150, Value.str x t, Value.str rep tr, Value.int 0 0, Value.int 0 0, Value.int n 0, Value.int d 0, Value.int d 0, Value.bool must, Value.ref l, Value.bool false] }))
            (do
              let joiner ← reSlice x.cps 0 0 0
              let text ← do
                let __do_lift ← seqItems? (Value.ref l)
                if (__do_lift.getD #[]).isEmpty = true then pure joiner else call (Value.builtin "str.join") [joiner, Value.ref l]
              ret text)
            (fun fin s' => match fin with | .done f => R (.ok f) s' | .again c' => c'.quiet = true ∧ codeAny (model prog w) A c' R s') (fun e s' => R (.error e) s') { s with heap := h', toks := tk' } := by
        intro ps' nn' tk' h' hl1 hc1 hs1 hg hk hz
        refine wpAny_bind (reSlice_wp (by show x.cps.size ≤ 2 ^ 24; omega) ?_)
        refine wpAny_bind (wpAny_seqItems hg rfl ?_)
        dsimp only
        have hemp : x.cps.extract 0 0 = #[] := by simp
        rw [hemp]
        split
        · rename_i he
          have hps : ps' = [] := by
            cases ps' with
            | nil => rfl
            | cons a b => simp [strValues] at he
          subst hps
          refine wpAny_bind (wpAny_pure (wpAny_pure ?_))
          have := hR h' (tk' + 1) tk' hk hz
          rw [← hc1] at this
          exact this
        · refine wpAny_bind (SC.join (s := ⟨h', s.gens, s.drawn, tk' + 1, s.os⟩) (D := l) (l := ps') ⟨_, hg, rfl, nn', rfl⟩ rfl ?_ fun t' k => ?_)
          · unfold JoinOk
            rw [Bool.not_eq_true', StrLaws.joinTotal]
            show decide (_ > sizeLine) = false
            refine decide_eq_false ?_
            have hsl : sizeLine = 2 ^ 24 := rfl
            have hz0 : (PySem.Str.mk #[]).length = 0 := rfl
            rw [hz0, hsl]
            omega
          · refine wpAny_pure ?_
            have := hR h' k t' hk hz
            rw [← hc1, ← join_empty_cat] at this
            exact this
      refine wpAny_ite ?_
      by_cases hlt : d < x.cps.size
      · rw [if_pos (show d < (tgt x t).lim from hlt)]
        refine wpAny_bind (reSlice_wp (by show x.cps.size ≤ 2 ^ 24; omega) ?_)
        refine wpAny_bind (push_wp (nn := nn) hls (by simp [strValues]; omega) fun h'' n'' hg2 hk2 hz2 => ?_)
        rw [strVals_snoc] at hg2
        refine hfin (ps ++ [(⟨x.cps.extract d x.cps.size⟩, s.toks)]) n'' (s.toks + 1) h'' (by simp) ?_ ?_ hg2 hk2 hz2
        · rw [← hcat, pieces, hn]
          simp [catP, hlt]
        · simp [PySem.Str.length] at hsum ⊢; omega
      · rw [if_neg (show ¬ d < (tgt x t).lim from hlt)]
        refine hfin ps nn s.toks s.heap (by omega) ?_ (by omega) hls (fun _ _ => rfl) rfl
        rw [← hcat, pieces, hn]
        simp [catP, hlt]
end
end Mine
end
section
open PySem PySem.Spec PySem.Calls PyProof.Rows PySem.W
set_option Elab.async false
set_option maxRecDepth 100000
set_option maxHeartbeats 4000000
set_option pp.deepTerms false
set_option pp.maxSteps 2500
namespace Mine
open PySem.Builtin.Re
section
variable {prog : Program} {w : World} {A : Around} {E : Value → Shared → Prop} {s : Shared}
theorem sub_wp {x rep : PySem.Str} {t tr : Tok} {Q : Value → Shared → Prop} (hp : PatIn s.heap) (hx : x.cps.size ≤ 60000) (hrep : rep.length ≤ 100) (h92 : rep.cps.contains 92 = false)
    (hQ : ∀ h' tk u, (∀ b o, s.heap.get? b = some o → h'.get? b = some o) → Q (.str (indentS x rep) u) { s with heap := h', toks := tk }) :
    wpAny (model prog w) A (call (.builtin "re.Pattern.sub") [.ref 150, .str rep tr, .str x t]) Q E s := by
  have hl : 150 < s.heap.objs.size := Heap.lt_size hp.1
  refine wpAny_call (codeAny_call_builtin slot_pat_sub.plain entry_pat_sub (slot_pat_sub.check _ _ _ _ _ _ _ _ ⟨_, hp.1, rfl⟩ (args_pat_sub _ _ _) ?_))
  unfold Builtin.«re.Pattern.sub» reSubstitute
  dsimp only
  have hnamed : reNamed "re.Pattern.sub" "sub" ["repl", "string", "count"] 2 [Value.str rep tr, Value.str x t] [] = pure [some (.str rep tr), some (.str x t), none] := by
    rfl
  rw [hnamed]
  refine wpAny_bind (wpAny_pure ?_)
  dsimp only
  refine wpAny_bind (wpAny_pure ?_)
  refine wpAny_bind (wpAny_specialOf (typeIs_str _ _ _) str_no_call ?_)
  dsimp only [Option.isSome_none]
  rw [if_neg Bool.false_ne_true]
  unfold asStr?
  refine wpAny_bind (wpAny_pure ?_)
  dsimp only
  rw [h92]
  refine wpAny_bind (wpAny_pure ?_)
  simp only [Bool.not_false, Bool.false_eq_true, if_false, if_true]
  refine wpAny_bind (wpAny_pure ?_)
  refine wpAny_bind (wpAny_holding (whole_wp hp ?_))
  dsimp only
  rw [if_neg (by decide)]
  refine wpAny_bind (wpAny_newList ?_ (Nat.zero_le _))
  refine wpAny_pure ⟨plainId_quiet plain_loop _, ?_⟩
  have hk : ∀ b o, s.heap.get? b = some o → (s.heap.push { cls := .type "list", data := .seq ([] : List Value).toArray }).get? b = some o := fun b o e => Heap.get?_push_of_some _ e
  refine loop_wp (x := x) (t := t) (rep := rep) (tr := tr) (l := s.heap.objs.size) hx hrep hl (x.cps.size + 1) 0 0 false [] 0 A { s with heap := s.heap.push { cls := .type "list", data := .seq ([] : List Value).toArray } } _ (Nat.zero_le _) (fun h => nomatch h) (by simp) ⟨hk _ _ hp.1, hk _ _ hp.2⟩ (Heap.get?_push_size _ rfl) (by simp; omega) ?_ fun h' tk u h1 h2 => ?_
  · simp only [List.map_nil, List.sum_nil, Nat.zero_add]
    have : (x.cps.size + 1) * rep.length ≤ 60001 * 100 := Nat.mul_le_mul (by omega) hrep
    omega
  · have e : (catP (([] : List (PySem.Str × Tok)).map (·.1)) ++ restL x.cps rep.cps.toList 0 false) = indL x.cps rep.cps.toList x.cps.size 0 := by
      simp [catP, restL]
    rw [e]
    exact hQ h' tk u fun b o hb => (h1 b (Nat.ne_of_lt (Heap.lt_size hb))).trans (hk b o hb)
end
end Mine
end
section
open PySem PySem.Spec PySem.Calls PyProof.Rows PySem.W
set_option Elab.async false
set_option maxRecDepth 100000
set_option maxHeartbeats 8000000
set_option pp.deepTerms false
set_option pp.maxSteps 2500
namespace Mine
theorem myind_off : True := by
  w_top off
  trivial
noncomputable def blanks (n : Nat) : PySem.Str := ⟨(List.replicate n 32).toArray⟩
theorem patIn_of {K : Frag} {h : Heap} (X : K.In h) (h1 : K.lookup 150 = some patObj) (h2 : K.lookup 149 = some patCode) : PatIn h := ⟨X _ _ h1, X _ _ h2⟩
theorem blanks_no92 (n : Nat) : (blanks n).cps.contains 92 = false := by
  simp [blanks, List.mem_replicate]
section
variable {prog : Program} {w : World} {A : Around} {E : Value → Shared → Prop} {s : Shared} {h₀ : Heap} {L : Addr} {m : PySem.Str → Option Value} {news : List (Addr × Obj)} {K : Frag}
theorem pat_sub_method {pl : Sem Bool} {Q : Value × List Value → Shared → Prop} (F : Fr h₀ L s.heap m) (X : K.In h₀) (h1 : K.lookup 150 = some patObj) (h : Q (.builtin "re.Pattern.sub", [.ref 150]) s) : wpAny (model prog w) A (getMethod (.ref 150) (PySem.Str.ofString "sub") pl) Q E s :=
  getMethod_builtin ⟨_, (X.keeps F.keep) _ _ h1, rfl⟩ plainAttrs_pat slot_pat_sub type_pat_sub (fun a e => by cases e; exact ⟨_, (X.keeps F.keep) _ _ h1, rfl⟩) h
theorem sub_N {x rep : PySem.Str} {t tr : Tok} {Q : Value → Shared → Prop} (F : Fr h₀ L s.heap m) (N : News h₀ L s.heap news) (X : K.In h₀) (h1 : K.lookup 150 = some patObj) (h2 : K.lookup 149 = some patCode) (hx : x.cps.size ≤ 60000) (hrep : rep.length ≤ 100) (h92 : rep.cps.contains 92 = false)
    (hQ : ∀ h' tk u, Fr h₀ L h' m → News h₀ L h' news → Q (.str (indentS x rep) u) { s with heap := h', toks := tk }) :
    wpAny (model prog w) A (call (.builtin "re.Pattern.sub") [.ref 150, .str rep tr, .str x t]) Q E s :=
  sub_wp (patIn_of (X.keeps F.keep) h1 h2) hx hrep h92 fun h' tk u k => hQ h' tk u (F.keeps k) fun q hq => ⟨k _ _ (N q hq).1, (N q hq).2⟩
end
theorem reps_blank : ∀ (n : Nat) (acc : Array Nat), (List.replicate n (#[32] : Array Nat)).foldl (· ++ ·) acc = acc ++ (List.replicate n 32).toArray
  | 0, acc => by simp
  | n + 1, acc => by
    rw [List.replicate_succ, List.foldl_cons, reps_blank n]
    apply Array.ext'
    simp [List.replicate_succ]
theorem txt_blanks (n : Nat) : Txt.mul (PySem.Str.ofString " ") n = blanks n := by
  unfold Txt.mul
  have e : PySem.Str.ofString " " = PySem.Str.mk #[32] := by decide +kernel
  rw [e]
  split
  · have : n = 0 := by omega
    subst this; rfl
  · split
    · rename_i h
      have h1 : n = 1 := by
        simp [PySem.Str.length] at h
        omega
      subst h1; rfl
    · show PySem.Str.mk ((List.replicate (Int.toNat n) (#[32] : Array Nat)).foldl (· ++ ·) #[]) = _
      rw [reps_blank]
      simp [blanks]
theorem mulOk_blank (n : Nat) (hn : n ≤ 1000) : MulOk (PySem.Str.ofString " ") n := by
  have e : PySem.Str.ofString " " = PySem.Str.mk #[32] := by decide +kernel
  rw [e]
  refine ⟨?_, fun h1 _ => ?_, fun h1 _ => ?_⟩
  · simp; omega
  · have hl : ((PySem.Str.mk #[32]).length : Int) = 1 := rfl
    rw [hl]
    have h2 : (1 : Int) ≤ (2 ^ 63 - 1) / (n : Int) := by
      rw [Int.le_ediv_iff_mul_le (by omega)]
      omega
    omega
  · have hl : (PySem.Str.mk #[32]).length = 1 := rfl
    rw [hl]
    show decide (_ > sizeLine) = false
    have : sizeLine = 2 ^ 24 := rfl
    refine decide_eq_false ?_
    rw [this]
    simp
    omega
section
variable {prog : Program} {w : World} {A : Around} {E : Value → Shared → Prop} {s : Shared}
theorem meets_int_mul_str (a : Int) (t : Tok) (x : PySem.Str) (u : Tok) :
    Meets (Builtin.«int.__mul__» ⟨[.int a t, .str x u], []⟩) (fun _ R s => R (.ok (.ret Value.notImplemented)) s) :=
  .of_wp fun prog w A R s h => by obtain ⟨hp, g, d, tk, os⟩ := s; wp_walk; exact ⟨_, rfl, h⟩
theorem blank_mul {n : Nat} {t u : Tok} {Q : Value → Shared → Prop} (hn : n ≤ 1000) (h : ∀ t' k, Q (.str (blanks n) t') { s with toks := k }) : wpAny (model prog w) A (binaryOp .Mult (.str (PySem.Str.ofString " ") t) (.int n u)) Q E s :=
  SB.mul (mulOk_blank n hn) (by rw [txt_blanks]; exact h)
theorem mul_blank {n : Nat} {t u : Tok} {Q : Value → Shared → Prop} (hn : n ≤ 1000) (h : ∀ t' k, Q (.str (blanks n) t') { s with toks := k }) : wpAny (model prog w) A (binaryOp .Mult (.int n u) (.str (PySem.Str.ofString " ") t)) Q E s := by
  (refine hide fun PQ kQ => ?_; obtain ⟨o1, o2, o3⟩ := mulOk_blank n hn; refine kQ ?_; clear kQ PQ)
  refine lm_binaryOp_repeat_right (T := "str") (U := "int") (by decide) (fun s' => typeIs_int s' n u) (typeIs_str s _ t) F.fills_int_mul noFill_str_mul F.slot_int_mul lm_noRepeat_int repeat_str F.slot_int_index.lookup
    (call_meets F.slot_int_mul (typeIs_int s n u) F.entry_int_mul (F.args_int_mul_2 _ _) (meets_int_mul_str n u _ t)
      ⟨rfl, typeIs_str s _ t, call_gives F.slot_str_mul (typeIs_str s _ t) F.entry_str_mul (F.args_str_mul_2 _ _) (gives_str_mul _ n t u o1 o2 o3) ?_⟩)
  rw [← txt_blanks] at h
  unfold Txt.mul at h
  by_cases h1 : (n : Int) < 1
  · rw [if_pos h1]; have h' := h s.toks (s.toks + 1); rw [if_pos h1] at h'; exact ⟨by decide, h'⟩
  · rw [if_neg h1]; refine post_val_or_made (fun hc => fits_reps (o3 h1 (by simpa using hc))) fun t' k => ?_
    have h' := h t' k; rw [if_neg h1] at h'; exact h'
end
local macro_rules | `(tactic| walk_at "binaryOp Mult int str") => `(tactic| (k_here; (with_reducible refine mul_blank (by assumption) ?_); intro t' k'))
local macro_rules | `(tactic| walk_at "call builtin:re.Pattern.sub") => `(tactic| (k_here; k_dflt (refine' sub_N (by k_asm) (by k_asm) (by k_asm) (by k_is) (by k_is) (by assumption) (by assumption) (by assumption) ?_; k_whole); intro h' tk' u' F' N'; (try k_sweep)))
local macro_rules | `(tactic| walk_at "getMethod ref") => `(tactic| (k_here; (with_reducible show wpAny _ _ (getMethod (Value.ref 150) _ _) _ _ _); k_dflt (refine' pat_sub_method (by k_asm) (by k_asm) (by k_is) ?_; k_whole)))
theorem indent_tell (w : World) (x : PySem.Str) (i : Nat) (hx : x.cps.size ≤ 60000) (hi : i ≤ 2) : Tell w 20 158 (fun news vs => ∃ t t', vs = [.str x t, .int i t']) (fun tl r => tl = [] ∧ ∃ u, r = .str (indentS x (blanks i)) u) := by
  have hfill : PySem.Challenge.rw_wa0025_01 = PySem.Challenge.rw_wa0025_01 ∧ hd.heap_1 = hd.heap_1 := by k_fill; exact ⟨rfl, rfl⟩
  unfold Tell
  intro prog p loose mean mg mb dp un gd cn cs a ccd cl outer A₀ base h₀ L m news s vs Q E B F X N T hk hR hdp hun hret
  (refine hide fun PQ kQ => ?_; obtain ⟨t, t', rfl⟩ := hR; refine kQ ?_; clear kQ PQ)
  have hn1 : i ≤ 1000 := by omega
  have hb1 : (blanks i).length ≤ 100 := by simp [blanks, PySem.Str.length]; omega
  have hb2 := blanks_no92 i
  refine wpAny_call ?_
  k_dflt ktn_open
  k_steps
  rename Fr h₀ L _ m => kF
  rename News h₀ L _ news => kN
  exact hret _ [] _ _ kF kN (fun _ _ _ h => nomatch h) ⟨rfl, _, rfl⟩
end Mine
end
section
open PySem PySem.Spec PySem.Calls PyProof.Rows PySem.W
set_option Elab.async false
set_option maxRecDepth 100000
set_option maxHeartbeats 4000000
namespace Mine
noncomputable def indB (rep : List Nat) : Bool → List Nat → List Nat
  | _, [] => []
  | b, c :: r => (if b && c != 10 then rep else []) ++ c :: indB rep (c == 10) r
theorem indL_indB (t : Array Nat) (rep : List Nat) : ∀ (f i : Nat), i + f = t.size → indL t rep f i = indB rep (bol t i) (t.toList.drop i)
  | 0, i, h => by
    rw [List.drop_eq_nil_of_le (by simp; omega)]
    rfl
  | f + 1, i, h => by
    have hi : i < t.size := by omega
    rw [drop_getD hi]
    have ih := indL_indB t rep f (i + 1) (by omega)
    have hb : bol t (i + 1) = (t.getD i 0 == 10) := by
      unfold bol
      simp
    have ha : atp t i = (bol t i && t.getD i 0 != 10) := by
      unfold atp eol
      have : (i == t.size) = false := by simp; omega
      simp [this, bne]
    show (if atp t i = true then rep else []) ++ t.getD i 0 :: indL t rep f (i + 1) = (if (bol t i && t.getD i 0 != 10) = true then rep else []) ++ t.getD i 0 :: indB rep (t.getD i 0 == 10) (t.toList.drop (i + 1))
    rw [ih, hb, ha]
theorem indB_row {rep : List Nat} : ∀ (r : List Nat) (s : List Nat), 10 ∉ r → indB rep false (r ++ 10 :: s) = r ++ 10 :: indB rep true s
  | [], s, _ => rfl
  | c :: r, s, h => by
    have hc : (c == 10) = false := by
      rw [beq_eq_false_iff_ne]
      exact fun q => h (q ▸ List.Mem.head _)
    show (if (false && c != 10) = true then rep else []) ++ c :: indB rep (c == 10) (r ++ 10 :: s) = c :: (r ++ 10 :: indB rep true s)
    rw [hc, indB_row r s (fun q => h (.tail _ q))]
    rfl
theorem indB_rows {rep : List Nat} : ∀ (rs : List (List Nat)), (∀ r ∈ rs, 10 ∉ r ∧ r ≠ []) → indB rep true (rs.flatMap fun r => r ++ [10]) = rs.flatMap fun r => rep ++ r ++ [10]
  | [], _ => rfl
  | r :: rs, h => by
    obtain ⟨h1, h2⟩ := h r (.head _)
    have ih := indB_rows (rep := rep) rs fun q hq => h q (.tail _ hq)
    cases r with
    | nil => exact absurd rfl h2
    | cons c r =>
      have hc : (c == 10) = false := by
        rw [beq_eq_false_iff_ne]
        exact fun q => h1 (q ▸ List.Mem.head _)
      simp only [List.flatMap_cons, List.append_assoc, List.cons_append, List.nil_append]
      show (if (true && c != 10) = true then rep else []) ++ c :: indB rep (c == 10) (r ++ 10 :: _) = _
      rw [hc, indB_row r _ (fun q => h1 (.tail _ q)), ih]
      have : (true && c != 10) = true := by simp [bne, hc]
      rw [if_pos this]
      simp
noncomputable def shiftR (w : Nat) (r : PySem.Str) : PySem.Str := ⟨(List.replicate w 32 ++ r.cps.toList).toArray⟩
noncomputable def RowsNe (rs : List PySem.Str) : Prop := ∀ r ∈ rs, 10 ∉ r.cps.toList ∧ r.cps.toList ≠ []
theorem RowsNe.ok {rs : List PySem.Str} (h : RowsNe rs) : RowsOk rs := fun r hr => (h r hr).1
theorem RowsNe.shift {rs : List PySem.Str} (h : RowsNe rs) (w : Nat) : RowsNe (rs.map (shiftR w)) := by
  intro r hr
  (refine hide fun PQ kQ => ?_; obtain ⟨q, hq, rfl⟩ := List.mem_map.mp hr; refine kQ ?_; clear kQ PQ)
  have := h q hq
  simp [shiftR, List.mem_replicate, this]
theorem indent_rows {rs : List PySem.Str} (h : RowsNe rs) (w : Nat) : indentS (unrows rs) (blanks w) = unrows (rs.map (shiftR w)) := by
  apply str_of_cps
  unfold indentS unrows blanks
  dsimp only
  rw [indL_indB _ _ _ 0 (by simp)]
  have hb : bol (rs.flatMap fun r => r.cps.toList ++ [10]).toArray 0 = true := by simp [bol]
  rw [hb]
  simp only [List.drop_zero]
  have e : (rs.flatMap fun r => r.cps.toList ++ [10]) = ((rs.map fun r => r.cps.toList).flatMap fun r => r ++ [10]) := by rw [List.flatMap_map]
  rw [e, indB_rows]
  · simp [List.flatMap_map, shiftR]
  · intro r hr
    (refine hide fun PQ kQ => ?_; obtain ⟨q, hq, rfl⟩ := List.mem_map.mp hr; refine kQ ?_; clear kQ PQ)
    exact h q hq
noncomputable def aheadR (a b : List PySem.Str) : Bool := (partOf 0 (a ++ [nilS]) (b ++ [nilS])).elim false fun x => decide (x.2.1.cps.toList < x.2.2.cps.toList)
noncomputable def placeR (x : List PySem.Str) : List (List PySem.Str) → Nat
  | [] => 0
  | y :: ys => if aheadR y x then placeR x ys + 1 else 0
noncomputable def insR (x : List PySem.Str) (l : List (List PySem.Str)) : List (List PySem.Str) := l.take (placeR x l) ++ x :: l.drop (placeR x l)
theorem placeR_le (x : List PySem.Str) : ∀ l, placeR x l ≤ l.length
  | [] => Nat.le_refl _
  | y :: ys => by
    unfold placeR
    split
    · exact Nat.succ_le_succ (placeR_le x ys)
    · exact Nat.zero_le _
theorem insR_cons (x y : List PySem.Str) (ys : List (List PySem.Str)) : insR x (y :: ys) = if aheadR y x then y :: insR x ys else x :: y :: ys := by
  have hp : placeR x (y :: ys) = if aheadR y x then placeR x ys + 1 else 0 := rfl
  unfold insR
  rw [hp]
  split <;> simp
theorem ins_length {α : Type} {l : List α} {x : α} {k : Nat} (h : k ≤ l.length) : (l.take k ++ x :: l.drop k).length = l.length + 1 := by
  rw [List.length_append, List.length_take, List.length_cons, List.length_drop, Nat.min_eq_left h, ← Nat.add_assoc, Nat.add_sub_cancel' h]
theorem insR_length (x : List PySem.Str) (l : List (List PySem.Str)) : (insR x l).length = l.length + 1 := by
  exact ins_length (placeR_le x l)
theorem placeR_lt {x : List PySem.Str} : ∀ {l : List (List PySem.Str)} {i : Nat} {y : List PySem.Str}, i ≤ placeR x l → l[i]? = some y → (aheadR y x = true ↔ i < placeR x l)
  | [], _, _, _, h => by simp at h
  | z :: zs, 0, y, _, h => by
    simp only [List.getElem?_cons_zero, Option.some.injEq] at h
    subst h
    unfold placeR
    split
    · rename_i hz
      simp [hz]
    · rename_i hz
      simp [hz]
  | z :: zs, i + 1, y, hle, h => by
    unfold placeR at hle ⊢
    split at hle
    · rename_i hz
      rw [if_pos hz]
      have := @placeR_lt x zs i y (by omega) (by simpa using h)
      rw [this]
      omega
    · omega
noncomputable def kidsS (P : Nat → List PySem.Str × Nat) (up : List Nat) (h : Nat) : Nat → List (List PySem.Str) × Nat
  | 0 => ([], 1)
  | i + 1 => if up.getD (i + 1) 0 = h then (insR (P (i + 1)).1 (kidsS P up h i).1, (kidsS P up h i).2 * ((P (i + 1)).2 * (insR (P (i + 1)).1 (kidsS P up h i).1).count (P (i + 1)).1)) else kidsS P up h i
noncomputable def rS : PySem.Str := ⟨#[114]⟩
noncomputable def pageS (up : List Nat) (marks : List PySem.Str) (w : Nat) : Nat → Nat → List PySem.Str × Nat
  | 0, _ => ([], 1)
  | f + 1, h => (marks.getD h rS :: (kidsS (pageS up marks w f) up h (up.length - 1)).1.flatten.map (shiftR w), (kidsS (pageS up marks w f) up h (up.length - 1)).2)
noncomputable def MarkOk (x : PySem.Str) : Prop := ∃ c : Nat, x = ⟨#[c]⟩ ∧ c ≠ 10 ∧ c ≠ 32 ∧ c ≠ 9 ∧ c < 128
theorem MarkOk.row {x : PySem.Str} (h : MarkOk x) : 10 ∉ x.cps.toList ∧ x.cps.toList ≠ [] := by
  (refine hide fun PQ kQ => ?_; obtain ⟨c, rfl, h1, _⟩ := h; refine kQ ?_; clear kQ PQ)
  simp [Ne.symm h1]
theorem insR_mem {x y : List PySem.Str} {l : List (List PySem.Str)} (h : y ∈ insR x l) : y = x ∨ y ∈ l := by
  unfold insR at h
  rcases List.mem_append.mp h with h | h
  · exact .inr (List.mem_of_mem_take h)
  rcases List.mem_cons.mp h with h | h
  · exact .inl h
  · exact .inr (List.mem_of_mem_drop h)
theorem kidsS_all {P : Nat → List PySem.Str × Nat} {up : List Nat} {h : Nat} {R : List PySem.Str → Prop} (hP : ∀ k, R (P k).1) : ∀ i, ∀ y ∈ (kidsS P up h i).1, R y
  | 0, y, hy => by cases hy
  | i + 1, y, hy => by
    unfold kidsS at hy
    split at hy
    · rcases insR_mem hy with rfl | hy
      · exact hP _
      · exact kidsS_all hP i y hy
    · exact kidsS_all hP i y hy
theorem kidsS_length {P : Nat → List PySem.Str × Nat} {up : List Nat} {h : Nat} : ∀ i, (kidsS P up h i).1.length ≤ i
  | 0 => Nat.le_refl _
  | i + 1 => by
    unfold kidsS
    have := @kidsS_length P up h i
    split
    · rw [insR_length]; omega
    · omega
theorem pageS_ok {up : List Nat} {marks : List PySem.Str} {w : Nat} (hm : ∀ h, MarkOk (marks.getD h rS)) : ∀ f h, RowsNe (pageS up marks w f h).1
  | 0, _ => fun r hr => by cases hr
  | f + 1, h => fun r hr => by
    unfold pageS at hr
    rcases List.mem_cons.mp hr with rfl | hr
    · exact (hm h).row
    · refine RowsNe.shift (rs := (kidsS (pageS up marks w f) up h (up.length - 1)).1.flatten) (fun q hq => ?_) w r hr
      (refine hide fun PQ kQ => ?_; obtain ⟨l, hl, hq⟩ := List.mem_flatten.mp hq; refine kQ ?_; clear kQ PQ)
      exact kidsS_all (R := fun l => RowsNe l) (fun k => pageS_ok hm f k) _ l hl q hq
end Mine
end
section
open PySem PySem.Spec PySem.Calls PyProof.Rows PySem.W
set_option Elab.async false
set_option maxRecDepth 100000
set_option maxHeartbeats 4000000
namespace Mine
noncomputable def tot (rs : List PySem.Str) : Nat := (rs.map fun r => r.length + 1).sum
theorem tot_nil : tot [] = 0 := rfl
theorem tot_cons (r : PySem.Str) (rs : List PySem.Str) : tot (r :: rs) = r.length + 1 + tot rs := rfl
theorem tot_append : ∀ (a b : List PySem.Str), tot (a ++ b) = tot a + tot b
  | [], b => by simp [tot_nil]
  | r :: a, b => by rw [List.cons_append, tot_cons, tot_cons, tot_append a b]; omega
theorem unrows_length : ∀ (rs : List PySem.Str), (unrows rs).length = tot rs
  | [] => rfl
  | r :: rs => by
    have ih := unrows_length rs
    unfold unrows PySem.Str.length at ih ⊢
    rw [tot_cons]
    unfold PySem.Str.length
    simp only [List.flatMap_cons, List.size_toArray, List.length_append, List.length_cons, List.length_nil, Array.length_toList] at ih ⊢
    omega
theorem unrows_append (a b : List PySem.Str) : unrows (a ++ b) = unrows a ++ unrows b := by
  apply str_of_cps
  show _ = ((unrows a).cps ++ (unrows b).cps).toList
  simp [unrows]
theorem tot_shift (w : Nat) : ∀ (rs : List PySem.Str), tot (rs.map (shiftR w)) = tot rs + w * rs.length
  | [] => rfl
  | r :: rs => by
    rw [List.map_cons, tot_cons, tot_cons, tot_shift w rs, List.length_cons, Nat.mul_succ]
    have : (shiftR w r).length = w + r.length := by simp [shiftR, PySem.Str.length]
    omega
noncomputable def Rb : Nat → Nat
  | 0 => 0
  | f + 1 => 1 + 5 * Rb f
noncomputable def Cb : Nat → Nat
  | 0 => 0
  | f + 1 => 2 + 5 * (Cb f + 2 * Rb f)
theorem flat_bound {c r : Nat} : ∀ (l : List (List PySem.Str)), (∀ x ∈ l, tot x ≤ c ∧ x.length ≤ r) → tot l.flatten ≤ l.length * c ∧ l.flatten.length ≤ l.length * r
  | [], _ => ⟨by simp [tot_nil], by simp⟩
  | x :: l, h => by
    obtain ⟨h1, h2⟩ := h x (.head _)
    obtain ⟨h3, h4⟩ := flat_bound l fun y hy => h y (.tail _ hy)
    rw [List.flatten_cons, tot_append, List.length_append, List.length_cons, Nat.succ_mul, Nat.succ_mul]
    omega
theorem page_bound {up : List Nat} {marks : List PySem.Str} {w : Nat} (hm : ∀ h, MarkOk (marks.getD h rS)) (hn : up.length ≤ 6) (hw : w ≤ 2) : ∀ f h, tot (pageS up marks w f h).1 ≤ Cb f ∧ (pageS up marks w f h).1.length ≤ Rb f
  | 0, _ => ⟨Nat.le_refl _, Nat.le_refl _⟩
  | f + 1, h => by
    have hk := kidsS_all (P := pageS up marks w f) (up := up) (h := h) (R := fun x => tot x ≤ Cb f ∧ x.length ≤ Rb f) (fun k => page_bound hm hn hw f k) (up.length - 1)
    have hl := @kidsS_length (pageS up marks w f) up h (up.length - 1)
    obtain ⟨h1, h2⟩ := flat_bound _ hk
    have hl5 : (kidsS (pageS up marks w f) up h (up.length - 1)).1.length ≤ 5 := by omega
    have h3 := Nat.le_trans h1 (Nat.mul_le_mul_right (Cb f) hl5)
    have h4 := Nat.le_trans h2 (Nat.mul_le_mul_right (Rb f) hl5)
    (refine hide fun PQ kQ => ?_; obtain ⟨c, hc, _⟩ := hm h; refine kQ ?_; clear kQ PQ)
    have hmk : (marks.getD h rS).length = 1 := by rw [hc]; rfl
    unfold pageS
    dsimp only
    rw [tot_cons, tot_shift, List.length_cons, List.length_map, hmk]
    have h5 : w * (kidsS (pageS up marks w f) up h (up.length - 1)).1.flatten.length ≤ 2 * (5 * Rb f) := Nat.mul_le_mul hw h4
    have e1 : Cb (f + 1) = 2 + 5 * (Cb f + 2 * Rb f) := rfl
    have e2 : Rb (f + 1) = 1 + 5 * Rb f := rfl
    rw [e1, e2]
    omega
theorem Cb_le : ∀ f, f ≤ 6 → Cb f ≤ 44922 := by
  intro f hf
  have : ∀ f, f ≤ 6 → Cb f ≤ 44922 := by
    intro f hf
    match f, hf with
    | 0, _ => decide
    | 1, _ => decide
    | 2, _ => decide
    | 3, _ => decide
    | 4, _ => decide
    | 5, _ => decide
    | 6, _ => decide
  exact this f hf
theorem Cb_le5 : ∀ f, f ≤ 5 → Cb f ≤ 7422 := by
  intro f hf
  match f, hf with
  | 0, _ => decide
  | 1, _ => decide
  | 2, _ => decide
  | 3, _ => decide
  | 4, _ => decide
  | 5, _ => decide
theorem kids_bound {up : List Nat} {marks : List PySem.Str} {w : Nat} (hm : ∀ h, MarkOk (marks.getD h rS)) (hn : up.length ≤ 6) (hw : w ≤ 2) (f h i : Nat) : ∀ x ∈ (kidsS (pageS up marks w f) up h i).1, tot x ≤ Cb f ∧ x.length ≤ Rb f :=
  kidsS_all (R := fun x => tot x ≤ Cb f ∧ x.length ≤ Rb f) (fun k => page_bound hm hn hw f k) i
theorem kids_ne {up : List Nat} {marks : List PySem.Str} {w : Nat} (hm : ∀ h, MarkOk (marks.getD h rS)) (f h i : Nat) : ∀ x ∈ (kidsS (pageS up marks w f) up h i).1, RowsNe x :=
  kidsS_all (R := fun x => RowsNe x) (fun k => pageS_ok hm f k) i
noncomputable def Mb : Nat → Nat
  | 0 => 1
  | f + 1 => 1 + 5 * (Mb f + 3)
theorem kids_bits {P : Nat → List PySem.Str × Nat} {up : List Nat} {h : Nat} {b : Nat} (hP : ∀ k, (P k).2 < 2 ^ b) : ∀ i, i ≤ 5 → (kidsS P up h i).2 < 2 ^ (1 + i * (b + 3))
  | 0, _ => by show 1 < 2 ^ (1 + 0 * (b + 3)); simp
  | i + 1, hi => by
    have ih := kids_bits (P := P) (up := up) (h := h) hP i (by omega)
    have hl := @kidsS_length P up h i
    unfold kidsS
    split
    · dsimp only
      have hc : (insR (P (i + 1)).1 (kidsS P up h i).1).count (P (i + 1)).1 < 2 ^ 3 := by
        have := List.count_le_length (a := (P (i + 1)).1) (l := insR (P (i + 1)).1 (kidsS P up h i).1)
        rw [insR_length] at this
        omega
      have h1 : (P (i + 1)).2 * (insR (P (i + 1)).1 (kidsS P up h i).1).count (P (i + 1)).1 < 2 ^ b * 2 ^ 3 := Nat.mul_lt_mul'' (hP _) hc
      have h2 := Nat.mul_lt_mul'' ih h1
      have e : 1 + (i + 1) * (b + 3) = (1 + i * (b + 3)) + (b + 3) := by rw [Nat.succ_mul]; omega
      rw [e, Nat.pow_add, Nat.pow_add 2 b 3]
      exact h2
    · refine Nat.lt_of_lt_of_le ih (Nat.pow_le_pow_right (by decide) ?_)
      have : i * (b + 3) ≤ (i + 1) * (b + 3) := Nat.mul_le_mul_right _ (by omega)
      omega
theorem page_bits {up : List Nat} {marks : List PySem.Str} {w : Nat} (hn : up.length ≤ 6) : ∀ f h, (pageS up marks w f h).2 < 2 ^ Mb f
  | 0, _ => by show 1 < 2 ^ 1; decide
  | f + 1, h => by
    have := kids_bits (P := pageS up marks w f) (up := up) (h := h) (fun k => page_bits hn f k) (up.length - 1) (by omega)
    refine Nat.lt_of_lt_of_le this (Nat.pow_le_pow_right (by decide) ?_)
    have e : Mb (f + 1) = 1 + 5 * (Mb f + 3) := rfl
    rw [e]
    have : (up.length - 1) * (Mb f + 3) ≤ 5 * (Mb f + 3) := Nat.mul_le_mul_right _ (by omega)
    omega
theorem Mb_le5 : ∀ f, f ≤ 5 → Mb f ≤ 15621 := by
  intro f hf
  match f, hf with
  | 0, _ => decide
  | 1, _ => decide
  | 2, _ => decide
  | 3, _ => decide
  | 4, _ => decide
  | 5, _ => decide
theorem countIn_strs (k : PySem.Str) : ∀ ys : List PySem.Str, PySem.Spec.countIn (.str k) (ys.map PyData.str) = (ys.count k : Nat)
  | [] => rfl
  | y :: ys => by
    have ih := countIn_strs k ys
    rw [List.map_cons, PySem.Spec.countIn, List.count_cons, ih]
    simp only [PySem.Spec.same]
    by_cases h : y = k
    · subst h
      simp
      omega
    · have h1 : (y == k) = false := by rw [beq_eq_false_iff_ne]; exact h
      simp [h1]
theorem unrows_inj {a b : List PySem.Str} (ha : RowsOk a) (hb : RowsOk b) (h : unrows a = unrows b) : a = b := by
  have h1 := split_unrows ha
  rw [h, split_unrows hb] at h1
  exact (List.append_cancel_right h1).symm
theorem count_unrows {x : List PySem.Str} (hx : RowsOk x) : ∀ (l : List (List PySem.Str)), (∀ y ∈ l, RowsOk y) → (l.map unrows).count (unrows x) = l.count x
  | [], _ => rfl
  | y :: l, h => by
    rw [List.map_cons, List.count_cons, List.count_cons, count_unrows hx l fun z hz => h z (.tail _ hz)]
    by_cases e : y = x
    · subst e; simp
    · have : ¬ unrows y = unrows x := fun q => e (unrows_inj (h y (.head _)) hx q)
      have h1 : (y == x) = false := by rw [beq_eq_false_iff_ne]; exact e
      have h2 : (unrows y == unrows x) = false := by rw [beq_eq_false_iff_ne]; exact this
      rw [h1, h2]
theorem join_nil : ∀ l : List PySem.Str, (PySem.Str.join ⟨#[]⟩ l).cps.toList = l.flatMap fun r => r.cps.toList
  | [] => rfl
  | [x] => by simp [PySem.Str.join]
  | x :: y :: r => by
    show ((x ++ ⟨#[]⟩ ++ PySem.Str.join ⟨#[]⟩ (y :: r) : PySem.Str)).cps.toList = _
    have ih := join_nil (y :: r)
    show ((x.cps ++ #[]) ++ (PySem.Str.join ⟨#[]⟩ (y :: r)).cps).toList = _
    rw [Array.toList_append, ih]
    simp
theorem join_unrows (l : List (List PySem.Str)) : Txt.join ⟨#[]⟩ (l.map unrows) = unrows l.flatten := by
  apply str_of_cps
  show (Builtin.Str.glued _ _).cps.toList = _
  rw [StrLaws.glued_eq_join, join_nil]
  unfold unrows
  rw [List.flatMap_map]
  show (l.flatMap fun a => a.flatMap fun r => r.cps.toList ++ [10]) = l.flatten.flatMap fun r => r.cps.toList ++ [10]
  induction l with
  | nil => rfl
  | cons a l ih => rw [List.flatMap_cons, ih, List.flatten_cons, List.flatMap_append]
theorem sum_unrows : ∀ (l : List (List PySem.Str)), ((l.map unrows).map (·.length)).sum = tot l.flatten
  | [] => rfl
  | x :: l => by
    rw [List.map_cons, List.map_cons, List.sum_cons, sum_unrows l, List.flatten_cons, tot_append, unrows_length]
end Mine
end
section
open PySem PySem.Spec PySem.Calls PyProof.Rows PySem.W
set_option Elab.async false
set_option maxRecDepth 100000
set_option maxHeartbeats 4000000
namespace Mine
section
variable {prog : Program} {w : World} {A : Around} {s : Shared} {env : Env} {h₀ : Heap} {E : Value → Shared → Prop} {Q : Flow → Shared → Prop}
theorem while_inv {σ : Type} {test : Expr} {body : List Stmt} {pos : Pos} {m : PySem.Str → Option Value}
    (Gd : Heap → Prop) (Led : σ → List (Addr × Obj)) (ps : σ → List (PySem.Str × Value)) (P : σ → Prop) (meas : σ → Nat) (c₀ : σ)
    (G : Gd h₀) (F : Fr h₀ env.locals s.heap m) (N : News h₀ env.locals s.heap (Led c₀)) (hp : Says m (ps c₀)) (h0 : P c₀)
    (turn : ∀ c h₁ h tk (u : PySem.Str → Option Value) (QB : Flow → Shared → Prop) (QX : Shared → Prop), P c → Gd h₁ → Fr h₁ env.locals h (kstB u (ps c)) → News h₁ env.locals h (Led c) →
      (∀ f s', TurnPost Gd env.locals Led ps (fun c' => P c' ∧ meas c' < meas c) [] s Q f s' → QB f s') → (∀ s', Q .next s' → QX s') →
      wpAny (model prog w) A (isTrue test env (eval test env)) (fun b s₂ => if b = true then wpAny (model prog w) A (execs body env) QB E s₂ else QX s₂) E { s with heap := h, toks := tk })
    (hE : PassesOwn (model prog w) A env E) : wpAny (model prog w) A (exec (.While test body [] pos) env) Q E s := by
  refine wpAny_While (codeAny_whileLoop (fun k s' => ∃ c h₁ h m₁ tk, s' = { s with heap := h, toks := tk } ∧ Gd h₁ ∧ Fr h₁ env.locals h m₁ ∧ News h₁ env.locals h (Led c) ∧ Says m₁ (ps c) ∧ P c ∧ k = meas c) ?_ (meas c₀) ⟨c₀, h₀, s.heap, m, s.toks, rfl, G, F, N, hp, h0, rfl⟩)
  (intro k s' hQ16; refine hide fun PQ kQ => ?_; obtain ⟨c, h₁, h, m₁, tk, rfl, G', F', N', hp', hP, rfl⟩ := hQ16; refine kQ ?_; clear kQ PQ)
  have FF : Fr h₁ env.locals h (kstB m₁ (ps c)) := by rw [← kstB_over hp'.all]; exact F'
  refine wpAny_mono (turn c h₁ h tk m₁ (TurnPost Gd env.locals Led ps (fun c' => P c' ∧ meas c' < meas c) [] s Q) (Q .next) hP G' FF N' (fun _ _ x => x) (fun _ x => x)) (fun b s₂ h₂ => ?_) hE
  cases b with
  | false => exact wpAny_execs_nil h₂
  | true =>
    refine wpAny_mono h₂ (fun f s₃ h₃ => ?_) hE
    have fin : Turned Gd env.locals Led ps (fun c' => P c' ∧ meas c' < meas c) [] s s₃ → ∃ k', k' < meas c ∧ ∃ c h₁ h m₁ tk, s₃ = { s with heap := h, toks := tk } ∧ Gd h₁ ∧ Fr h₁ env.locals h m₁ ∧ News h₁ env.locals h (Led c) ∧ Says m₁ (ps c) ∧ P c ∧ k' = meas c := by
      (intro hQ24; refine hide fun PQ kQ => ?_; obtain ⟨c', h₂', m₂, h', tk', rfl, G₂, F₄, N₄, _, hp₄, hP₄, hm⟩ := hQ24; refine kQ ?_; clear kQ PQ)
      exact ⟨meas c', hm, c', h₂', h', m₂, tk', rfl, G₂, F₄, N₄, hp₄, hP₄, rfl⟩
    cases f with
    | ret v => exact h₃
    | brk => exact h₃
    | next => exact fin h₃
    | cont => exact fin h₃
end
end Mine
end
section
open PySem PySem.Spec PySem.Calls PyProof.Rows PySem.W
set_option Elab.async false
set_option maxRecDepth 100000
set_option maxHeartbeats 8000000
set_option pp.deepTerms false
set_option pp.maxSteps 2500
namespace Mine
theorem mypage_off : True := by
  w_top off
  trivial
local macro_rules | `(tactic| walk_at $k) => Mine.stopAt k ["call ref", "pyIter ref", "binaryOp Mult int int", "inplaceOp Mult int int", "call builtin:str.join", "binaryOp Add str str", "exec While"]
theorem News.dup {h₀ h : Heap} {L : Addr} {p : Addr × Obj} {l : List (Addr × Obj)} (N : News h₀ L h l) (hp : p ∈ l) : News h₀ L h (p :: l) := fun q hq => by
  rcases List.mem_cons.mp hq with rfl | hq
  · exact N _ hp
  · exact N q hq
theorem strsAre_iff {vs : List Value} {ys : List PySem.Str} : StrsAre vs ys ↔ ∃ l : List (PySem.Str × Tok), vs = strValues l ∧ ys = l.map (·.1) := by
  constructor
  · intro h
    induction h with
    | nil => exact ⟨[], rfl, rfl⟩
    | cons y t _ ih =>
      (refine hide fun PQ kQ => ?_; obtain ⟨l, rfl, rfl⟩ := ih; refine kQ ?_; clear kQ PQ)
      exact ⟨(y, t) :: l, rfl, rfl⟩
  · (intro hQ20; refine hide fun PQ kQ => ?_; obtain ⟨l, rfl, rfl⟩ := hQ20; refine kQ ?_; clear kQ PQ)
    exact strsAre_of_values l
theorem strsAre_insert {vs : List Value} {ys : List PySem.Str} {y : PySem.Str} {t : Tok} {k : Nat} (h : StrsAre vs ys) : StrsAre (vs.take k ++ .str y t :: vs.drop k) (ys.take k ++ y :: ys.drop k) := by
  (refine hide fun PQ kQ => ?_; obtain ⟨l, rfl, rfl⟩ := strsAre_iff.mp h; refine kQ ?_; clear kQ PQ)
  refine strsAre_iff.mpr ⟨l.take k ++ (y, t) :: l.drop k, ?_, ?_⟩ <;> simp [strValues, List.map_take, List.map_drop]
theorem mulOk_nat {a b k l : Nat} (ha : a < 2 ^ k) (hb : b < 2 ^ l) (hk : k ≤ 2 ^ 20) (hl : l ≤ 2 ^ 20) : IntMulOk (a : Int) (b : Int) :=
  IntMulOk.of_bits (Nat.le_trans (intBits_le (by rw [Int.natAbs_natCast]; exact ha)) hk) (Nat.le_trans (intBits_le (by rw [Int.natAbs_natCast]; exact hb)) hl)
theorem unrows_cons (r : PySem.Str) (rs : List PySem.Str) : (r ++ PySem.Str.ofString "\n") ++ unrows rs = unrows (r :: rs) := by
  rw [show (PySem.Str.ofString "\n") = ⟨#[10]⟩ from by decide +kernel]
  apply str_of_cps
  show ((r.cps ++ #[10]) ++ (unrows rs).cps).toList = _
  simp [unrows]
theorem news_fin1 {h₀ h : Heap} {L : Addr} {a b c d : Addr × Obj} {news : List (Addr × Obj)} (N : News h₀ L h (a :: ([] ++ b :: c :: d :: news))) : News h₀ L h ([a] ++ news) := fun q hq => N q (by
  rcases List.mem_cons.mp hq with rfl | hq
  · exact .head _
  · exact .tail _ (.tail _ (.tail _ (.tail _ hq))))
theorem ord_fin1 {D : Addr} {o : Obj} {b c d : Addr × Obj} {news : List (Addr × Obj)} (l : ∀ p ∈ [] ++ b :: c :: d :: news, p.1 < D) : ∀ q ∈ news, ∀ p ∈ [(D, o)], q.1 < p.1 := fun q hq p hp => by
  rw [List.mem_singleton.mp hp]
  exact l q (.tail _ (.tail _ (.tail _ hq)))
noncomputable def TreeAt (news : List (Addr × Obj)) (up : List Nat) (marks : List PySem.Str) (ua ma : Addr) : Prop :=
  ∃ us ms nu nm, (ua, listOf us.toArray nu) ∈ news ∧ (ma, listOf ms.toArray nm) ∈ news ∧ IntsAre us (up.map fun (k : Nat) => (k : Int)) ∧ StrsAre ms marks
structure PageArgs (up : List Nat) (marks : List PySem.Str) (w : Nat) : Prop where
  n1 : 1 ≤ up.length
  n6 : up.length ≤ 6
  nm : marks.length = up.length
  w2 : w ≤ 2
  mko : ∀ h, MarkOk (marks.getD h rS)
theorem page_rel {news : List (Addr × Obj)} {up : List Nat} {marks : List PySem.Str} {wd : Nat} (h : Nat) {ua ma : Addr} {tw th : Tok} {us ms : List Value} {nu nm : Nat} (h1 : (ua, listOf us.toArray nu) ∈ news) (h2 : (ma, listOf ms.toArray nm) ∈ news) (hu : IntsAre us (up.map fun (k : Nat) => (k : Int))) (hm : StrsAre ms marks) :
    ∃ ua' ma' tw' th', [Value.ref ua, .ref ma, .int (wd : Int) tw, .int (h : Int) th] = [.ref ua', .ref ma', .int (wd : Int) tw', .int (h : Int) th'] ∧ TreeAt news up marks ua' ma' := ⟨_, _, _, _, rfl, _, _, _, _, h1, h2, hu, hm⟩
theorem page_tell (w : World) (up : List Nat) (marks : List PySem.Str) (wd : Nat) (hA : PageArgs up marks wd) (rk : Nat → Nat) (hrk : ∀ k, 1 ≤ k → k < up.length → rk k < rk (up.getD k 0)) :
    ∀ f, f ≤ 6 → ∀ h, h < up.length → rk h < f → TellS w ((100 + 10 * f)) 216 (fun news vs => ∃ ua ma tw th, vs = [.ref ua, .ref ma, .int (wd : Int) tw, .int (h : Int) th] ∧ TreeAt news up marks ua ma)
      (fun tl r => ∃ T t tc n, tl = [(T, { cls := .type "tuple", data := .seq #[.str (unrows (pageS up marks wd f h).1) t, .int ((pageS up marks wd f h).2 : Int) tc] n })] ∧ r = .ref T) := by
  intro f
  induction f with
  | zero => intro _ h _ h0; exact absurd h0 (Nat.not_lt_zero _)
  | succ f ih =>
  intro hf h hh hrh
  have hfill : PySem.Challenge.rw_wa0025_01 = PySem.Challenge.rw_wa0025_01 ∧ hd.heap_1 = hd.heap_1 := by k_fill; exact ⟨rfl, rfl⟩
  unfold TellS
  intro prog p loose mean mg mb dp un gd cn cs ad ccd cl outer A₀ base h₀ L m news s vs Q E B F X N T hk XB TB D0 hR hdp hun hret
  obtain ⟨sH, sG, sD, sT, sO⟩ := s
  dsimp only at F N hret
  (refine hide fun PQ kQ => ?_; obtain ⟨ua, ma, tw, th, rfl, us, ms, nu, nm, hum, hmm, hus, hms⟩ := hR; refine kQ ?_; clear kQ PQ)
  refine wpAny_call ?_
  k_dflt open_k0
  rename_i g5 L5 h5 FG5 F5 N5 B5 X5 T5 D5
  refine gen_E PassesOwn.leaving fun EE hEE => ?_
  replace N5 := News.dup (News.dup N5 hmm) (List.mem_cons_of_mem _ hum)
  have hus' := Stop.e hus
  have hms' := Stop.e hms
  have hul : us.length = up.length := by simpa using hus.length
  have hn6 := hA.n6
  have hn1 := hA.n1
  k_steps
  rename_i TX h6a o6 h6b h6c F6a N6a e6 h6 tk6 t16 u16 v16 R6 F6 N6 K6
  refine Stop.e ?_
  have hlen : (((List.map (fun (k : Nat) => (k : Int)) up).length : Nat) : Int) = (up.length : Int) := by simp
  rw [hlen] at R6
  refine' for_range (σ := List Value × Nat × Nat × Tok) (n := up.length - 1)
    (fun z => Below (ktrTop dp un gd cn cs L ad ccd cl outer) base (envX cn cs L ad ccd cl :: outer) z ∧ (hd.heap_1 w.params).In z ∧ Top p loose mean mg mb z ∧ KtsDicts ((envX cn cs L ad ccd cl :: outer).filterMap (·.frame)) z ∧ KtsTurn ((envX cn cs L ad ccd cl :: outer).filterMap (·.frame)) g5 z)
    (fun c => (TX, listOf c.1.toArray c.2.1) :: (ua, listOf us.toArray nu) :: (ma, listOf ms.toArray nm) :: news)
    (fun c => [("up", .ref ua), ("marks", .ref ma), ("width", .int (wd : Int) tw), ("head", .int (h : Int) th), ("texts", .ref TX), ("count", .int (c.2.2.1 : Int) c.2.2.2)])
    (fun i c => StrsAre c.1 ((kidsS (pageS up marks wd f) up h i).1.map unrows) ∧ c.2.2.1 = (kidsS (pageS up marks wd f) up h i).2) ([], 0, 1, _) R6 (by first | exact small_1 (by omega) | exact small_one (by decide) (by decide) (by omega) (by omega)) (by first | exact size_1 (by omega) | (rw [rangeSize_nat]; omega)) rfl rfl rfl ⟨B5, X5, T5, D5, KtsTurn.refl⟩ F6 N6 (by (repeat' (first | exact Says.nil | refine Says.cons rfl ?_))) ⟨StrsAre.nil, rfl⟩ ?turn ?done ?hE
  case hE => passes_own
  case done =>
    rintro ⟨tv, nt, ct, tc⟩ h₁ hp tk u ⟨hPs, hPc⟩ ⟨B7, X7, T7, D7, KT7⟩ F7 N7
    dsimp only [kstB] at F7 hPs hPc N7 ⊢
    subst hPc
    have hml : ms.length = marks.length := by simpa using (Stop.i hms').length
    have hnm := hA.nm
    have hmh : h < ms.length := by omega
    have hmh' : h < marks.length := by omega
    have hms2 : StrsAre ms marks := Stop.i hms'
    k_steps
    (refine hide fun PQ kQ => ?_; obtain ⟨cm, hcm, _⟩ := hA.mko h; refine kQ ?_; clear kQ PQ)
    have hge : marks.getD (h : Int).toNat PySem.Str.empty = marks.getD h rS := by
      rw [Int.toNat_natCast, List.getD_eq_getElem?_getD, List.getD_eq_getElem?_getD, List.getElem?_eq_getElem hmh']
      rfl
    (try refine Stop.e ?_)
    rw [hge]
    refine KXadd.add (K := 10) (L := 10) (by rw [hcm]; show (1 : Nat) ≤ 10; decide) (by decide) (by decide) (fun t20 k20 _ => ?_)
    k_steps
    (revert F7; revert hPs; refine gen1 (kidsS (pageS up marks wd f) up h (up.length - 1)) fun KK hK => ?_; intro hPs F7)
    have hkl : KK.1.length ≤ 5 := by
      have := @kidsS_length (pageS up marks wd f) up h (up.length - 1)
      rw [hK] at this
      omega
    have hfl : tot KK.1.flatten ≤ 5 * 7422 := by
      have h1 := (flat_bound KK.1 fun x hx => by rw [← hK] at hx; exact kids_bound hA.mko hn6 hA.w2 f h _ x hx).1
      exact Nat.le_trans h1 (Nat.mul_le_mul hkl (Cb_le5 f (by omega)))
    have hne0 : RowsNe KK.1.flatten := fun r hr => by
      (refine hide fun PQ kQ => ?_; obtain ⟨x, hx, hr⟩ := List.mem_flatten.mp hr; refine kQ ?_; clear kQ PQ)
      rw [← hK] at hx
      exact kids_ne hA.mko f h _ x hx r hr
    (try refine Stop.e ?_)
    refine join_listC (items := tv.toArray) (News.isList N7 (.head _)) hPs (by decide) (by rw [sum_unrows, List.length_map]; omega) (fun t21 k21 => ?_)
    rw [show PySem.Str.ofString "" = ⟨#[]⟩ from by decide +kernel, join_unrows]
    k_steps
    refine Stop.e ?_
    refine Tell.use B7 F7 X7 N7 T7 rfl (indent_tell w (unrows KK.1.flatten) wd (by have := unrows_length KK.1.flatten; unfold PySem.Str.length at this; omega) hA.w2) ⟨_, _, rfl⟩ (by show dp + 1 + 20 < recursionLimit; omega) (by show un + 3 + 8 * 20 < cLine; omega) ?_
    (intro r tl h22 tk22 F22 N22 hlt22 hQ116; refine hide fun PQ kQ => ?_; obtain ⟨rfl, u22, rfl⟩ := hQ116; refine kQ ?_; clear kQ PQ)
    rw [indent_rows hne0]
    clear F7 N7
    dsimp only
    k_steps
    (try refine Stop.e ?_)
    have hpg : pageS up marks wd (f + 1) h = (marks.getD h rS :: KK.1.flatten.map (shiftR wd), KK.2) := by
      rw [← hK]; rfl
    have hplen : (unrows (KK.1.flatten.map (shiftR wd))).length ≤ 60000 := by
      have h1 := (page_bound hA.mko hn6 hA.w2 (f + 1) h).1
      have h2 := Cb_le (f + 1) hf
      rw [hpg, tot_cons] at h1
      rw [unrows_length]
      omega
    refine KXadd.add (K := 20) (L := 60000) (by rw [hcm]; show (2 : Nat) ≤ 20; decide) hplen (by decide) (fun t23 k23 _ => ?_)
    rw [unrows_cons]
    k_steps
    rename_i D25 h25 F25 N25 l25
    refine Stop.e (.go h₁ L5 _ _ KT7 F25 N25 fun h0' T1 kF kN kB kX kT kD => ?_)
    refine hret _ _ _ _ h0' kB kF kX (news_fin1 kN) kT kD T1 (ord_fin1 l25) ?_
    rw [hpg]
    exact ⟨D25, _, _, _, rfl, rfl⟩
  case turn =>
    rintro i ⟨tv, nt, ct, tc⟩ h₁ hp tk t it o u hi ⟨hPs, hPc⟩ ⟨B7, X7, T7, D7, KT7⟩ F7 N7 hne
    dsimp only [kstB] at F7 hPs hPc N7 hne
    refine gen_Q fun QQ kQQ => ?_
    clear F6 N6 F6a N6a
    clear X5 T5 D5 B5
    try clear N5
    try clear F5
    subst hPc
    have hi1 : 1 + i < up.length := by omega
    k_steps
    · rename _ = (h : Int) => heq
      have e1 : (1 + (i : Int)) = ((i + 1 : Nat) : Int) := by omega
      have e2 : (List.map (fun (k : Nat) => (k : Int)) up).getD (1 + (i : Int)).toNat 0 = ((up.getD (i + 1) 0 : Nat) : Int) := by
        rw [e1, Int.toNat_natCast, List.getD_eq_getElem?_getD, List.getD_eq_getElem?_getD, List.getElem?_map, List.getElem?_eq_getElem (by omega)]
        rfl
      rw [e2] at heq
      have hup : up.getD (i + 1) 0 = h := by omega
      have hrk1 := hrk (i + 1) (by omega) (by omega)
      rw [hup] at hrk1
      refine Stop.e ?_
      rw [e1]
      refine TellS.use B7 F7 X7 N7 T7 rfl XB TB D7 (ih (by omega) (i + 1) (by omega) (by omega)) (page_rel (i + 1) (.tail _ (.tail _ (.head _))) (.tail _ (.tail _ (.tail _ (.head _)))) (Stop.i hus') (Stop.i hms')) (by show dp + 1 + (100 + 10 * f) < recursionLimit; omega) (by show un + 3 + 8 * ((100 + 10 * f)) < cLine; omega) ?_
      (intro r tl h8 tk8 g8 B8 F8 X8 N8 T8 D8 KT8 hlt8 hQ160; refine hide fun PQ kQ => ?_; obtain ⟨T', tt, tc', nT, rfl, rfl⟩ := hQ160; refine kQ ?_; clear kQ PQ)
      have KT7' := KT7.trans KT8
      clear F7 N7 X7 T7 D7 B7
      dsimp only
      k_steps
      rename_i h9 F9 N9
      refine Stop.e ?_
      (revert N9; revert F9; refine gen1 (pageS up marks wd f (i + 1)) fun XX hX => ?_; intro F9 N9)
      (revert N9; revert F9; revert hPs; refine gen1 (kidsS (pageS up marks wd f) up h i) fun KK hK => ?_; intro hPs F9 N9)
      replace N9 : News g8 L5 h9 ([(it, o)] ++ (TX, listOf tv.toArray nt) :: (ua, listOf us.toArray nu) :: (ma, listOf ms.toArray nm) :: news) := fun q hq => N9 q (.tail _ hq)
      have htl : tv.length = KK.1.length := by simpa using hPs.length
      have hkl : KK.1.length ≤ i := by rw [← hK]; exact kidsS_length i
      have hXb : (unrows XX.1).length ≤ 60000 := by
        rw [unrows_length, ← hX]
        have := (page_bound hA.mko hn6 hA.w2 f (i + 1)).1
        have := Cb_le5 f (by omega)
        omega
      have hXok : RowsOk XX.1 := by rw [← hX]; exact (pageS_ok hA.mko f (i + 1)).ok
      have hKb : ∀ x ∈ KK.1, (unrows x).length ≤ 60000 ∧ RowsOk x := fun x hx => by
        rw [← hK] at hx
        have h1 := (kids_bound hA.mko hn6 hA.w2 f h i x hx).1
        have h2 := Cb_le5 f (by omega)
        rw [unrows_length]
        exact ⟨by omega, (kids_ne hA.mko f h i x hx).ok⟩
      have hpl2 := placeR_le XX.1 KK.1
      refine wpAny_mono (Q := fun fl s' => Stop (fl = .next ∧ Turned (fun z => Below (ktrTop dp un gd cn cs L ad ccd cl outer) base (envX cn cs L ad ccd cl :: outer) z ∧ (hd.heap_1 w.params).In z ∧ Top p loose mean mg mb z ∧ KtsDicts ((envX cn cs L ad ccd cl :: outer).filterMap (·.frame)) z ∧ KtsTurn ((envX cn cs L ad ccd cl :: outer).filterMap (·.frame)) g5 z) L5
        (fun _ : Tok => [(it, o)] ++ (TX, listOf tv.toArray nt) :: (ua, listOf us.toArray nu) :: (ma, listOf ms.toArray nm) :: news)
        (fun c => [("up", .ref ua), ("marks", .ref ma), ("width", .int (wd : Int) tw), ("head", .int (h : Int) th), ("texts", .ref TX), ("count", .int (KK.2 : Int) tc), ("k", .int (1 + (i : Int)) t), ("text", .str (unrows XX.1) tt), ("inner", .int (XX.2 : Int) tc'), ("place", .int (placeR XX.1 KK.1 : Int) c)]) (fun _ => True) [] ⟨sH, sG, sD, sT, sO⟩ s'))
        (while_inv (σ := Nat × Tok)
        (fun z => Below (ktrTop dp un gd cn cs L ad ccd cl outer) base (envX cn cs L ad ccd cl :: outer) z ∧ (hd.heap_1 w.params).In z ∧ Top p loose mean mg mb z ∧ KtsDicts ((envX cn cs L ad ccd cl :: outer).filterMap (·.frame)) z ∧ KtsTurn ((envX cn cs L ad ccd cl :: outer).filterMap (·.frame)) g5 z)
        (fun _ => [(it, o)] ++ (TX, listOf tv.toArray nt) :: (ua, listOf us.toArray nu) :: (ma, listOf ms.toArray nm) :: news)
        (fun c => [("up", .ref ua), ("marks", .ref ma), ("width", .int (wd : Int) tw), ("head", .int (h : Int) th), ("texts", .ref TX), ("count", .int (KK.2 : Int) tc), ("k", .int (1 + (i : Int)) t), ("text", .str (unrows XX.1) tt), ("inner", .int (XX.2 : Int) tc'), ("place", .int (c.1 : Int) c.2)])
        (fun c => c.1 ≤ placeR XX.1 KK.1) (fun c => placeR XX.1 KK.1 - c.1) (0, _) ⟨B8, X8, T8, D8, KT7'⟩ F9 N9 (by (repeat' (first | exact Says.nil | refine Says.cons rfl ?_))) (Nat.zero_le _) ?wturn ?wE) ?aft (fun _ _ e => e)
      case wE => passes_own
      case wturn =>
        rintro ⟨pl, tp⟩ h₁ hp tk u QB QX hpl ⟨B9, X9, T9, D9, KT9⟩ F10 N10 hQB hQX
        dsimp only [kstB] at F10 N10 hpl
        clear F9 N9 B8 X8 T8 D8
        k_steps
        · rename (pl : Int) < (tv.length : Int) => hlt
          have hpk : pl < KK.1.length := by omega
          have hget : KK.1[pl]? = some (KK.1.getD pl []) := by
            rw [List.getD_eq_getElem?_getD, List.getElem?_eq_getElem hpk]; rfl
          have hmem : KK.1.getD pl [] ∈ KK.1 := List.mem_of_getElem? hget
          have e5 : (List.map unrows KK.1).getD (pl : Int).toNat PySem.Str.empty = unrows (KK.1.getD pl []) := by
            rw [Int.toNat_natCast, List.getD_eq_getElem?_getD, List.getElem?_map, hget]; rfl
          have hpt := placeR_lt hpl hget
          refine Stop.e ?_
          rw [e5]
          refine TellS.use B9 F10 X9 N10 T9 rfl XB TB D9 (ahead_tell w _ _ (hKb _ hmem).2 hXok (hKb _ hmem).1 hXb) ⟨_, _, rfl⟩ (by show dp + 1 + 100 < recursionLimit; omega) (by show un + 3 + 8 * 100 < cLine; omega) ?_
          rintro r tl h11 tk11 g11 B11 F11 X11 N11 T11 D11 KT11 hlt11 ⟨rfl, rfl⟩
          have KT9' := KT9.trans KT11
          clear F10 N10 X9 T9 D9 B9
          have ea : ((partOf 0 (KK.1.getD pl [] ++ [nilS]) (XX.1 ++ [nilS])).elim false fun x => decide (x.2.1.cps.toList < x.2.2.cps.toList)) = aheadR (KK.1.getD pl []) XX.1 := rfl
          rw [ea]
          cases hah : aheadR (KK.1.getD pl []) XX.1 with
          | true =>
            dsimp only
            k_steps
            rename Fr g11 L5 _ _ => F12
            rename News g11 L5 _ _ => N12
            have hlt2 := hpt.mp hah
            refine hQB _ _ ?_
            refine' TurnPost.next (pl + 1, _) ⟨B11, X11, T11, D11, KT9'⟩ F12 N12 (fun _ hp => nomatch hp) (by (repeat' (first | exact Says.nil | refine Says.cons rfl ?_))) ⟨hlt2, Nat.sub_lt_sub_left hlt2 (Nat.lt_succ_self pl)⟩
          | false =>
            dsimp only
            k_steps
            have hnl : ¬ pl < placeR XX.1 KK.1 := fun q => by rw [hpt.mpr q] at hah; cases hah
            have hpe : pl = placeR XX.1 KK.1 := Nat.le_antisymm hpl (Nat.le_of_not_lt hnl)
            refine hQX _ (Stop.e ⟨rfl, tp, _, _, _, _, rfl, ⟨B11, X11, T11, D11, KT9'⟩, F11, N11, (fun _ hp => nomatch hp), ?_, trivial⟩)
            rw [← hpe]
            (repeat' (first | exact Says.nil | refine Says.cons rfl ?_))
        · rename ¬ (pl : Int) < (tv.length : Int) => hnlt
          have hpe : pl = placeR XX.1 KK.1 := by omega
          refine hQX _ (Stop.e ⟨rfl, tp, _, _, _, _, rfl, ⟨B9, X9, T9, D9, KT9⟩, F10, N10, (fun _ hp => nomatch hp), ?_, trivial⟩)
          rw [← hpe]
          (repeat' (first | exact Says.nil | refine Says.cons rfl ?_))
      case aft =>
        rintro fl s' hst
        (refine hide fun PQ kQ => ?_; obtain ⟨rfl, tp, g12, m12, h12, tk12, rfl, ⟨B12, X12, T12, D12, KT12⟩, F12, N12, _, hs12, _⟩ := Stop.i hst; refine kQ ?_; clear kQ PQ)
        rw [kstB_over hs12.all] at F12
        dsimp only [kstB] at F12 N12 ⊢
        k_steps
        have hins : kl_ins tv (placeR XX.1 KK.1 : Int) (.str (unrows XX.1) tt) = tv.take (placeR XX.1 KK.1) ++ .str (unrows XX.1) tt :: tv.drop (placeR XX.1 KK.1) := by
          unfold kl_ins
          have : (if ((placeR XX.1 KK.1 : Nat) : Int) < 0 then (((placeR XX.1 KK.1 : Nat) : Int) + (tv.length : Int)).toNat else min ((placeR XX.1 KK.1 : Nat) : Int).toNat tv.length) = placeR XX.1 KK.1 := by
            rw [if_neg (by omega), Int.toNat_natCast]; omega
          rw [this]
        have hnew : StrsAre (tv.take (placeR XX.1 KK.1) ++ .str (unrows XX.1) tt :: tv.drop (placeR XX.1 KK.1)) ((insR XX.1 KK.1).map unrows) := by
          have := strsAre_insert (y := unrows XX.1) (t := tt) (k := placeR XX.1 KK.1) hPs
          simpa [insR, List.map_take, List.map_drop] using this
        have hnl13 : (tv.take (placeR XX.1 KK.1) ++ .str (unrows XX.1) tt :: tv.drop (placeR XX.1 KK.1)).length = tv.length + 1 := ins_length (by omega)
        (revert hnl13; revert hnew; revert hins; refine gen1 (tv.take (placeR XX.1 KK.1) ++ .str (unrows XX.1) tt :: tv.drop (placeR XX.1 KK.1)) fun tv2 hT2 => ?_; intro hins hnew hnl13)
        refine kl_insert (its := tv.toArray) (n := nt) (l := tv2) (news' := (it, o) :: (TX, listOf tv2.toArray (nt + 1)) :: (ua, listOf us.toArray nu) :: (ma, listOf ms.toArray nm) :: news) (by k_asm) (by k_asm) ?f hins ?U ?z (fun h13 F13 N13 => ?_)
        case f =>
          unfold Builtin.List.listFitsIndex
          simp only [Bool.and_eq_true, decide_eq_true_eq]
          omega
        case U =>
          refine .tail (Ne.symm (hne _ (.head _))) (.head fun p hp => ?_)
          rcases List.mem_cons.mp hp with rfl | hp
          · exact Nat.ne_of_lt o6.1
          rcases List.mem_cons.mp hp with rfl | hp
          · exact Nat.ne_of_lt o6.2.1
          · exact Nat.ne_of_lt (allLt_all o6.2.2 p hp)
        case z =>
          rw [sizeLine_eq]
          show tv.length ≤ _
          omega
        dsimp only
        have hnew' := Stop.e hnew
        clear F12 N12
        k_steps
        have hcnt : PySem.Spec.countIn (PyData.str (unrows XX.1)) (List.map PyData.str (List.map unrows (insR XX.1 KK.1))) = (((insR XX.1 KK.1).count XX.1 : Nat) : Int) := by
          rw [countIn_strs, count_unrows hXok _ fun y hy => ?_]
          rcases insR_mem hy with rfl | hy
          · exact hXok
          · exact (hKb y hy).2
        have hkid : kidsS (pageS up marks wd f) up h (i + 1) = (insR XX.1 KK.1, KK.2 * (XX.2 * (insR XX.1 KK.1).count XX.1)) := by
          rw [← hX, ← hK]
          show (if up.getD (i + 1) 0 = h then _ else _) = _
          rw [if_pos hup]
        have hb1 : XX.2 < 2 ^ 15621 := by
          rw [← hX]
          exact Nat.lt_of_lt_of_le (page_bits hn6 f (i + 1)) (Nat.pow_le_pow_right (by decide) (Mb_le5 f (by omega)))
        have hb2 : (insR XX.1 KK.1).count XX.1 < 2 ^ 15621 := by
          have h1 := List.count_le_length (a := XX.1) (l := insR XX.1 KK.1)
          rw [insR_length] at h1
          have h2 : (2 : Nat) ^ 4 ≤ 2 ^ 15621 := Nat.pow_le_pow_right (by decide) (by decide)
          omega
        have hb3 : KK.2 < 2 ^ 80000 := by
          rw [← hK]
          refine Nat.lt_of_lt_of_le (kids_bits (fun k => page_bits hn6 f k) i (by omega)) (Nat.pow_le_pow_right (by decide) ?_)
          have h1 := Mb_le5 f (by omega)
          have h2 : i * (Mb f + 3) ≤ 5 * (15621 + 3) := Nat.mul_le_mul (by omega) (by omega)
          omega
        have hb4 : XX.2 * (insR XX.1 KK.1).count XX.1 < 2 ^ 31242 := by
          have := Nat.mul_lt_mul'' hb1 hb2
          rw [← Nat.pow_add] at this
          exact this
        (try refine Stop.e ?_)
        rw [hcnt]
        refine mul_int ?_ (mulOk_nat hb1 hb2 (by decide) (by decide))
        k_steps
        (try refine Stop.e ?_)
        rw [← Int.natCast_mul]
        refine imul_int ?_ (mulOk_nat hb3 hb4 (by decide) (by decide))
        rw [← Int.natCast_mul]
        k_steps
        rename Fr g12 L5 _ _ => F15
        rename News g12 L5 _ _ => N15
        refine kQQ _ _ ?_
        refine' TurnPost.next (tv2, nt + 1, KK.2 * (XX.2 * List.count XX.1 (insR XX.1 KK.1)), _) ⟨B12, X12, T12, D12, KT12⟩ F15 N15 (own_off fun p hp => (List.mem_cons.mp hp).elim (fun q => by rw [q]; exact hne (TX, listOf tv.toArray nt) (.head _)) fun q => hne p (.tail _ q)) (by (repeat' (first | exact Says.nil | refine Says.cons rfl ?_))) ⟨by rw [hkid]; exact Stop.i hnew', by rw [hkid]⟩
    · rename _ ≠ (h : Int) => heq
      have e2 : (List.map (fun (k : Nat) => (k : Int)) up).getD (1 + (i : Int)).toNat 0 = ((up.getD (i + 1) 0 : Nat) : Int) := by
        rw [show (1 + (i : Int)) = ((i + 1 : Nat) : Int) by omega, Int.toNat_natCast, List.getD_eq_getElem?_getD, List.getD_eq_getElem?_getD, List.getElem?_map, List.getElem?_eq_getElem (by omega)]
        rfl
      rw [e2] at heq
      have hup : ¬ up.getD (i + 1) 0 = h := fun q => heq (by rw [q])
      have hk : kidsS (pageS up marks wd f) up h (i + 1) = kidsS (pageS up marks wd f) up h i := by
        show (if up.getD (i + 1) 0 = h then _ else _) = _
        rw [if_neg hup]
      refine kQQ _ _ ?_
      refine' TurnPost.next (tv, nt, _, tc) ⟨B7, X7, T7, D7, KT7⟩ F7 N7 (own_off hne) (by (repeat' (first | exact Says.nil | refine Says.cons rfl ?_))) ⟨by rw [hk]; exact hPs, by rw [hk]⟩
end Mine
end
section
set_option Elab.async false
set_option maxRecDepth 100000
set_option maxHeartbeats 4000000
namespace Mine
noncomputable def aheadN : List Nat → List Nat → Bool
  | [], [] => false
  | [], _ :: _ => true
  | _ :: _, [] => false
  | a :: as, b :: bs => if a = b then aheadN as bs else Nat.blt b a
theorem aheadN_irrefl : ∀ a, aheadN a a = false
  | [] => rfl
  | a :: as => by
    unfold aheadN
    rw [if_pos rfl]
    exact aheadN_irrefl as
theorem aheadN_trans : ∀ {a b c : List Nat}, aheadN a b = true → aheadN b c = true → aheadN a c = true
  | [], [], _, h, _ => by cases h
  | [], _ :: _, [], _, h => by cases h
  | [], _ :: _, _ :: _, _, _ => rfl
  | _ :: _, [], _, h, _ => by cases h
  | _ :: _, _ :: _, [], _, h => by cases h
  | a :: as, b :: bs, c :: cs, h1, h2 => by
    unfold aheadN at h1 h2 ⊢
    by_cases e1 : a = b
    · subst e1
      rw [if_pos rfl] at h1
      by_cases e2 : a = c
      · subst e2
        rw [if_pos rfl] at h2 ⊢
        exact aheadN_trans h1 h2
      · rw [if_neg e2] at h2 ⊢
        exact h2
    · rw [if_neg e1] at h1
      by_cases e2 : b = c
      · subst e2
        rw [if_neg e1]
        exact h1
      · rw [if_neg e2] at h2
        rw [Nat.blt_eq] at h1 h2
        have e3 : ¬ a = c := by omega
        rw [if_neg e3, Nat.blt_eq]
        omega
theorem aheadN_total : ∀ {a b : List Nat}, aheadN a b = false → aheadN b a = false → a = b
  | [], [], _, _ => rfl
  | [], _ :: _, h, _ => by cases h
  | _ :: _, [], _, h => by cases h
  | a :: as, b :: bs, h1, h2 => by
    unfold aheadN at h1 h2
    by_cases e : a = b
    · subst e
      rw [if_pos rfl] at h1 h2
      rw [aheadN_total h1 h2]
    · rw [if_neg e] at h1
      rw [if_neg (Ne.symm e)] at h2
      have h3 : ¬ b < a := fun q => by rw [Nat.blt_eq.mpr q] at h1; cases h1
      have h4 : ¬ a < b := fun q => by rw [Nat.blt_eq.mpr q] at h2; cases h2
      omega
theorem aheadN_asymm {a b : List Nat} (h : aheadN a b = true) : aheadN b a = false := by
  cases h2 : aheadN b a with
  | false => rfl
  | true => exact absurd (aheadN_trans h h2) (by rw [aheadN_irrefl]; simp)
theorem aheadN_neg {a b c : List Nat} (h1 : aheadN b a = false) (h2 : aheadN c b = false) : aheadN c a = false := by
  cases h : aheadN c a with
  | false => rfl
  | true =>
    cases h3 : aheadN a b with
    | true => rw [aheadN_trans h h3] at h2; cases h2
    | false => rw [aheadN_total h3 h1] at h; rw [h2] at h; cases h
noncomputable def insN (x : List Nat) : List (List Nat) → List (List Nat)
  | [] => [x]
  | y :: ys => if aheadN y x = true then y :: insN x ys else x :: y :: ys
theorem insN_perm (x : List Nat) : ∀ l, (insN x l).Perm (x :: l)
  | [] => .refl _
  | y :: ys => by
    unfold insN
    split
    · exact (List.Perm.cons y (insN_perm x ys)).trans (.swap x y ys)
    · exact .refl _
theorem insN_cons (x y : List Nat) (ys : List (List Nat)) : insN x (y :: ys) = if aheadN y x = true then y :: insN x ys else x :: y :: ys := rfl
theorem insN_nil (x : List Nat) : insN x [] = [x] := rfl
theorem insN_comm (x y : List Nat) : ∀ l, insN x (insN y l) = insN y (insN x l)
  | [] => by
    rw [insN_nil, insN_nil, insN_cons, insN_cons, insN_nil, insN_nil]
    by_cases h1 : aheadN y x = true
    · rw [if_pos h1, if_neg (by rw [aheadN_asymm h1]; simp)]
    · by_cases h2 : aheadN x y = true
      · rw [if_neg h1, if_pos h2]
      · rw [if_neg h1, if_neg h2, aheadN_total (a := y) (b := x) (by simpa using h1) (by simpa using h2)]
  | z :: zs => by
    have ih := insN_comm x y zs
    rw [insN_cons y z, insN_cons x z]
    by_cases h1 : aheadN z y = true <;> by_cases h2 : aheadN z x = true
    · rw [if_pos h1, if_pos h2, insN_cons, insN_cons, if_pos h1, if_pos h2, ih]
    · have hxz : aheadN x y = true := by
        cases e : aheadN x y with
        | true => rfl
        | false =>
          have := aheadN_neg (a := y) (b := x) (c := z) e (by simpa using h2)
          rw [this] at h1
          cases h1
      rw [if_pos h1, if_neg h2, insN_cons, if_neg h2, insN_cons, if_pos hxz, insN_cons, if_pos h1]
    · have hxz : aheadN y x = true := by
        cases e : aheadN y x with
        | true => rfl
        | false =>
          have := aheadN_neg (a := x) (b := y) (c := z) e (by simpa using h1)
          rw [this] at h2
          cases h2
      rw [if_neg h1, if_pos h2, insN_cons, if_pos hxz, insN_cons, if_pos h2, insN_cons, if_neg h1]
    · rw [if_neg h1, if_neg h2, insN_cons, insN_cons, insN_cons, insN_cons, if_neg h1, if_neg h2]
      by_cases e1 : aheadN y x = true
      · rw [if_pos e1, if_neg (by rw [aheadN_asymm e1]; simp)]
      · rw [if_neg e1]
        by_cases e2 : aheadN x y = true
        · rw [if_pos e2]
        · rw [if_neg e2, aheadN_total (a := y) (b := x) (by simpa using e1) (by simpa using e2)]
noncomputable def SortedN (l : List (List Nat)) : Prop := l.Pairwise fun a b => aheadN b a = false
theorem insN_sorted (x : List Nat) : ∀ {l}, SortedN l → SortedN (insN x l)
  | [], _ => by
    unfold insN SortedN
    simp
  | y :: ys, h => by
    unfold SortedN at h
    rw [List.pairwise_cons] at h
    unfold insN
    split
    · rename_i hy
      unfold SortedN
      rw [List.pairwise_cons]
      refine ⟨fun z hz => ?_, insN_sorted x h.2⟩
      rcases List.mem_cons.mp ((insN_perm x ys).mem_iff.mp hz) with rfl | hz
      · exact aheadN_asymm hy
      · exact h.1 z hz
    · rename_i hy
      unfold SortedN
      rw [List.pairwise_cons, List.pairwise_cons]
      refine ⟨fun z hz => ?_, h⟩
      rcases List.mem_cons.mp hz with rfl | hz
      · simpa using hy
      · exact aheadN_neg (by simpa using hy) (h.1 z hz)
noncomputable def insAll (l : List (List Nat)) : List (List Nat) := l.foldl (fun a x => insN x a) []
theorem foldl_ins_perm : ∀ (l a : List (List Nat)), (l.foldl (fun a x => insN x a) a).Perm (l ++ a)
  | [], a => .refl _
  | x :: l, a => by
    rw [List.foldl_cons]
    refine (foldl_ins_perm l (insN x a)).trans ?_
    exact ((insN_perm x a).append_left l).trans List.perm_middle
theorem foldl_ins_sorted : ∀ (l a : List (List Nat)), SortedN a → SortedN (l.foldl (fun a x => insN x a) a)
  | [], _, h => h
  | x :: l, a, h => foldl_ins_sorted l (insN x a) (insN_sorted x h)
theorem insAll_perm (l : List (List Nat)) : (insAll l).Perm l := by
  have := foldl_ins_perm l []
  rwa [List.append_nil] at this
theorem insAll_sorted (l : List (List Nat)) : SortedN (insAll l) := foldl_ins_sorted l [] List.Pairwise.nil
theorem sorted_unique {p l : List (List Nat)} (hp : p.Perm l) (hs : SortedN p) : p = insAll l :=
  List.Perm.eq_of_pairwise (fun _ _ _ _ h1 h2 => aheadN_total h2 h1) hs (insAll_sorted l) (hp.trans (insAll_perm l).symm)
noncomputable def stepK (a : List (List Nat) × Nat) (p : List Nat × Nat) : List (List Nat) × Nat := (insN p.1 a.1, a.2 * (p.2 * (insN p.1 a.1).count p.1))
theorem stepK_comm (a : List (List Nat) × Nat) (p q : List Nat × Nat) : stepK (stepK a p) q = stepK (stepK a q) p := by
  unfold stepK
  dsimp only
  rw [insN_comm q.1 p.1]
  congr 1
  have c1 := (insN_perm p.1 a.1).count_eq p.1
  have c2 := (insN_perm q.1 a.1).count_eq q.1
  have c3 := (insN_perm p.1 (insN q.1 a.1)).count_eq p.1
  have c4 := (insN_perm p.1 (insN q.1 a.1)).count_eq q.1
  have c5 := (insN_perm q.1 a.1).count_eq p.1
  have c6 := (insN_perm p.1 a.1).count_eq q.1
  rw [List.count_cons] at c1 c2 c3 c4 c5 c6
  rw [c1, c4, c2, c3, c5]
  by_cases h : p.1 = q.1
  · rw [h]
    simp only [beq_self_eq_true, if_true]
    rw [Nat.mul_assoc, Nat.mul_assoc]
    generalize List.count q.1 a.1 = n
    ac_rfl
  · have h1 : (p.1 == q.1) = false := by rw [beq_eq_false_iff_ne]; exact h
    have h2 : (q.1 == p.1) = false := by rw [beq_eq_false_iff_ne]; exact Ne.symm h
    simp only [h1, h2, beq_self_eq_true, if_true, Bool.false_eq_true, if_false, Nat.add_zero]
    generalize List.count q.1 a.1 = n
    generalize List.count p.1 a.1 = k
    ac_rfl
end Mine
end
section
open PySem PySem.Spec PySem.Calls PyProof.Rows PySem.W
open PySem.AutoSeq1 (wpAny_loadPart')
open PySem.MeetsSeq PySem.MeetsSeq2 PySem.MeetsSeq3 PySem.SeqRoads2 PySem.SeqAt
set_option Elab.async false
set_option maxRecDepth 100000
set_option maxHeartbeats 4000000
namespace Mine
noncomputable def lexS : List PySem.Str → List PySem.Str → Bool
  | [], [] => false
  | [], _ :: _ => true
  | _ :: _, [] => false
  | a :: as, b :: bs => if a = b then lexS as bs else decide (a.cps.toList < b.cps.toList)
theorem lexS_nil {ss : List PySem.Str} : lexS ss [] = false := by cases ss <;> rfl
theorem lexS_nilL {ss : List PySem.Str} : lexS [] ss = decide (0 < ss.length) := by cases ss <;> rfl
theorem strs_get {vs : List Value} {ss : List PySem.Str} (h : StrsAre vs ss) : ∀ {i : Nat}, i < ss.length → ∃ t, vs[i]? = some (.str (ss.getD i PySem.Str.empty) t) := by
  induction h with
  | nil => intro i hi; exact absurd hi (Nat.not_lt_zero _)
  | cons x t _ ih =>
    intro i hi
    cases i with
    | zero => exact ⟨t, rfl⟩
    | succ i =>
      obtain ⟨u, hu⟩ := ih (i := i) (by simpa using hi)
      exact ⟨u, by simpa using hu⟩
theorem lt_loopAt (l b : Addr) (vs ws : List Value) (ss ts : List PySem.Str) (hS : StrsAre vs ss) (hT : StrsAre ws ts) (n n2 : Nat) (dd dd2 : Option Addr) (sl sl2 : Array (Option Value)) (k : Nat) :
    ∀ i : Nat, ss.length - i = k → i ≤ ss.length → i ≤ ts.length → Meets (Builtin.«list.__eq__.loop» ⟨[.ref l, .ref b, rawInt i, rawInt 0], []⟩)
      (fun A R s => s.heap.get? l = some { cls := .type "list", dict := dd, data := .seq vs.toArray n, slots := sl } ∧ s.heap.get? b = some { cls := .type "list", dict := dd2, data := .seq ws.toArray n2, slots := sl2 } ∧
        R (.ok (.ret (.bool (lexS (ss.drop i) (ts.drop i))))) s) := by
  have hsl : vs.length = ss.length := by simpa using hS.length
  have htl : ws.length = ts.length := by simpa using hT.length
  induction k with
  | zero =>
    intro i hk hi1 hi2 prog w A R s h
    obtain ⟨hp, g, d, tk, os⟩ := s; obtain ⟨hl, hb, h⟩ := h
    wp_walk using wpAny_loadPart' hl, wpAny_loadPart' hb
    have hz1 : vs.toArray[((i : Nat) : Int).toNat]? = none := by simp; omega
    rw [List.drop_eq_nil_of_le (by omega), lexS_nilL, List.length_drop] at h
    rw [hz1]
    wp_walk using wpAny_loadPart' hl, wpAny_loadPart' hb
    show R (.ok (.ret (.bool (decide (vs.toArray.size < ws.toArray.size))))) _
    rw [List.size_toArray, List.size_toArray, hsl, htl]
    have e : decide (ss.length < ts.length) = decide (0 < ts.length - i) := by
      rw [decide_eq_decide, Nat.le_antisymm hi1 (Nat.le_of_sub_eq_zero hk)]; exact Nat.sub_pos_iff_lt.symm
    rw [e]
    exact h
  | succ k ih =>
    intro i hk hi1 hi2 prog w A R s h
    obtain ⟨hp, g, d, tk, os⟩ := s; obtain ⟨hl, hb, h⟩ := h
    have hlt : i < ss.length := Nat.sub_pos_iff_lt.mp (hk ▸ Nat.succ_pos k)
    obtain ⟨t1, ht1⟩ := strs_get hS hlt
    have hz1 : vs.toArray[((i : Nat) : Int).toNat]? = some (.str (ss.getD i PySem.Str.empty) t1) := by simpa using ht1
    have hdS : ss.drop i = ss.getD i PySem.Str.empty :: ss.drop (i + 1) := by
      rw [List.drop_eq_getElem_cons hlt, List.getD_eq_getElem?_getD, List.getElem?_eq_getElem hlt]; rfl
    have hc : ((i : Int) + 1) = ((i + 1 : Nat) : Int) := by push_cast; rfl
    by_cases hlt2 : i < ts.length
    · obtain ⟨t2, ht2⟩ := strs_get hT hlt2
      have hz2 : ws.toArray[((i : Nat) : Int).toNat]? = some (.str (ts.getD i PySem.Str.empty) t2) := by simpa using ht2
      have hdT : ts.drop i = ts.getD i PySem.Str.empty :: ts.drop (i + 1) := by
        rw [List.drop_eq_getElem_cons hlt2, List.getD_eq_getElem?_getD, List.getElem?_eq_getElem hlt2]; rfl
      rw [hdS, hdT] at h
      wp_walk using wpAny_loadPart' hl, wpAny_loadPart' hb
      rw [hz1, hz2]
      refine wpAny_bind (eqBool_str ?_)
      by_cases he : ss.getD i PySem.Str.empty = ts.getD i PySem.Str.empty
      · rw [he, beq_self_eq_true]
        have h' : R (.ok (.ret (.bool (lexS (ss.drop (i + 1)) (ts.drop (i + 1)))))) ⟨hp, g, d, tk, os⟩ := by
          have e : lexS (ss.getD i PySem.Str.empty :: ss.drop (i + 1)) (ts.getD i PySem.Str.empty :: ts.drop (i + 1)) = lexS (ss.drop (i + 1)) (ts.drop (i + 1)) := by
            show (if _ then _ else _) = _
            rw [if_pos he]
          rw [e] at h
          exact h
        wp_walk
        rw [hc]
        exact ⟨plainId_quiet plain_eq_loop _, codeAny_builtin entry_eq_loop (by
          rw [Around.under_plainId plain_eq_loop _]
          exact ih (i + 1) (by rw [Nat.sub_add_eq, hk]; rfl) hlt hlt2 prog w A R _ ⟨hl, hb, h'⟩)⟩
      · have hb' : (ss.getD i PySem.Str.empty == ts.getD i PySem.Str.empty) = false := by rw [beq_eq_false_iff_ne]; exact he
        have e : lexS (ss.getD i PySem.Str.empty :: ss.drop (i + 1)) (ts.getD i PySem.Str.empty :: ts.drop (i + 1)) = decide ((ss.getD i PySem.Str.empty).cps.toList < (ts.getD i PySem.Str.empty).cps.toList) := by
          show (if _ then _ else _) = _
          rw [if_neg he]
        rw [e] at h
        rw [hb']
        wp_walk using wpAny_loadPart' hl, wpAny_loadPart' hb
        rw [hz1, hz2]
        refine wpAny_bind (lt_str ?_)
        exact wpAny_pure h
    · have hz2 : ws.toArray[((i : Nat) : Int).toNat]? = none := by simp; omega
      have hdn : ts.drop i = [] := List.drop_eq_nil_of_le (by omega)
      rw [hdn, lexS_nil] at h
      wp_walk using wpAny_loadPart' hl, wpAny_loadPart' hb
      rw [hz1, hz2]
      wp_walk using wpAny_loadPart' hl, wpAny_loadPart' hb
      show R (.ok (.ret (.bool (decide (vs.toArray.size < ws.toArray.size))))) _
      have e : decide (vs.toArray.size < ws.toArray.size) = false := by
        rw [List.size_toArray, List.size_toArray, hsl, htl]
        exact decide_eq_false (by omega)
      rw [e]
      exact h
theorem list_ltAt (l b : Addr) (vs ws : List Value) (ss ts : List PySem.Str) (hS : StrsAre vs ss) (hT : StrsAre ws ts) (n n2 : Nat) (dd dd2 : Option Addr) (sl sl2 : Array (Option Value)) :
    Meets (Builtin.«list.__lt__» ⟨[.ref l, .ref b], []⟩)
      (fun A R s => s.heap.get? l = some { cls := .type "list", dict := dd, data := .seq vs.toArray n, slots := sl } ∧ s.heap.get? b = some { cls := .type "list", dict := dd2, data := .seq ws.toArray n2, slots := sl2 } ∧
        R (.ok (.ret (.bool (lexS ss ts)))) s) := by
  intro prog w A R s h
  obtain ⟨hp, g, d, tk, os⟩ := s; obtain ⟨hl, hb, h⟩ := h
  have f3 := AutoSeq1.sub_list_list
  wp_walk using wpAny_loadPart' hl, wpAny_loadPart' hb
  exact ⟨plainId_quiet plain_eq_loop _, codeAny_builtin entry_eq_loop (by
    rw [Around.under_plainId plain_eq_loop _]
    exact lt_loopAt l b vs ws ss ts hS hT n n2 dd dd2 sl sl2 _ 0 rfl (Nat.zero_le _) (Nat.zero_le _) prog w A R _ ⟨hl, hb, h⟩)⟩
section
variable {prog : Program} {w : World} {A : Around} {E : Value → Shared → Prop} {s : Shared}
theorem lt_lists {l b : Addr} {vs ws : List Value} {ss ts : List PySem.Str} {n n2 : Nat} {Q : Bool → Shared → Prop} (hS : StrsAre vs ss) (hT : StrsAre ws ts) (hl : s.heap.get? l = some (listOf vs.toArray n)) (hb : s.heap.get? b = some (listOf ws.toArray n2)) (hu : A.units < cLine)
    (h : Q (lexS ss ts) s) : wpAny (model prog w) A (keyLt' oneType' (.ref l) (.ref b)) Q E s := by
  rw [keyLt'_oneType, oneLt'_eq]
  simp only [if_true]
  refine wpAny_bind (wpAny_cRoomFor hu ?_)
  refine wpAny_bind (wpAny_callSpecialIfBound?_slot ⟨_, hl, rfl⟩ PySem.F.slot_list_lt (call_meets PySem.F.slot_list_lt ⟨_, hl, rfl⟩ PySem.F.entry_list_lt (PySem.F.args_list_lt_2 _ _) (list_ltAt l b vs ws ss ts hS hT n n2 none none _ _) ⟨hl, hb, ?_⟩))
  exact wpAny_truthy_bool h
end
end Mine
end
section
open PySem PySem.Spec PySem.Calls PyProof.Rows PySem.W
set_option Elab.async false
set_option maxRecDepth 100000
set_option maxHeartbeats 4000000
namespace Mine
noncomputable def runB {α : Type} (n : Nat) (lt : Nat → Nat → Bool) : KasT α → Option α
  | .ret a => some a
  | .ask i j k => if (Nat.ble n i || Nat.ble n j) = true then none else runB n lt (k (lt i j))
theorem runB_wp {α : Type} {n : Nat} {lt : Nat → Nat → Bool} {cmp : Nat → Nat → (Bool → Shared → Prop) → Shared → Prop} {Q : α → Shared → Prop} {s : Shared} (hc : ∀ i j C, i < n → j < n → C (lt i j) s → cmp i j C s) : ∀ (t : KasT α) {a : α}, runB n lt t = some a → Q a s → t.kasWp cmp Q s
  | .ret b, a, h, hq => by
    cases h
    exact hq
  | .ask i j k, a, h, hq => by
    unfold runB at h
    split at h
    · cases h
    · rename_i hn
      simp only [Bool.or_eq_true, Nat.ble_eq, not_or, Nat.not_le] at hn
      exact hc i j _ hn.1 hn.2 (runB_wp hc (k (lt i j)) h hq)
noncomputable def ascR (r : List Nat) : List Nat → Bool
  | a :: b :: l => Nat.ble (r.getD a 0) (r.getD b 0) && ascR r (b :: l)
  | _ => true
noncomputable def srtOk (n : Nat) (r : List Nat) : Bool := match runB n (fun i j => Nat.blt (r.getD i 0) (r.getD j 0)) (kas_sort n) with
  | some p => p.toList.isPerm (List.range n) && ascR r p.toList
  | none => false
noncomputable def allR (m : Nat) : Nat → List (List Nat)
  | 0 => [[]]
  | n + 1 => (List.range m).flatMap fun x => (allR m n).map (x :: ·)
noncomputable def isRank (r : List Nat) : Bool := r.all fun x => Nat.beq x (r.countP fun y => Nat.blt y x)
noncomputable def srtR (n : Nat) (r : List Nat) : Bool := if isRank r = true then srtOk n r else true
theorem srt2 : (allR 2 2).all (srtR 2) = true := by decide +kernel
theorem srt3 : (allR 3 3).all (srtR 3) = true := by decide +kernel
theorem srt4 : (allR 4 4).all (srtR 4) = true := by decide +kernel
theorem srt5 : (allR 5 5).all (srtR 5) = true := by decide +kernel
end Mine
end
section
open PySem PySem.Spec PySem.Calls PyProof.Rows PySem.W
set_option Elab.async false
set_option maxRecDepth 100000
set_option maxHeartbeats 4000000
namespace Mine
section
variable {prog : Program} {w : World} {A : Around} {E : Value → Shared → Prop} {s : Shared}
theorem under_line {α : Type} {l : List α} (h : l.length < 2) : l.length ≤ sizeLine := by
  rw [sizeLine_eq]
  omega
theorem pairs_back (vs : List Value) : Array.map (fun x => x.snd) (vs.toArray.zip vs.toArray) = vs.toArray := by
  refine Array.toList_inj.mp ?_
  rw [Array.toList_map, Array.toList_zip]
  exact List.map_snd_zip (Nat.le_refl _)
noncomputable def held (h : Heap) (a : Addr) (vs : List Value) : Heap := ((h.update a (Obj.mapSeq fun _ => #[])).push (seqObj "tuple" vs.toArray 0)).push (seqObj "list" #[] 0)
theorem held_at {h : Heap} {a : Addr} {vs : List Value} {n : Nat} (ho : h.get? a = some (seqObj "list" vs.toArray n)) :
    ∃ c, (h.update a (Obj.mapSeq fun _ => #[])).get? a = some (seqObj "list" #[] c) ∧ (held h a vs).get? a = some (seqObj "list" #[] c) :=
  have e := get?_update_seq ho fun _ => #[]
  ⟨_, e, Heap.get?_push_of_some _ (Heap.get?_push_of_some _ e)⟩
theorem list_sort_small {a : Addr} {vs : List Value} {n : Nat} {P : PySem.Fin → Shared → Prop} (ho : s.heap.get? a = some (seqObj "list" vs.toArray n)) (h2 : vs.length < 2)
    (h : P (.done (.ret .none)) { s with heap := sortedHeap s.heap a vs vs.toArray }) : wpAny (model prog w) A (Builtin.«list.sort» ⟨[.ref a], []⟩) P E s := by
  have few : vs.toArray.size < 2 := h2
  have lim := under_line h2
  refine (held_at ho).elim fun c at1 => ?_
  rw [list_sort_plain]
  refine wpAny_bind (listItems_at ho rfl (wpAny_bind (listUpdate_at ho rfl (wpAny_bind (seqEpoch_at at1.1 rfl (wpAny_bind (wpAny_newTuple (wpAny_bind (wpAny_newList (wpAny_holding ?_) (Nat.zero_le _))) lim)))) lim (Nat.zero_le _))))
  show wpAny _ _ _ _ _ { s with heap := held s.heap a vs }
  dsimp only
  rw [if_pos few, if_pos few]
  refine wpAny_bind (wpAny_pure ?_)
  rw [StateT.run_pure]
  refine wpAny_bind (wpAny_pure ?_)
  dsimp only
  rw [pairs_back]
  refine wpAny_bind (seqEpoch_at at1.2 rfl (wpAny_bind (listUpdate_at at1.2 rfl ?_ (Nat.zero_le _) (Nat.le_succ_of_le lim))))
  rw [if_neg (by simp)]
  exact wpAny_pure h
noncomputable def gathered (h : Heap) (vs : List Value) : Heap := ((h.push (seqObj "list" #[] 0)).update h.objs.size (Obj.mapSeq (· ++ vs.toArray))).push (seqObj "list" vs.toArray 0)
theorem gathered_size {h : Heap} {vs : List Value} : ((h.push (seqObj "list" #[] 0)).update h.objs.size (Obj.mapSeq (· ++ vs.toArray))).objs.size = h.objs.size + 1 :=
  (Heap.size_update ..).trans (size_push' ..)
theorem gathered_at {h : Heap} {vs : List Value} : (gathered h vs).get? (h.objs.size + 1) = some (seqObj "list" vs.toArray 0) := Heap.get?_push_at gathered_size.symm rfl
theorem sorted_small {h₀ : Heap} {L l : Addr} {m : PySem.Str → Option Value} {news : List (Addr × Obj)} {vs : List Value} {Q : Value → Shared → Prop} (F : Fr h₀ L s.heap m) (N : News h₀ L s.heap news) (hl : s.heap.IsList l vs.toArray) (h2 : vs.length < 2)
    (h : ∀ D c h', Fr h₀ L h' m → News h₀ L h' ((D, listOf vs.toArray c) :: news) → (∀ q ∈ news, q.1 < D) → Q (.ref D) { s with heap := h' }) : wpAny (model prog w) A (call (.builtin "sorted") [.ref l]) Q E s := by
  have fin : Q (.ref (s.heap.objs.size + 1)) { s with heap := sortedAll s.heap vs vs.toArray } :=
    (sortedAll_at s.heap vs vs.toArray).elim fun e he => h _ e _ (F.kept fun _ _ => sortedAll_old) (N.kept_cons F (fun _ _ => sortedAll_old) (Nat.le_succ _) he) fun q hq => Nat.lt_succ_of_lt (Heap.lt_size (N q hq).1)
  refine Calls.call_function_entry kind_sorted plain_sorted entry_sorted (args_sorted1 _) ?_
  unfold Builtin.«sorted»
  refine wpAny_bind (m := checkCount "sorted" 1 1 _) (wpAny_pure (wpAny_bind (collect_list hl (wpAny_bind (wpAny_newList ?_ (under_line h2))) (under_line h2))))
  rw [gathered_size]
  refine wpAny_bind (wpAny_holding (wpAny_call_entry (s := { s with heap := gathered s.heap vs }) slot_list_sort ⟨_, gathered_at, rfl⟩ entry_list_sort (list_sort_small gathered_at h2 ?_) (args_list_sort _)))
  exact ⟨_, rfl, wpAny_pure ⟨_, rfl, fin⟩⟩
end
end Mine
end
section
open PySem PySem.Spec PySem.Calls PyProof.Rows PySem.W
set_option Elab.async false
set_option maxRecDepth 100000
set_option maxHeartbeats 4000000
namespace Mine
theorem runB_congr {α : Type} {n : Nat} {lt lt' : Nat → Nat → Bool} (h : ∀ i j, i < n → j < n → lt i j = lt' i j) : ∀ t : KasT α, runB n lt t = runB n lt' t
  | .ret _ => rfl
  | .ask i j k => by
    unfold runB
    by_cases hn : (Nat.ble n i || Nat.ble n j) = true
    · rw [if_pos hn, if_pos hn]
    · rw [if_neg hn, if_neg hn]
      simp only [Bool.or_eq_true, Nat.ble_eq, not_or, Nat.not_le] at hn
      rw [h i j hn.1 hn.2]
      exact runB_congr h _
theorem mem_allR {m : Nat} : ∀ {l : List Nat}, (∀ x ∈ l, x < m) → l ∈ allR m l.length
  | [], _ => .head _
  | x :: l, h => by
    refine List.mem_flatMap.mpr ⟨x, List.mem_range.mpr (h x (.head _)), List.mem_map.mpr ⟨l, mem_allR fun y hy => h y (.tail _ hy), rfl⟩⟩
noncomputable def rnk (L : List (List Nat)) (x : List Nat) : Nat := L.countP fun y => aheadN y x
theorem countP_lt {α : Type} {p q : α → Bool} : ∀ {l : List α} {x : α}, x ∈ l → (∀ y, p y = true → q y = true) → p x = false → q x = true → l.countP p < l.countP q
  | y :: l, x, hx, hpq, h1, h2 => by
    have hle : l.countP p ≤ l.countP q := List.countP_mono_left fun z _ hz => hpq z hz
    rw [List.countP_cons, List.countP_cons]
    rcases List.mem_cons.mp hx with rfl | hx
    · rw [h1, h2]
      simp only [Bool.false_eq_true, if_false, if_true]
      omega
    · have ih := countP_lt hx hpq h1 h2
      have : (if p y = true then 1 else 0) ≤ (if q y = true then 1 else 0) := by
        split
        · rename_i hp
          rw [if_pos (hpq y hp)]
          exact Nat.le_refl _
        · exact Nat.zero_le _
      omega
theorem rnk_lt {L : List (List Nat)} {x y : List Nat} (hx : x ∈ L) : Nat.blt (rnk L x) (rnk L y) = aheadN x y := by
  cases h : aheadN x y with
  | true =>
    rw [Nat.blt_eq]
    exact countP_lt hx (fun z hz => aheadN_trans hz h) (aheadN_irrefl x) h
  | false =>
    have : rnk L y ≤ rnk L x := List.countP_mono_left fun z _ hz => by
      cases e : aheadN z x with
      | true => rfl
      | false =>
        have := aheadN_neg (a := y) (b := x) (c := z) h e
        rw [this] at hz
        cases hz
    have h2 : ¬ (Nat.blt (rnk L x) (rnk L y) = true) := by rw [Nat.blt_eq]; omega
    exact eq_false_of_ne_true h2
theorem rnk_bound {L : List (List Nat)} {x : List Nat} (hx : x ∈ L) : rnk L x < L.length := by
  have h1 : rnk L x < L.countP fun _ => true := countP_lt hx (fun _ _ => rfl) (aheadN_irrefl x) rfl
  have h2 : (L.countP fun _ => true) ≤ L.length := List.countP_le_length
  omega
theorem isRank_rnk (L : List (List Nat)) : isRank (L.map (rnk L)) = true := by
  unfold isRank
  rw [List.all_eq_true]
  intro a ha
  (refine hide fun PQ kQ => ?_; obtain ⟨x, hx, rfl⟩ := List.mem_map.mp ha; refine kQ ?_; clear kQ PQ)
  rw [Nat.beq_eq, List.countP_map]
  unfold rnk
  refine List.countP_congr fun y hy => ?_
  show _ ↔ Nat.blt (rnk L y) (rnk L x) = true
  rw [rnk_lt hy]
theorem ascR_pairwise {r : List Nat} : ∀ {p : List Nat}, ascR r p = true → p.Pairwise fun a b => r.getD a 0 ≤ r.getD b 0
  | [], _ => .nil
  | [a], _ => by simp
  | a :: b :: l, h => by
    unfold ascR at h
    rw [Bool.and_eq_true, Nat.ble_eq] at h
    have ih := ascR_pairwise h.2
    rw [List.pairwise_cons]
    refine ⟨fun z hz => ?_, ih⟩
    rcases List.mem_cons.mp hz with rfl | hz
    · exact h.1
    · rw [List.pairwise_cons] at ih
      exact Nat.le_trans h.1 (ih.1 z hz)
theorem map_getD_range {α : Type} (d : α) (L : List α) : (List.range L.length).map (L.getD · d) = L := by
  apply List.ext_getElem?
  intro i
  rw [List.getElem?_map]
  by_cases h : i < L.length
  · rw [List.getElem?_range h, List.getElem?_eq_getElem h]
    show some (L.getD i d) = _
    rw [List.getD_eq_getElem?_getD, List.getElem?_eq_getElem h]
    rfl
  · rw [List.getElem?_eq_none (by simpa using h), List.getElem?_eq_none (by simpa using h)]
    rfl
theorem sort_codes (L : List (List Nat)) (h2 : 2 ≤ L.length) (h5 : L.length ≤ 5) : ∃ p : Array Nat, runB L.length (fun i j => aheadN (L.getD i []) (L.getD j [])) (kas_sort L.length) = some p ∧ p.toList.map (L.getD · []) = insAll L ∧ ∀ i ∈ p.toList, i < L.length := by
  have hr : (L.map (rnk L)) ∈ allR L.length L.length := by
    have := mem_allR (m := L.length) (l := L.map (rnk L)) fun a ha => by
      (refine hide fun PQ kQ => ?_; obtain ⟨x, hx, rfl⟩ := List.mem_map.mp ha; refine kQ ?_; clear kQ PQ)
      exact rnk_bound hx
    rwa [List.length_map] at this
  have hok : srtOk L.length (L.map (rnk L)) = true := by
    have all : (allR L.length L.length).all (srtR L.length) = true := by
      have : L.length = 2 ∨ L.length = 3 ∨ L.length = 4 ∨ L.length = 5 := by omega
      rcases this with e | e | e | e <;> rw [e]
      · exact srt2
      · exact srt3
      · exact srt4
      · exact srt5
    have := List.all_eq_true.mp all _ hr
    unfold srtR at this
    rw [if_pos (isRank_rnk L)] at this
    exact this
  have hg : ∀ i, i < L.length → (L.map (rnk L)).getD i 0 = rnk L (L.getD i []) ∧ L.getD i [] ∈ L := by
    intro i hi
    rw [List.getD_eq_getElem?_getD, List.getD_eq_getElem?_getD, List.getElem?_map, List.getElem?_eq_getElem hi]
    exact ⟨rfl, List.getElem_mem hi⟩
  unfold srtOk at hok
  rw [runB_congr (lt' := fun i j => aheadN (L.getD i []) (L.getD j [])) (fun i j hi hj => by
    rw [(hg i hi).1, (hg j hj).1]
    exact rnk_lt (hg i hi).2)] at hok
  split at hok
  · rename_i p hp
    rw [Bool.and_eq_true] at hok
    have hperm := List.isPerm_iff.mp hok.1
    have hlt : ∀ i ∈ p.toList, i < L.length := fun i hi => List.mem_range.mp (hperm.mem_iff.mp hi)
    refine ⟨p, hp, sorted_unique ?_ ?_, hlt⟩
    · have := hperm.map (L.getD · [])
      rwa [map_getD_range] at this
    · unfold SortedN
      rw [List.pairwise_map]
      refine (ascR_pairwise hok.2).imp_of_mem ?_
      intro a b ha hb hab
      rw [(hg a (hlt a ha)).1, (hg b (hlt b hb)).1] at hab
      have := @rnk_lt L (L.getD b []) (L.getD a []) (hg b (hlt b hb)).2
      rw [← this]
      have h3 : ¬ (Nat.blt (rnk L (L.getD b [])) (rnk L (L.getD a [])) = true) := by rw [Nat.blt_eq]; omega
      exact eq_false_of_ne_true h3
  · cases hok
end Mine
end
section
open PySem PySem.Spec PySem.Calls PyProof.Rows PySem.W
set_option Elab.async false
set_option maxRecDepth 100000
set_option maxHeartbeats 4000000
namespace Mine
inductive RowsAt (led : List (Addr × Obj)) : List Value → List (List PySem.Str) → Prop
  | nil : RowsAt led [] []
  | cons {a : Addr} {wv : List Value} {nn : Nat} {rs : List PySem.Str} {vs : List Value} {ws : List (List PySem.Str)} (hm : (a, listOf wv.toArray nn) ∈ led) (hi : StrsAre wv rs) (r : RowsAt led vs ws) : RowsAt led (.ref a :: vs) (rs :: ws)
theorem RowsAt.mono {l l' : List (Addr × Obj)} (hs : ∀ q, q ∈ l → q ∈ l') : ∀ {vs : List Value} {ws : List (List PySem.Str)}, RowsAt l vs ws → RowsAt l' vs ws
  | _, _, .nil => .nil
  | _, _, .cons hm hi r => .cons (hs _ hm) hi (r.mono hs)
theorem RowsAt.length {l : List (Addr × Obj)} : ∀ {vs : List Value} {ws : List (List PySem.Str)}, RowsAt l vs ws → vs.length = ws.length
  | _, _, .nil => rfl
  | _, _, .cons _ _ r => congrArg (· + 1) r.length
theorem RowsAt.snoc {l : List (Addr × Obj)} {a : Addr} {wv : List Value} {nn : Nat} {rs : List PySem.Str} (hm : (a, listOf wv.toArray nn) ∈ l) (hi : StrsAre wv rs) : ∀ {vs : List Value} {ws : List (List PySem.Str)}, RowsAt l vs ws → RowsAt l (vs ++ [.ref a]) (ws ++ [rs])
  | _, _, .nil => .cons hm hi .nil
  | _, _, .cons h1 h2 r => .cons h1 h2 (r.snoc hm hi)
theorem RowsAt.at {l : List (Addr × Obj)} : ∀ {vs : List Value} {ws : List (List PySem.Str)} {i : Nat}, RowsAt l vs ws → i < ws.length → ∃ a wv nn, vs[i]? = some (.ref a) ∧ (a, listOf wv.toArray nn) ∈ l ∧ StrsAre wv (ws.getD i [])
  | _, _, _, .nil, h => absurd h (Nat.not_lt_zero _)
  | _, _, 0, .cons hm hi r, _ => ⟨_, _, _, rfl, hm, hi⟩
  | _, _, i + 1, .cons hm hi r, h => by
    (refine hide fun PQ kQ => ?_; obtain ⟨a, wv, nn, h1, h2⟩ := r.at (i := i) (by simpa using h); refine kQ ?_; clear kQ PQ)
    exact ⟨a, wv, nn, by simpa using h1, by simpa using h2⟩
theorem RowsAt.pick {l : List (Addr × Obj)} {vs : List Value} {ws : List (List PySem.Str)} (R : RowsAt l vs ws) : ∀ {p : List Nat}, (∀ i ∈ p, i < ws.length) → RowsAt l (p.map fun i => vs.getD i Value.none) (p.map fun i => ws.getD i [])
  | [], _ => .nil
  | i :: p, h => by
    (refine hide fun PQ kQ => ?_; obtain ⟨a, wv, nn, h1, h2, h3⟩ := R.at (h i (.head _)); refine kQ ?_; clear kQ PQ)
    rw [List.map_cons, List.map_cons]
    rw [show vs.getD i Value.none = .ref a by rw [List.getD_eq_getElem?_getD, h1]; rfl]
    exact .cons h2 h3 (R.pick fun j hj => h j (.tail _ hj))
theorem getD_map_map {f : Nat → PySem.Str} {Cs : List (List Nat)} (i : Nat) : (Cs.map fun c => c.map f).getD i [] = (Cs.getD i []).map f := by
  rw [List.getD_eq_getElem?_getD, List.getD_eq_getElem?_getD, List.getElem?_map]
  cases Cs[i]? <;> rfl
theorem getD_mem {Cs : List (List Nat)} {i : Nat} (h : i < Cs.length) : Cs.getD i [] ∈ Cs := by
  rw [List.getD_eq_getElem?_getD, List.getElem?_eq_getElem h]
  exact List.getElem_mem h
section
variable {prog : Program} {w : World} {A : Around} {E : Value → Shared → Prop} {s : Shared}
theorem sorted_rows {h₀ : Heap} {L l : Addr} {m : PySem.Str → Option Value} {news : List (Addr × Obj)} {vs : List Value} {nn : Nat} {Cs : List (List Nat)} {f : Nat → PySem.Str} {Q : Value → Shared → Prop} (F : Fr h₀ L s.heap m) (N : News h₀ L s.heap news) (hl : (l, listOf vs.toArray nn) ∈ news)
    (hR : RowsAt news vs (Cs.map fun c => c.map f)) (hf : ∀ a b, a ∈ Cs → b ∈ Cs → lexS (a.map f) (b.map f) = aheadN a b) (h5 : Cs.length ≤ 5) (hu : A.units + 4 < cLine)
    (h : ∀ D c vs' h', Fr h₀ L h' m → News h₀ L h' ((D, listOf vs'.toArray c) :: news) → (∀ q ∈ news, q.1 < D) → RowsAt news vs' ((insAll Cs).map fun c => c.map f) → Q (.ref D) { s with heap := h' }) :
    wpAny (model prog w) A (call (.builtin "sorted") [.ref l]) Q E s := by
  have hll : s.heap.IsList l vs.toArray := News.isList N hl
  have hlen : vs.length = Cs.length := by simpa using hR.length
  by_cases h2 : vs.length < 2
  · refine sorted_small F N hll h2 fun D c h' F' N' hlt => h D c vs h' F' N' hlt ?_
    have e : insAll Cs = Cs := by
      match Cs, hlen with
      | [], _ => rfl
      | [_], _ => rfl
      | _ :: _ :: _, hlen => simp only [List.length_cons] at hlen; omega
    rw [e]
    exact hR
  · (refine hide fun PQ kQ => ?_; obtain ⟨p, hp, hpm, hpl⟩ := sort_codes Cs (by omega) h5; refine kQ ?_; clear kQ PQ)
    have hwl : (Cs.map fun c => c.map f).length = Cs.length := List.length_map _
    refine kas_sorted (T := .type "list") F N hll (by omega) (by omega) (fun h' F' N' v hv => ?_) (by decide +kernel) (fun D e1 h' F' N' hlt => ?_)
    · (refine hide fun PQ kQ => ?_; obtain ⟨i, hi, hvi⟩ := List.getElem_of_mem hv; refine kQ ?_; clear kQ PQ)
      (refine hide fun PQ kQ => ?_; obtain ⟨a, wv, n1, h1, h3, _⟩ := hR.at (i := i) (by omega); refine kQ ?_; clear kQ PQ)
      rw [List.getElem?_eq_getElem hi, hvi] at h1
      cases h1
      exact (Looks.ld (N' _ h3).1).andThen .now
    · rw [hlen]
      refine runB_wp (n := Cs.length) (lt := fun i j => aheadN (Cs.getD i []) (Cs.getD j [])) (fun i j C hi hj hC => ?_) _ hp ?_
      · (refine hide fun PQ kQ => ?_; obtain ⟨a, av, n1, h1, h3, h4⟩ := hR.at (i := i) (by omega); refine kQ ?_; clear kQ PQ)
        (refine hide fun PQ kQ => ?_; obtain ⟨b, bv, n2, h1', h3', h4'⟩ := hR.at (i := j) (by omega); refine kQ ?_; clear kQ PQ)
        unfold kas_ask
        rw [show vs.getD i Value.none = .ref a by rw [List.getD_eq_getElem?_getD, h1]; rfl, show vs.getD j Value.none = .ref b by rw [List.getD_eq_getElem?_getD, h1']; rfl]
        have ha := (N' _ (.tail _ h3)).1
        have hb := (N' _ (.tail _ h3')).1
        have ei : (Cs.map fun c => c.map f).getD i [] = (Cs.getD i []).map f := getD_map_map i
        have ej : (Cs.map fun c => c.map f).getD j [] = (Cs.getD j []).map f := getD_map_map j
        rw [ei] at h4
        rw [ej] at h4'
        refine lt_lists (s := { s with heap := h' }) h4 h4' ha hb (by show A.units + 1 + 1 < cLine; omega) ?_
        rw [hf _ _ (getD_mem hi) (getD_mem hj)]
        exact hC
      · refine KasFin.intro (s := { s with heap := h' }) (g := fun o => (D, o) :: news) F' N' (.head fun q hq => Nat.ne_of_lt (hlt q hq)) (fun h'' c F'' N'' => ?_)
        refine h D c _ h'' F'' N'' hlt ?_
        rw [← hpm, List.map_map]
        have := hR.pick (p := p.toList) (fun i hi => by rw [hwl]; exact hpl i hi)
        have e : (p.toList.map fun i => (Cs.map fun c => c.map f).getD i []) = p.toList.map ((fun c => c.map f) ∘ fun x => Cs.getD x []) := List.map_congr_left fun i _ => getD_map_map i
        rw [e] at this
        exact this
end
end Mine
end
section
open PySem PySem.Spec PySem.Calls PyProof.Rows PySem.W
set_option Elab.async false
set_option maxRecDepth 100000
set_option maxHeartbeats 4000000
namespace Mine
noncomputable def sgn (m : Nat) : Nat := if m = 0 then 114 else if m = 1 then 98 else if m = 2 then 97 else 96
noncomputable def sgnS (m : Nat) : PySem.Str := ⟨#[sgn m]⟩
noncomputable def rowOf (lead w c : Nat) : PySem.Str := ⟨(List.replicate (lead + w * (c / 4)) 32 ++ [sgn (c % 4)]).toArray⟩
theorem sgn_pos (m : Nat) : 32 < sgn m ∧ sgn m < 128 := by
  unfold sgn
  split
  · omega
  split
  · omega
  split <;> omega
theorem sgn_lt {m k : Nat} (hm : m < 4) (hk : k < 4) : sgn m < sgn k ↔ k < m := by
  have h1 : m = 0 ∨ m = 1 ∨ m = 2 ∨ m = 3 := by omega
  have h2 : k = 0 ∨ k = 1 ∨ k = 2 ∨ k = 3 := by omega
  rcases h1 with rfl | rfl | rfl | rfl <;> rcases h2 with rfl | rfl | rfl | rfl <;> simp [sgn]
theorem sgn_inj {m k : Nat} (hm : m < 4) (hk : k < 4) (h : sgn m = sgn k) : m = k := by
  have h1 : m = 0 ∨ m = 1 ∨ m = 2 ∨ m = 3 := by omega
  have h2 : k = 0 ∨ k = 1 ∨ k = 2 ∨ k = 3 := by omega
  rcases h1 with rfl | rfl | rfl | rfl <;> rcases h2 with rfl | rfl | rfl | rfl <;> simp [sgn] at h ⊢
theorem rep_lt {c d : Nat} (hc : 32 < c) (hd : 32 < d) : ∀ (n k : Nat), (List.replicate n 32 ++ [c] < List.replicate k 32 ++ [d]) ↔ (k < n ∨ (n = k ∧ c < d))
  | 0, 0 => by
    simp only [List.replicate_zero, List.nil_append, List.cons_lt_cons_iff]
    simp
  | 0, k + 1 => by
    rw [List.replicate_succ, List.replicate_zero, List.nil_append, List.cons_append, List.cons_lt_cons_iff]
    constructor
    · rintro (h | ⟨h, _⟩) <;> omega
    · rintro (h | ⟨h, _⟩) <;> omega
  | n + 1, 0 => by
    rw [List.replicate_succ, List.replicate_zero, List.nil_append, List.cons_append, List.cons_lt_cons_iff]
    constructor
    · intro _; exact .inl (by omega)
    · intro _; exact .inl hd
  | n + 1, k + 1 => by
    rw [List.replicate_succ, List.replicate_succ, List.cons_append, List.cons_append, List.cons_lt_cons_iff, rep_lt hc hd n k]
    constructor
    · rintro (h | ⟨_, h⟩)
      · omega
      · omega
    · intro h
      exact .inr ⟨rfl, by omega⟩
theorem rowOf_lt {lead w a b : Nat} (hw : 1 ≤ w) : ((rowOf lead w a).cps.toList < (rowOf lead w b).cps.toList) ↔ b < a := by
  show (List.replicate _ 32 ++ [sgn (a % 4)] < List.replicate _ 32 ++ [sgn (b % 4)]) ↔ _
  rw [rep_lt (sgn_pos _).1 (sgn_pos _).1, sgn_lt (Nat.mod_lt _ (by decide)) (Nat.mod_lt _ (by decide))]
  have h1 : (lead + w * (b / 4) < lead + w * (a / 4)) ↔ b / 4 < a / 4 := by
    rw [Nat.add_lt_add_iff_left, Nat.mul_lt_mul_left (by omega)]
  have h2 : (lead + w * (a / 4) = lead + w * (b / 4)) ↔ a / 4 = b / 4 := by
    rw [Nat.add_left_cancel_iff, Nat.mul_right_inj (by omega)]
  rw [h1, h2]
  omega
theorem rowOf_inj {lead w a b : Nat} (hw : 1 ≤ w) (h : rowOf lead w a = rowOf lead w b) : a = b := by
  have h1 : ¬ b < a := fun q => by
    have := (rowOf_lt (lead := lead) hw).mpr q
    rw [h] at this
    exact List.lt_irrefl _ this
  have h2 : ¬ a < b := fun q => by
    have := (rowOf_lt (lead := lead) hw).mpr q
    rw [h] at this
    exact List.lt_irrefl _ this
  omega
theorem lexS_rowOf {lead w : Nat} (hw : 1 ≤ w) : ∀ (a b : List Nat), lexS (a.map (rowOf lead w)) (b.map (rowOf lead w)) = aheadN a b
  | [], [] => rfl
  | [], _ :: _ => rfl
  | _ :: _, [] => rfl
  | a :: as, b :: bs => by
    show (if rowOf lead w a = rowOf lead w b then lexS (as.map _) (bs.map _) else decide _) = if a = b then aheadN as bs else Nat.blt b a
    by_cases h : a = b
    · subst h
      rw [if_pos rfl, if_pos rfl, lexS_rowOf hw as bs]
    · rw [if_neg (fun q => h (rowOf_inj hw q)), if_neg h]
      rw [Bool.eq_iff_iff, decide_eq_true_eq, Nat.blt_eq, rowOf_lt hw]
theorem shift_rowOf (w c : Nat) : shiftR w (rowOf 0 w c) = rowOf 0 w (c + 4) := by
  unfold shiftR rowOf
  congr 2
  rw [show (c + 4) / 4 = c / 4 + 1 from Nat.add_div_right c (by decide), show (c + 4) % 4 = c % 4 from Nat.add_mod_right c 4, Nat.mul_succ]
  show List.replicate w 32 ++ (List.replicate (0 + w * (c / 4)) 32 ++ [sgn (c % 4)]) = _
  rw [← List.append_assoc, List.replicate_append_replicate]
  congr 2
  rw [Nat.zero_add, Nat.zero_add, Nat.add_comm]
theorem rowOf_lead (lead w c : Nat) : rowOf (lead + w) w c = rowOf lead w (c + 4) := by
  unfold rowOf
  rw [show (c + 4) / 4 = c / 4 + 1 from Nat.add_div_right c (by decide), show (c + 4) % 4 = c % 4 from Nat.add_mod_right c 4, Nat.mul_succ]
  congr 4
  rw [Nat.add_assoc, Nat.add_comm w]
theorem rowOf_mark {lead w m : Nat} (hm : m < 4) : rowOf lead w m = ⟨(List.replicate lead 32 ++ [sgn m]).toArray⟩ := by
  unfold rowOf
  rw [Nat.div_eq_of_lt hm, Nat.mod_eq_of_lt hm, Nat.mul_zero, Nat.add_zero]
theorem rowOf_root {w m : Nat} (hm : m < 4) : rowOf 0 w m = sgnS m := by
  rw [rowOf_mark hm]
  rfl
theorem rowOf_ne (w c : Nat) : (rowOf 0 w c) ≠ nilS := by
  intro h
  have : (rowOf 0 w c).cps.toList = nilS.cps.toList := by rw [h]
  simp [rowOf, nilS] at this
theorem partOf_lex (k : Nat) : ∀ (a b : List PySem.Str), (∀ r ∈ a, r ≠ nilS) → (∀ r ∈ b, r ≠ nilS) → ((partOf k (a ++ [nilS]) (b ++ [nilS])).elim false fun x => decide (x.2.1.cps.toList < x.2.2.cps.toList)) = lexS a b
  | [], [], _, _ => by
    simp [partOf, lexS]
  | [], y :: ys, _, hb => by
    have hy := hb y (.head _)
    simp only [List.nil_append, List.cons_append, partOf, lexS]
    rw [if_neg (Ne.symm hy)]
    show decide (nilS.cps.toList < y.cps.toList) = true
    rw [decide_eq_true_eq]
    have : y.cps.toList ≠ [] := fun q => hy (str_of_cps (by rw [q]; rfl))
    cases e : y.cps.toList with
    | nil => exact absurd e this
    | cons c cs => exact List.nil_lt_cons _ _
  | x :: xs, [], ha, _ => by
    have hx := ha x (.head _)
    simp only [List.nil_append, List.cons_append, partOf, lexS]
    rw [if_neg hx]
    show decide (x.cps.toList < nilS.cps.toList) = false
    rw [decide_eq_false_iff_not]
    exact List.not_lt_nil _
  | x :: xs, y :: ys, ha, hb => by
    simp only [List.cons_append, partOf, lexS]
    by_cases h : x = y
    · rw [if_pos h, if_pos h]
      exact partOf_lex (k + 1) xs ys (fun r hr => ha r (.tail _ hr)) (fun r hr => hb r (.tail _ hr))
    · rw [if_neg h, if_neg h]
      rfl
theorem aheadR_rowOf {w : Nat} (hw : 1 ≤ w) (a b : List Nat) : aheadR (a.map (rowOf 0 w)) (b.map (rowOf 0 w)) = aheadN a b := by
  unfold aheadR
  rw [partOf_lex 0 _ _ (fun r hr => ?_) (fun r hr => ?_), lexS_rowOf hw]
  · (refine hide fun PQ kQ => ?_; obtain ⟨c, _, rfl⟩ := List.mem_map.mp hr; refine kQ ?_; clear kQ PQ)
    exact rowOf_ne w c
  · (refine hide fun PQ kQ => ?_; obtain ⟨c, _, rfl⟩ := List.mem_map.mp hr; refine kQ ?_; clear kQ PQ)
    exact rowOf_ne w c
theorem insR_rowOf {w : Nat} (hw : 1 ≤ w) (x : List Nat) : ∀ l : List (List Nat), insR (x.map (rowOf 0 w)) (l.map fun c => c.map (rowOf 0 w)) = (insN x l).map fun c => c.map (rowOf 0 w)
  | [] => rfl
  | y :: ys => by
    rw [List.map_cons, insR_cons, aheadR_rowOf hw, insN_cons]
    by_cases h : aheadN y x = true
    · rw [if_pos h, if_pos h, insR_rowOf hw x ys]
      rfl
    · rw [if_neg h, if_neg h]
      rfl
theorem map_inj_rowOf {lead w : Nat} (hw : 1 ≤ w) : ∀ {a b : List Nat}, a.map (rowOf lead w) = b.map (rowOf lead w) → a = b
  | [], [], _ => rfl
  | [], _ :: _, h => by cases h
  | _ :: _, [], h => by cases h
  | a :: as, b :: bs, h => by
    rw [List.map_cons, List.map_cons, List.cons.injEq] at h
    rw [rowOf_inj hw h.1, map_inj_rowOf hw h.2]
theorem count_rowOf {w : Nat} (hw : 1 ≤ w) (x : List Nat) : ∀ l : List (List Nat), (l.map fun c => c.map (rowOf 0 w)).count (x.map (rowOf 0 w)) = l.count x
  | [] => rfl
  | y :: ys => by
    rw [List.map_cons, List.count_cons, List.count_cons, count_rowOf hw x ys]
    by_cases h : y = x
    · subst h; simp
    · have h1 : (y == x) = false := by rw [beq_eq_false_iff_ne]; exact h
      have h2 : (y.map (rowOf 0 w) == x.map (rowOf 0 w)) = false := by rw [beq_eq_false_iff_ne]; exact fun q => h (map_inj_rowOf hw q)
      rw [h1, h2]
noncomputable def kidsN (P : Nat → List Nat × Nat) (up : List Nat) (h : Nat) : Nat → List (List Nat) × Nat
  | 0 => ([], 1)
  | i + 1 => if up.getD (i + 1) 0 = h then stepK (kidsN P up h i) (P (i + 1)) else kidsN P up h i
noncomputable def pageN (up ms : List Nat) : Nat → Nat → List Nat × Nat
  | 0, _ => ([], 1)
  | f + 1, h => (ms.getD h 0 :: (kidsN (pageN up ms f) up h (up.length - 1)).1.flatten.map (· + 4), (kidsN (pageN up ms f) up h (up.length - 1)).2)
theorem pageS_N {up ms : List Nat} {w : Nat} (hw : 1 ≤ w) (hm : ms.length = up.length) (h4 : ∀ m ∈ ms, m < 4) : ∀ f h, pageS up (ms.map sgnS) w f h = ((pageN up ms f h).1.map (rowOf 0 w), (pageN up ms f h).2)
  | 0, _ => rfl
  | f + 1, h => by
    have kids : ∀ i, kidsS (pageS up (ms.map sgnS) w f) up h i = ((kidsN (pageN up ms f) up h i).1.map fun c => c.map (rowOf 0 w), (kidsN (pageN up ms f) up h i).2) := by
      intro i
      induction i with
      | zero => rfl
      | succ i ih =>
        unfold kidsS kidsN
        by_cases hu : up.getD (i + 1) 0 = h
        · rw [if_pos hu, if_pos hu, ih, pageS_N hw hm h4 f (i + 1)]
          unfold stepK
          dsimp only
          rw [insR_rowOf hw, count_rowOf hw]
        · rw [if_neg hu, if_neg hu, ih]
    unfold pageS pageN
    rw [kids]
    dsimp only
    have hmk : (ms.map sgnS).getD h rS = rowOf 0 w (ms.getD h 0) := by
      have hd : ms.getD h 0 < 4 := by
        rw [List.getD_eq_getElem?_getD]
        cases e : ms[h]? with
        | none => decide
        | some x => exact h4 x (List.mem_of_getElem? e)
      rw [rowOf_root hd, List.getD_eq_getElem?_getD, List.getD_eq_getElem?_getD, List.getElem?_map]
      cases ms[h]? <;> rfl
    rw [hmk]
    congr 1
    rw [List.map_cons]
    congr 1
    rw [List.map_map]
    have : ∀ l : List (List Nat), (l.map fun c => c.map (rowOf 0 w)).flatten.map (shiftR w) = l.flatten.map (rowOf 0 w ∘ (· + 4)) := by
      intro l
      rw [← List.map_flatten, List.map_map]
      exact List.map_congr_left fun c _ => shift_rowOf w c
    exact this _
end Mine
end
section
open PySem PySem.Spec PySem.Calls PyProof.Rows PySem.W
set_option Elab.async false
set_option maxRecDepth 100000
set_option maxHeartbeats 4000000
namespace Mine
noncomputable def popD (ds : List Nat) (d : Nat) : List Nat → List Nat
  | [] => []
  | t :: r => if ds.getD t 0 < d then t :: r else popD ds d r
noncomputable def rdSt (ds : List Nat) : Nat → Option (List Nat × List Nat)
  | 0 => some ([0], [0])
  | k + 1 => match rdSt ds k with
    | none => none
    | some (up, pile) => match popD ds (ds.getD (k + 1) 0) pile with
      | [] => none
      | t :: r => some (up ++ [t], (k + 1) :: t :: r)
theorem popD_sub {ds : List Nat} {d : Nat} : ∀ {p : List Nat}, ∀ t ∈ popD ds d p, t ∈ p
  | [], t, h => h
  | a :: r, t, h => by
    unfold popD at h
    split at h
    · exact h
    · exact .tail _ (popD_sub t h)
theorem rdSt_succ {ds : List Nat} {k : Nat} {up pile : List Nat} (h : rdSt ds k = some (up, pile)) : rdSt ds (k + 1) = match popD ds (ds.getD (k + 1) 0) pile with | [] => none | t :: r => some (up ++ [t], (k + 1) :: t :: r) := by
  unfold rdSt
  rw [h]
theorem rdSt_pile {ds : List Nat} : ∀ {k : Nat} {up pile : List Nat}, rdSt ds k = some (up, pile) → up.length = k + 1 ∧ ∀ t ∈ pile, t ≤ k
  | 0, up, pile, h => by
    cases h
    simp
  | k + 1, up, pile, h => by
    cases e : rdSt ds k with
    | none => unfold rdSt at h; rw [e] at h; cases h
    | some x =>
      obtain ⟨up', pile'⟩ := x
      rw [rdSt_succ e] at h
      obtain ⟨h1, h2⟩ := rdSt_pile e
      cases e2 : popD ds (ds.getD (k + 1) 0) pile' with
      | nil => rw [e2] at h; cases h
      | cons t r =>
        rw [e2] at h
        cases h
        refine ⟨by simp [h1], fun z hz => ?_⟩
        rcases List.mem_cons.mp hz with rfl | hz
        · exact Nat.le_refl _
        · exact Nat.le_succ_of_le (h2 z (popD_sub z (e2 ▸ hz)))
noncomputable def intsN (l : List Nat) : List Int := l.map fun (k : Nat) => (k : Int)
theorem intsN_length (l : List Nat) : (intsN l).length = l.length := by simp [intsN]
theorem intsN_snoc (l : List Nat) (t : Nat) : intsN (l ++ [t]) = intsN l ++ [(t : Int)] := by simp [intsN]
theorem ints_snoc {n : Int} {t : Tok} : ∀ {vs : List Value} {ns : List Int}, IntsAre vs ns → IntsAre (vs ++ [.int n t]) (ns ++ [n])
  | _, _, .nil => .cons n t .nil
  | _, _, .cons k t' r => .cons k t' (ints_snoc r)
theorem intsN_getD (l : List Nat) (k : Nat) : (intsN l).getD k 0 = ((l.getD k 0 : Nat) : Int) := by
  unfold intsN
  rw [List.getD_eq_getElem?_getD, List.getD_eq_getElem?_getD, List.getElem?_map]
  cases l[k]? <;> rfl
theorem mid3 {α : Type} {q a b c : α} {tl news : List α} (h : q ∈ a :: b :: c :: (tl ++ news)) : q ∈ tl ++ a :: b :: c :: news := by
  simp only [List.mem_cons, List.mem_append] at h ⊢
  rcases h with rfl | rfl | rfl | h | h <;> simp [*]
structure RdC where
  up : List Nat
  pile : List Nat
  uv : List Value
  pv : List Value
  lv : List Value
  un : Nat
  pn : Nat
  ln : Nat
  wn : List (Addr × Obj)
structure RdOk (P : Params) (ds : List Nat) (UP PL LD : Addr) (i : Nat) (c : RdC) : Prop where
  st : rdSt ds i = some (c.up, c.pile)
  uI : IntsAre c.uv (intsN c.up)
  pI : IntsAre c.pv (intsN c.pile.reverse)
  ll : c.lv.length = i + 1
  at_ : ∀ j, j ≤ i → ∃ x, c.lv[j]? = some (.ref x) ∧ WsAt P c.wn x (ds.getD j 0)
  off : ∀ p ∈ c.wn, UP < p.1 ∧ PL < p.1 ∧ p.1 ≠ LD
theorem rd_ret {α : Type} {q a b c d : α} {wn news : List α} (h : q ∈ c :: wn ++ news) : q ∈ a :: b :: c :: d :: (wn ++ news) := by
  simp only [List.mem_cons, List.mem_append] at h ⊢
  rcases h with (rfl | h) | h <;> simp [*]
theorem rd_turn {α : Type} {it a b c d : α} {tl wn news : List α} : ∀ q, q ∈ it :: a :: b :: c :: d :: ((wn ++ tl) ++ news) → q ∈ tl ++ it :: a :: b :: c :: d :: (wn ++ news) := by
  repeat' (first | exact sub_nil | refine sub_cons ?_ ?_ | refine sub_app ?_ ?_ | (intro q hq; (repeat (first | assumption | exact .head _ | exact List.mem_append_left _ (by assumption) | refine List.Mem.tail _ ?_ | refine List.mem_append_right _ ?_))))
  all_goals (repeat (first | assumption | exact .head _ | exact List.mem_append_left _ (by assumption) | refine List.Mem.tail _ ?_ | refine List.mem_append_right _ ?_))
theorem News.to {h₀ h : Heap} {L : Addr} {l l' : List (Addr × Obj)} (N : News h₀ L h l) (hs : ∀ q, q ∈ l' → q ∈ l) : News h₀ L h l' := fun q hq => N q (hs q hq)
theorem ints_getElem : ∀ {vs : List Value} {ns : List Int} {k : Nat}, IntsAre vs ns → k < ns.length → ∃ t, vs[k]? = some (.int (ns.getD k 0) t)
  | _, _, _, .nil, h => absurd h (Nat.not_lt_zero _)
  | _, _, 0, .cons k t r, _ => ⟨t, rfl⟩
  | _, _, k + 1, .cons a t r, h => by
    obtain ⟨u, hu⟩ := ints_getElem (k := k) r (by simpa using h)
    exact ⟨u, by simpa using hu⟩
theorem ints_dropLast {vs : List Value} {ns : List Int} (h : IntsAre vs ns) : IntsAre vs.dropLast ns.dropLast := by
  induction h with
  | nil => exact .nil
  | cons a t r ih =>
    cases r with
    | nil => exact .nil
    | cons b u r => exact .cons a t ih
theorem pile_top {pv : List Value} {y : Nat} {pile : List Nat} (h : IntsAre pv (intsN (y :: pile).reverse)) : ∃ t, pv[pile.length]? = some (.int (y : Int) t) ∧ pv.length = pile.length + 1 ∧ IntsAre pv.dropLast (intsN pile.reverse) := by
  rw [List.reverse_cons, intsN_snoc] at h
  have hl : pv.length = pile.length + 1 := by
    have := h.length
    simpa [intsN] using this
  obtain ⟨t, ht⟩ := ints_getElem (k := pile.length) h (by simp [intsN])
  refine ⟨t, ?_, hl, ?_⟩
  · rw [ht]
    simp [intsN, List.getD_eq_getElem?_getD]
  · have := ints_dropLast h
    rwa [List.dropLast_concat] at this
theorem seqIdx_last (n : Nat) : seqIndex? (-1) (n + 1) = some n := by
  rw [seqIndex_neg (by decide) (by omega)]
  congr 1
  omega
theorem rd_in {α : Type} {q : α} {rest wn tl news : List α} (h : q ∈ wn) : q ∈ rest ++ ((wn ++ tl) ++ news) := List.mem_append_right _ (List.mem_append_left _ (List.mem_append_left _ h))
theorem rd_in2 {α : Type} {q : α} {rest wn tl news : List α} (h : q ∈ tl) : q ∈ rest ++ ((wn ++ tl) ++ news) := List.mem_append_right _ (List.mem_append_left _ (List.mem_append_right _ h))
theorem WsAt.mono {P : Params} {l l' : List (Addr × Obj)} {x : Addr} {n : Int} (h : WsAt P l x n) (hs : ∀ q, q ∈ l → q ∈ l') : WsAt P l' x n := by
  (refine hide fun PQ kQ => ?_; obtain ⟨dx, raw, norm, k1, k2, k3, k4, k5, t1, t2, ep, h1, h2⟩ := h; refine kQ ?_; clear kQ PQ)
  exact ⟨dx, raw, norm, k1, k2, k3, k4, k5, t1, t2, ep, hs _ h1, hs _ h2⟩
theorem popD_len {ds : List Nat} {d : Nat} : ∀ {p : List Nat}, (popD ds d p).length ≤ p.length
  | [] => Nat.le_refl _
  | a :: r => by
    unfold popD
    split
    · exact Nat.le_refl _
    · exact Nat.le_succ_of_le popD_len
theorem rdSt_len {ds : List Nat} : ∀ {k : Nat} {up pile : List Nat}, rdSt ds k = some (up, pile) → pile.length ≤ k + 1
  | 0, up, pile, h => by
    cases h
    simp
  | k + 1, up, pile, h => by
    cases e : rdSt ds k with
    | none => unfold rdSt at h; rw [e] at h; cases h
    | some x =>
      obtain ⟨up', pile'⟩ := x
      rw [rdSt_succ e] at h
      have h1 := rdSt_len e
      have h2 := @popD_len ds (ds.getD (k + 1) 0) pile'
      cases e2 : popD ds (ds.getD (k + 1) 0) pile' with
      | nil => rw [e2] at h; cases h
      | cons t r =>
        rw [e2] at h h2
        cases h
        simp only [List.length_cons] at h2 ⊢
        omega
theorem append_L {prog : Program} {w : World} {A : Around} {E : Value → Shared → Prop} {s : Shared} {h₀ : Heap} {L D : Addr} {m : PySem.Str → Option Value} {news news' : List (Addr × Obj)} {vs : List Value} {n : Nat} {x : Value} {Q : Value → Shared → Prop} (F : Fr h₀ L s.heap m) (N : News h₀ L s.heap news)
    (U : Upd D (listOf vs.toArray n) (listOf (vs ++ [x]).toArray (n + 1)) news news') (h : ∀ h', Fr h₀ L h' m → News h₀ L h' news' → Q .none { s with heap := h' }) (hz : vs.length ≤ 2 ^ 20) : wpAny (model prog w) A (call (.builtin "list.append") [.ref D, x]) Q E s := by
  have e : vs.toArray.push x = (vs ++ [x]).toArray := by simp
  refine append_K (its := vs.toArray) (n := n) (news' := news') F N (by rw [e]; exact U) h ?_
  rw [List.size_toArray]
  exact Nat.le_trans hz (by decide)
end Mine
end
section
open PySem PySem.Spec PySem.Calls PyProof.Rows PySem.W
set_option Elab.async false
set_option maxRecDepth 100000
set_option maxHeartbeats 4000000
namespace Mine
section
variable {prog : Program} {w : World} {A : Around} {s : Shared} {env : Env} {h₀ : Heap} {E : Value → Shared → Prop} {Q : Flow → Shared → Prop}
theorem for_walksT {σ : Type} {x : PySem.Str} {px : Pos} {body : List Stmt} {I : Addr} {ax : List (Addr × Obj)} {n : Nat} {Pv : Nat → Value → Prop} {St : Nat → Heap → Prop} {m : PySem.Str → Option Value} {oi : Obj}
    (Gd : Heap → Prop) (Led : σ → List (Addr × Obj)) (ps : σ → List (PySem.Str × Value)) (P : Nat → σ → Prop) (c₀ : σ)
    (W : Walks prog w A I (I :: ax.map (·.1)) [I] n Pv St) (hSt : ∀ i h, St i h → ∃ o, h.get? I = some o) (hax : ∀ c, ∀ p ∈ ax, p ∈ Led c)
    (hst : St 0 s.heap) (G : Gd h₀) (F : Fr h₀ env.locals s.heap m) (N : News h₀ env.locals s.heap ((I, oi) :: Led c₀)) (hI : ∀ p ∈ Led c₀, p.1 ≠ I)
    (hp : Says m (ps c₀)) (h0 : P 0 c₀)
    (turn : ∀ i c h₁ h tk v o (u : PySem.Str → Option Value), i < n → P i c → Gd h₁ → Pv i v → Fr h₁ env.locals h (kstB u (ps c)) → News h₁ env.locals h ((I, o) :: Led c) → (∀ p ∈ Led c, p.1 ≠ I) →
      wpAny (model prog w) A (assign (.Name x px) env v) (fun _ s₂ => wpAny (model prog w) A (execs body env) (TurnPost Gd env.locals Led ps (P (i + 1)) [(I, o)] s Q) E s₂) E { s with heap := h, toks := tk })
    (done : ∀ c h₁ h tk (u : PySem.Str → Option Value), P n c → Gd h₁ → Fr h₁ env.locals h (kstB u (ps c)) → News h₁ env.locals h (Led c) → Q .next { s with heap := h, toks := tk })
    (hE : PassesOwn (model prog w) A env E) :
    codeAny (model prog w) A (.forLoop (.Name x px) (.ref I) body [] env) (fun r s' => match r with | .ok f => Q f s' | .error e => cameBackBy (model prog w) A env E e s') s := by
  refine codeAny_forLoop
    (fun k s' => ∃ i c h₁ h m₁ tk o, s' = { s with heap := h, toks := tk } ∧ Gd h₁ ∧ St i h ∧ Fr h₁ env.locals h m₁ ∧ News h₁ env.locals h ((I, o) :: Led c) ∧ (∀ p ∈ Led c, p.1 ≠ I) ∧ Says m₁ (ps c) ∧ P i c ∧ i ≤ n ∧ k = n - i) ?_ n
    ⟨0, c₀, h₀, s.heap, m, s.toks, oi, rfl, G, hst, F, N, hI, hp, h0, Nat.zero_le _, rfl⟩
  (intro k s' hQ21; refine hide fun PQ kQ => ?_; obtain ⟨i, c, h₁, h, m₁, tk, o, rfl, G', hst', F', N', hI', hp', hP, hi, rfl⟩ := hQ21; refine kQ ?_; clear kQ PQ)
  have hIo : h.get? I = some o := (N' _ (.head _)).1
  have hIL : I ≠ env.locals := (N' _ (.head _)).2.1
  have hIg : h₁.get? I = none := (N' _ (.head _)).2.2
  have next : ∀ h₂ : Heap, (∀ b o, b ∉ [I] → h.get? b = some o → h₂.get? b = some o) → Fr h₁ env.locals h₂ m₁ ∧ News h₁ env.locals h₂ (Led c) := fun h₂ hk => by
    have ne : ∀ b, b ≠ I → b ∉ [I] := fun b hb q => hb (List.mem_singleton.mp q)
    refine ⟨⟨F'.ns.at' fun o e => hk _ o (ne _ (Ne.symm hIL)) e, fun b o e => hk b o (ne _ fun q => by rw [q, hIg] at e; cases e) (F'.keep b o e), F'.above⟩, fun p hp => ?_⟩
    have := N' p (.tail _ hp)
    exact ⟨hk _ _ (ne _ (hI' p hp)) this.1, this.2⟩
  by_cases hlt : i < n
  · refine W.item i _ _ _ hlt hst' fun v h₂ tk₂ hPv hst₂ hk₂ => ?_
    obtain ⟨F₂, N₂⟩ := next h₂ hk₂
    obtain ⟨o₂, hI₂⟩ := hSt _ _ hst₂
    have NN : News h₁ env.locals h₂ ((I, o₂) :: Led c) := fun p hp => by
      rcases List.mem_cons.mp hp with rfl | hp
      · exact ⟨hI₂, hIL, hIg⟩
      · exact N₂ p hp
    have FF : Fr h₁ env.locals h₂ (kstB m₁ (ps c)) := by
      rw [← kstB_over hp'.all]; exact F₂
    refine wpAny_mono (turn i c h₁ h₂ _ v o₂ m₁ hlt hP G' hPv FF NN hI') (fun _ s₂ h₂' => ?_) hE
    refine wpAny_mono h₂' (fun f s₃ h₃' => ?_) hE
    have fin : Turned Gd env.locals Led ps (P (i + 1)) [(I, o₂)] s s₃ → ∃ k', k' < n - i ∧ ∃ i c h₁ h m₁ tk o, s₃ = { s with heap := h, toks := tk } ∧ Gd h₁ ∧ St i h ∧ Fr h₁ env.locals h m₁ ∧ News h₁ env.locals h ((I, o) :: Led c) ∧ (∀ p ∈ Led c, p.1 ≠ I) ∧ Says m₁ (ps c) ∧ P i c ∧ i ≤ n ∧ k' = n - i := by
      (intro hQ43; refine hide fun PQ kQ => ?_; obtain ⟨c', h₂', m₂, h', tk', rfl, G₂, F₄, N₄, off, hp₄, hP₄⟩ := hQ43; refine kQ ?_; clear kQ PQ)
      refine ⟨n - (i + 1), by omega, i + 1, c', h₂', h', m₂, tk', o₂, rfl, G₂, ?_, F₄, N₄, fun q hq => off _ (.head _) q hq, hp₄, hP₄, hlt, rfl⟩
      refine W.frame _ _ _ hst₂ fun b hb o e => ?_
      rcases List.mem_cons.mp hb with rfl | hb
      · rw [hI₂] at e; cases e; exact (N₄ _ (.head _)).1
      · (refine hide fun PQ kQ => ?_; obtain ⟨p, hp, rfl⟩ := List.mem_map.mp hb; refine kQ ?_; clear kQ PQ)
        have e1 := (NN p (.tail _ (hax c p hp))).1
        rw [e1] at e; cases e
        exact (N₄ p (.tail _ (hax c' p hp))).1
    cases f with
    | ret v => exact h₃'
    | brk => exact h₃'
    | next => exact fin h₃'
    | cont => exact fin h₃'
  · have hin : i = n := by omega
    subst hin
    refine W.done _ _ _ hst' fun h₂ tk₂ hk₂ => wpAny_execs_nil ?_
    obtain ⟨F₂, N₂⟩ := next h₂ hk₂
    refine done c h₁ h₂ tk₂ m₁ hP G' ?_ N₂
    rw [← kstB_over hp'.all]; exact F₂
theorem for_rangeT {σ : Type} {x : PySem.Str} {px : Pos} {body : List Stmt} {m : PySem.Str → Option Value} {r : Addr} {a b : Int} {t₀ u₀ v₀ : Tok} {n : Nat}
    (Gd : Heap → Prop) (Led : σ → List (Addr × Obj)) (ps : σ → List (PySem.Str × Value)) (P : Nat → σ → Prop) (c₀ : σ)
    (hr : IsRange s.heap r a b 1 t₀ u₀ v₀) (hsmall : Builtin.Range.small a b 1 = true) (hn : Builtin.Range.rangeSize a b 1 = (n : Int)) (hh : A.handled = none)
    (G : Gd h₀) (F : Fr h₀ env.locals s.heap m) (N : News h₀ env.locals s.heap (Led c₀))
    (hp : Says m (ps c₀)) (h0 : P 0 c₀)
    (turn : ∀ i c h₁ h tk t it o (u : PySem.Str → Option Value), i < n → P i c → Gd h₁ → Fr h₁ env.locals h (kstB u (ps c)) → News h₁ env.locals h ((it, o) :: Led c) → (∀ p ∈ Led c, p.1 ≠ it) →
      wpAny (model prog w) A (assign (.Name x px) env (.int (a + (i : Int)) t)) (fun _ s₂ => wpAny (model prog w) A (execs body env) (TurnPost Gd env.locals Led ps (P (i + 1)) [(it, o)] s Q) E s₂) E { s with heap := h, toks := tk })
    (done : ∀ c h₁ h tk (u : PySem.Str → Option Value), P n c → Gd h₁ → Fr h₁ env.locals h (kstB u (ps c)) → News h₁ env.locals h (Led c) → Q .next { s with heap := h, toks := tk })
    (hE : PassesOwn (model prog w) A env E) :
    wpAny (model prog w) A (pyIter (.ref r)) (fun it s₂ => codeAny (model prog w) A (.forLoop (.Name x px) it body [] env) (fun r s' => match r with | .ok f => Q f s' | .error e => cameBackBy (model prog w) A env E e s') s₂) E s := by
  refine wpAny_pyIter_range hr hsmall ?_
  have N' := News.push F N { cls := .type "range_iterator", data := .fields #[rawInt a, rawInt (Builtin.Range.rangeSize a b 1), rawInt 1] }
  refine for_walksT (s := { s with heap := _ }) (ax := []) Gd Led ps P c₀ (Walks.range hh s.heap.objs.size a 1 n) (fun _ _ h => ⟨_, h⟩) (fun _ p hp => nomatch hp) ?_ G (F.push _) N' (fun p hp => Nat.ne_of_lt (Heap.lt_size (N p hp).1)) hp h0 ?_ done hE
  · show IsRangeIter _ _ _ _ _
    rw [hn]
    simpa using Heap.get?_push_size _ rfl
  · rintro i c h₁ h tk v o u hi hP G' ⟨t, rfl⟩ F' N'' hI
    rw [Int.mul_one]
    exact turn i c h₁ h tk t _ o u hi hP G' F' N'' hI
end
end Mine
end
section
open PySem PySem.Spec PySem.Calls PyProof.Rows PySem.W
set_option Elab.async false
set_option maxRecDepth 100000
set_option maxHeartbeats 4000000
namespace Mine
noncomputable def stepW {α : Type} [DecidableEq α] (d : α) (up : List Nat) (marks : List α) (others : List Nat) (signs : List α) (k : Nat) (way : List Nat) (n : Nat) : List (List Nat) :=
  ((List.range' 1 n).filter fun y => decide (others.getD y 0 = way.getD (up.getD k 0) 0) && decide (signs.getD y d = marks.getD k d) && decide (y ∉ way)).map fun y => way ++ [y]
noncomputable def waysL {α : Type} [DecidableEq α] (d : α) (up : List Nat) (marks : List α) (others : List Nat) (signs : List α) : Nat → List (List Nat)
  | 0 => [[0]]
  | k + 1 => (waysL d up marks others signs k).flatMap fun way => stepW d up marks others signs (k + 1) way (others.length - 1)
theorem stepW_length {α : Type} [DecidableEq α] {d : α} {up : List Nat} {marks : List α} {others : List Nat} {signs : List α} {k n : Nat} {way : List Nat} : (stepW d up marks others signs k way n).length ≤ n := by
  unfold stepW
  rw [List.length_map]
  refine Nat.le_trans (List.length_filter_le _ _) ?_
  simp
theorem stepW_succ {α : Type} [DecidableEq α] {d : α} {up : List Nat} {marks : List α} {others : List Nat} {signs : List α} {k n : Nat} {way : List Nat} :
    stepW d up marks others signs k way (n + 1) = stepW d up marks others signs k way n ++ if others.getD (1 + n) 0 = way.getD (up.getD k 0) 0 ∧ signs.getD (1 + n) d = marks.getD k d ∧ (1 + n) ∉ way then [way ++ [1 + n]] else [] := by
  unfold stepW
  rw [List.range'_concat, List.filter_append, List.map_append]
  congr 1
  simp only [Nat.one_mul, List.filter_cons, List.filter_nil]
  by_cases h1 : others.getD (1 + n) 0 = way.getD (up.getD k 0) 0 <;> by_cases h2 : signs.getD (1 + n) d = marks.getD k d <;> by_cases h3 : (1 + n) ∈ way <;> simp only [h1, h2, h3, decide_true, decide_false, not_true_eq_false, not_false_eq_true, Bool.and_true, Bool.and_false, Bool.true_and, Bool.false_and, if_true, if_false, and_true, true_and, and_false, false_and, List.map_cons, List.map_nil] <;> rfl
theorem flatMap_bound {α β : Type} {f : α → List β} {b : Nat} : ∀ {l : List α}, (∀ x ∈ l, (f x).length ≤ b) → (l.flatMap f).length ≤ l.length * b
  | [], _ => by simp
  | x :: l, h => by
    have := flatMap_bound (f := f) (l := l) fun y hy => h y (.tail _ hy)
    have := h x (.head _)
    rw [List.flatMap_cons, List.length_append, List.length_cons, Nat.succ_mul]
    omega
theorem waysL_length {α : Type} [DecidableEq α] {d : α} {up : List Nat} {marks : List α} {others : List Nat} {signs : List α} : ∀ k, (waysL d up marks others signs k).length ≤ (others.length - 1) ^ k
  | 0 => Nat.le_refl _
  | k + 1 => by
    have h1 := @waysL_length α _ d up marks others signs k
    have h2 := flatMap_bound (l := waysL d up marks others signs k) (f := fun way => stepW d up marks others signs (k + 1) way (others.length - 1)) (b := others.length - 1) fun _ _ => stepW_length
    rw [Nat.pow_succ]
    exact Nat.le_trans h2 (Nat.mul_le_mul_right _ h1)
theorem waysL_way {α : Type} [DecidableEq α] {d : α} {up : List Nat} {marks : List α} {others : List Nat} {signs : List α} : ∀ k, ∀ f ∈ waysL d up marks others signs k, f.length = k + 1
  | 0, f, h => by
    rw [List.mem_singleton.mp h]
    rfl
  | k + 1, f, h => by
    (refine hide fun PQ kQ => ?_; obtain ⟨way, hw, hf⟩ := List.mem_flatMap.mp h; refine kQ ?_; clear kQ PQ)
    unfold stepW at hf
    (refine hide fun PQ kQ => ?_; obtain ⟨y, _, rfl⟩ := List.mem_map.mp hf; refine kQ ?_; clear kQ PQ)
    rw [List.length_append, waysL_way k way hw]
    rfl
inductive WaysAt (led : List (Addr × Obj)) : List Value → List (List Nat) → Prop
  | nil : WaysAt led [] []
  | cons {a : Addr} {wv : List Value} {nn : Nat} {way : List Nat} {vs : List Value} {ws : List (List Nat)} (hm : (a, listOf wv.toArray nn) ∈ led) (hi : IntsAre wv (intsN way)) (r : WaysAt led vs ws) : WaysAt led (.ref a :: vs) (way :: ws)
theorem WaysAt.mono {l l' : List (Addr × Obj)} (hs : ∀ q, q ∈ l → q ∈ l') : ∀ {vs : List Value} {ws : List (List Nat)}, WaysAt l vs ws → WaysAt l' vs ws
  | _, _, .nil => .nil
  | _, _, .cons hm hi r => .cons (hs _ hm) hi (r.mono hs)
theorem WaysAt.length {l : List (Addr × Obj)} : ∀ {vs : List Value} {ws : List (List Nat)}, WaysAt l vs ws → vs.length = ws.length
  | _, _, .nil => rfl
  | _, _, .cons _ _ r => congrArg (· + 1) r.length
theorem WaysAt.snoc {l : List (Addr × Obj)} {a : Addr} {wv : List Value} {nn : Nat} {way : List Nat} (hm : (a, listOf wv.toArray nn) ∈ l) (hi : IntsAre wv (intsN way)) : ∀ {vs : List Value} {ws : List (List Nat)}, WaysAt l vs ws → WaysAt l (vs ++ [.ref a]) (ws ++ [way])
  | _, _, .nil => .cons hm hi .nil
  | _, _, .cons h1 h2 r => .cons h1 h2 (r.snoc hm hi)
theorem WaysAt.at {l : List (Addr × Obj)} : ∀ {vs : List Value} {ws : List (List Nat)} {i : Nat} {v : Value}, WaysAt l vs ws → vs[i]? = some v → ∃ a wv nn way, v = .ref a ∧ ws[i]? = some way ∧ (a, listOf wv.toArray nn) ∈ l ∧ IntsAre wv (intsN way)
  | _, _, i, v, .nil, h => by simp at h
  | _, _, 0, v, .cons hm hi r, h => by
    cases h
    exact ⟨_, _, _, _, rfl, rfl, hm, hi⟩
  | _, _, i + 1, v, .cons hm hi r, h => by
    (refine hide fun PQ kQ => ?_; obtain ⟨a, wv, nn, way, h1, h2, h3⟩ := r.at (i := i) (v := v) (by simpa using h); refine kQ ?_; clear kQ PQ)
    exact ⟨a, wv, nn, way, h1, by simpa using h2, h3⟩
theorem flatMap_take {α β : Type} {f : α → List β} {l : List α} {i : Nat} {x : α} (h : l[i]? = some x) : (l.take (i + 1)).flatMap f = (l.take i).flatMap f ++ f x := by
  obtain ⟨hi, rfl⟩ := List.getElem?_eq_some_iff.mp h
  rw [List.take_succ_eq_append_getElem hi, List.flatMap_append]
  simp
theorem wy_in {α : Type} {q a b c d e : α} {news : List α} (h : q ∈ news) : q ∈ a :: b :: c :: d :: e :: news := .tail _ (.tail _ (.tail _ (.tail _ (.tail _ h))))
theorem wy_rest2 {α : Type} {q a b c d e f g h : α} {made news : List α} (hq : q ∈ a :: b :: c :: d :: e :: f :: g :: h :: news) : q ∈ a :: b :: c :: d :: e :: f :: g :: h :: (made ++ news) := by
  simp only [List.mem_cons, List.mem_append] at hq ⊢
  rcases hq with rfl | rfl | rfl | rfl | rfl | rfl | rfl | rfl | hq <;> simp [*]
theorem News.pre {h₀ h : Heap} {L : Addr} {l f : List (Addr × Obj)} (N : News h₀ L h l) (hf : ∀ q ∈ f, q ∈ l) : News h₀ L h (f ++ l) := fun q hq => (List.mem_append.mp hq).elim (fun z => N q (hf q z)) fun z => N q z
noncomputable def wyFront (L : Addr) (ok o2 o3 o4 o5 : Obj) (a b c d e : Addr × Obj) : List (Addr × Obj) := [e, a, b, c, d, (L + 1 + 1 + 1 + 1, ok), (L + 1 + 1 + 1, o2), (L + 1 + 1, o3), (L + 1, o4), (L, o5)]
theorem front10 {α : Type} {a b c d e f g h i j it wl : α} {cc made news : List α} (he : e ∈ made) : ∀ q ∈ [e, a, b, c, d, f, g, h, i, j], q ∈ cc ++ (it :: f :: wl :: a :: b :: c :: d :: g :: h :: i :: j :: (made ++ news)) := by
  repeat' (first | exact sub_nil | refine sub_cons ?_ ?_ | refine sub_app ?_ ?_ | (intro q hq; (repeat (first | assumption | exact .head _ | exact List.mem_append_left _ (by assumption) | refine List.Mem.tail _ ?_ | refine List.mem_append_right _ ?_))))
  all_goals (repeat (first | assumption | exact .head _ | exact List.mem_append_left _ (by assumption) | refine List.Mem.tail _ ?_ | refine List.mem_append_right _ ?_))
theorem wy_front {L : Addr} {ok o2 o3 o4 o5 : Obj} {a b c d e it wl : Addr × Obj} {cc made news : List (Addr × Obj)} (he : e ∈ made) : ∀ q ∈ wyFront L ok o2 o3 o4 o5 a b c d e, q ∈ cc ++ (it :: (L + 1 + 1 + 1 + 1, ok) :: wl :: a :: b :: c :: d :: (L + 1 + 1 + 1, o2) :: (L + 1 + 1, o3) :: (L + 1, o4) :: (L, o5) :: (made ++ news)) := front10 he
theorem any_intsN (y : Nat) : ∀ l : List Nat, ((intsN l).any fun x => x == (1 + (y : Int))) = decide ((1 + y) ∈ l)
  | [] => rfl
  | a :: l => by
    have ih := any_intsN y l
    unfold intsN at ih ⊢
    rw [List.map_cons, List.any_cons, ih]
    by_cases h : 1 + y = a
    · subst h
      simp
    · have h1 : (((a : Nat) : Int) == (1 + (y : Int))) = false := by
        rw [beq_eq_false_iff_ne]
        omega
      rw [h1]
      simp [h]
theorem wy_deep {α : Type} {q l a b c d e f g h i j k : α} {r : List α} (hq : q ∈ r) : q ∈ l :: a :: b :: c :: d :: e :: f :: g :: h :: i :: j :: k :: r := by
  simp only [List.mem_cons]
  simp [hq]
theorem wy_split {α : Type} {q x a b c d : α} {cc r : List α} (h : q ∈ a :: b :: c :: d :: ((cc ++ [x]) ++ r)) : q = x ∨ q ∈ a :: b :: c :: d :: (cc ++ r) := by
  simp only [List.mem_cons, List.mem_append, List.not_mem_nil, or_false] at h ⊢
  rcases h with rfl | rfl | rfl | rfl | (h | rfl) | h <;> simp [*]
theorem wy_split2 {α : Type} {q x a : α} {cc r : List α} (h : q ∈ a :: ((cc ++ [x]) ++ r)) : q = x ∨ q ∈ a :: (cc ++ r) := by
  simp only [List.mem_cons, List.mem_append, List.not_mem_nil, or_false] at h ⊢
  rcases h with rfl | (h | rfl) | h <;> simp [*]
structure WyC where
  wa : Addr
  its : List Value
  nn : Nat
  ok : Obj
  made : List (Addr × Obj)
structure WyOk (ck : Addr) (ws : List (List Nat)) (c : WyC) : Prop where
  at_ : WaysAt c.made c.its ws
  off : ∀ p ∈ c.made, p.1 ≠ ck
  wk : c.wa ≠ ck
  cell : ∃ v, c.ok.data = .cell v
theorem wy_start {α : Type} {ck wl w0 a b c d e f g h : α} {news : List α} : ∀ q, q ∈ ck :: wl :: a :: b :: c :: d :: e :: f :: g :: h :: ([w0] ++ news) → q ∈ wl :: w0 :: a :: b :: c :: d :: ck :: e :: f :: g :: h :: news := by
  repeat' (first | exact sub_nil | refine sub_cons ?_ ?_ | refine sub_app ?_ ?_ | (intro q hq; (repeat (first | assumption | exact .head _ | exact List.mem_append_left _ (by assumption) | refine List.Mem.tail _ ?_ | refine List.mem_append_right _ ?_))))
  all_goals (repeat (first | assumption | exact .head _ | exact List.mem_append_left _ (by assumption) | refine List.Mem.tail _ ?_ | refine List.mem_append_right _ ?_))
theorem ways_bound {α : Type} [DecidableEq α] {d : α} {up : List Nat} {marks : List α} {others : List Nat} {signs : List α} (ho : others.length ≤ 6) {i : Nat} (hi : i ≤ 5) : (waysL d up marks others signs i).length ≤ 3125 := by
  refine Nat.le_trans (waysL_length i) (Nat.le_trans (Nat.pow_le_pow_left (show others.length - 1 ≤ 5 by omega) i) (Nat.le_trans (Nat.pow_le_pow_right (by decide) hi) (by decide)))
theorem wy_rest {α : Type} {q a b c d e f g h : α} {made news : List α} (hq : q ∈ a :: b :: c :: d :: e :: f :: g :: h :: (made ++ news)) : q ∈ made ∨ q ∈ a :: b :: c :: d :: e :: f :: g :: h :: news := by
  simp only [List.mem_cons, List.mem_append] at hq ⊢
  rcases hq with rfl | rfl | rfl | rfl | rfl | rfl | rfl | rfl | hq | hq <;> simp [*]
theorem wy_fin {α : Type} {it ck wd wa a b c e f g h i : α} {cc made news : List α} : ∀ q, q ∈ [it] ++ ck :: wd :: a :: b :: c :: e :: f :: g :: h :: i :: (cc ++ news) → q ∈ wd :: (cc ++ it :: ck :: wa :: a :: b :: c :: e :: f :: g :: h :: i :: (made ++ news)) := by
  repeat' (first | exact sub_nil | refine sub_cons ?_ ?_ | refine sub_app ?_ ?_ | (intro q hq; (repeat (first | assumption | exact .head _ | exact List.mem_append_left _ (by assumption) | refine List.Mem.tail _ ?_ | refine List.mem_append_right _ ?_))))
  all_goals (repeat (first | assumption | exact .head _ | exact List.mem_append_left _ (by assumption) | refine List.Mem.tail _ ?_ | refine List.mem_append_right _ ?_))
section
variable {M : Model} {A : Around} {s : Shared} {env : Env} {h₀ : Heap} {L : Addr} {E : Value → Shared → Prop}
theorem compPost_store {Q : Value → Shared → Prop} {acc : Value} {C : Addr} {oC : Obj} {u : PySem.Str → Option Value} {m : PySem.Str → Option Value} {h : Heap} {tk : Nat} {led : List (Addr × Obj)} {y : PySem.Str} {py : Pos} (F : Fr h₀ L h m) (hn : NsO oC u) (N : News h₀ L h ((C, oC) :: led)) (off : ∀ p ∈ led, p.1 ≠ C)
    (hL : env.locals = L) (hx : env.kindOf y = some .local) (hpl : (env.scope.kind == .class || (env.scope.kind == .module && env.locals != env.globals)) = false)
    (hQ : ∀ h', Fr h₀ L h' (fun z => if z = y then some acc else m z) → News h₀ L h' led → Q .none { s with heap := h', toks := tk + 1 }) : compPost M A E (some (assign (.Name y py) env)) Q acc C (.ok .next) { s with heap := h, toks := tk } := by
  subst hL
  have hC := N _ (.head _)
  refine wpAny_assign_Name (wpAny_storeName_local hx F.ns (fun h1 hn1 hs1 => ?_) hpl)
  have F1 := F.set hn1 hs1
  have N1 := N.set hs1
  refine ⟨u, hn.ns (N1 _ (.head _)).1, fun h' hs => ?_⟩
  exact hQ h' ⟨F1.ns.at' fun o e => (hs.2 _ (Ne.symm hC.2.1)).trans e, fun b o e => (hs.2 b fun q => by rw [q, hC.2.2] at e; cases e).trans (F1.keep b o e), F1.above⟩ fun p hp =>
    ⟨(hs.2 _ (off p hp)).trans (N1 p (.tail _ hp)).1, (N1 p (.tail _ hp)).2⟩
end
end Mine
end
section
open PySem PySem.Spec PySem.Calls PyProof.Rows PySem.W
set_option Elab.async false
set_option maxRecDepth 100000
set_option maxHeartbeats 4000000
namespace Mine
section
variable {prog : Program} {w : World} {A : Around} {s : Shared} {env : Env} {h₀ : Heap} {L : Addr} {E : Value → Shared → Prop}
theorem comp2_list {σ : Type} {elt iter : Expr} {x : PySem.Str} {px : Pos} {g' : Comprehension} {scope : Scope} {cl : List (PySem.Str × Addr)} {pos : Pos} {m : PySem.Str → Option Value} {l : Addr} {vs : List Value} {nn₀ : Nat}
    {RR : Value → Addr → Result → Shared → Prop}
    (Led : σ → List (Addr × Obj)) (P : Nat → List Value → σ → Prop) (c₀ : σ)
    (hl : ∀ c, (l, listOf vs.toArray nn₀) ∈ Led c) (hh : A.handled = none)
    (hcell : ∀ y ∈ scope.names, y.2 ≠ .cell) (hkind : scope.kind = .function) (hx : scope.names.lookup x = some .local)
    (has' : g'.is_async = 0) (hs : ∀ (cenv : Env) x, foldedSetIterable g'.iter cenv x = pure x)
    (F : Fr h₀ L s.heap m) (N : News h₀ L s.heap (Led c₀)) (h0 : P 0 [] c₀)
    (turn : ∀ i c h tk v C D I oI its nn (u : PySem.Str → Option Value) (E' E'' : Value → Shared → Prop), vs[i]? = some v → P i its c → CompAt h₀ L m C D I oI its nn (Led c) (fun y => if y = x then some v else u y) h →
      wpAny (model prog w) A (eval g'.iter (compEnvC scope cl C env)) (fun xv s₃ => wpAny (model prog w) A (pyIter xv) (fun it' s₄ =>
        codeAny (model prog w) A (.compStart (.ListComp elt [⟨.Name x px, iter, [], 0⟩, g'] scope pos) 1 it' (.ref D) (compEnvC scope cl C env)) (fun r s₅ => match r with
          | .ok _ => ∃ c' h' tk' its' nn' u', s₅ = { s with heap := h', toks := tk' } ∧ CompAt h₀ L m C D I oI its' nn' (Led c') u' h' ∧ P (i + 1) its' c'
          | .error e => E'' e s₅) s₄) E' s₃) E' { s with heap := h, toks := tk })
    (done : ∀ c h tk D C its nn oC u, P vs.length its c → Fr h₀ L h m → NsO oC u → News h₀ L h ((C, oC) :: (D, listOf its.toArray nn) :: Led c) → C ≠ D → (∀ p ∈ Led c, p.1 ≠ C ∧ p.1 ≠ D) → RR (.ref D) C (.ok .next) { s with heap := h, toks := tk }) :
    wpAny (model prog w) A (pyIter (.ref l)) (fun it s₂ => wpAny (model prog w) A (newList []) (fun acc s₃ => wpAny (model prog w) A (newFunctionEnv scope env.globals cl [] env.qual none .none (some env)) (fun cenv s₄ =>
      codeAny (model prog w) A (.compStart (.ListComp elt [⟨.Name x px, iter, [], 0⟩, g'] scope pos) 0 it acc { cenv with scope := relabel scope env }) (RR acc cenv.locals) s₄) E s₃) E s₂) E s := by
  have hls : s.heap.IsList l vs.toArray := ⟨_, (N _ (hl c₀)).1, rfl, nn₀, rfl⟩
  have hne : l ≠ s.heap.objs.size := Nat.ne_of_lt (Heap.lt_size (N _ (hl c₀)).1)
  refine wpAny_pyIter_list hls ?_
  have N' := News.push F N { cls := .type "list_iterator", data := .fields #[.ref l, .int 0 0] }
  have W := Walks.list (prog := prog) (w := w) hh s.heap.objs.size l hne vs.toArray
  rw [List.size_toArray] at W
  refine comp2_walks (s := { s with heap := _ }) (ax := [(l, listOf vs.toArray nn₀)]) Led P c₀ W (fun _ _ h => ?_) (fun c p hp => (List.mem_singleton.mp hp) ▸ hl c) hcell hkind hx has' hs ?_ (F.push _) N' (fun p hp => Nat.ne_of_lt (Heap.lt_size (N p hp).1)) h0 ?_ done
  · obtain ⟨⟨o, ho, _⟩, _⟩ := h; exact ⟨o, ho⟩
  · exact ⟨⟨_, Heap.get?_push_size _ rfl, rfl, rfl⟩, hls.at fun o e => Heap.get?_push_of_some _ e⟩
  · intro i c h tk v C D oI its nn u E' E'' hi hP hv hc
    exact turn i c h tk v C D _ oI its nn u E' E'' (by simpa using hv) hP hc
theorem compIn_range {σ : Type} {elt iter : Expr} {gens : List Comprehension} {depth : Nat} {x : PySem.Str} {px : Pos} {ifs : List Expr} {scope : Scope} {pos : Pos} {cenv : Env} {C D I₀ : Addr} {oI₀ : Obj} {m : PySem.Str → Option Value} {r : Addr} {a b : Int} {t₀ u₀' v₀ : Tok} {n : Nat}
    {R : Result → Shared → Prop} {its₀ : List Value} {nn₀ : Nat} {u₀ : PySem.Str → Option Value}
    (Led : σ → List (Addr × Obj)) (P : Nat → List Value → σ → Prop) (c₀ : σ)
    (hg : gens[depth]? = some ⟨.Name x px, iter, ifs, 0⟩) (hgn : gens[depth + 1]? = none)
    (hr : IsRange s.heap r a b 1 t₀ u₀' v₀) (hsmall : Builtin.Range.small a b 1 = true) (hnn : Builtin.Range.rangeSize a b 1 = (n : Int)) (hh : A.handled = none)
    (hC : cenv.locals = C) (hx : cenv.kindOf x = some .local) (hpl : (cenv.scope.kind == .class || (cenv.scope.kind == .module && cenv.locals != cenv.globals)) = false)
    (start : CompAt h₀ L m C D I₀ oI₀ its₀ nn₀ (Led c₀) u₀ s.heap) (h0 : P 0 its₀ c₀) (hlen : ∀ i its c, P i its c → its.length ≤ 2 ^ 20) (hkeep : ∀ i its c, P i its c → ∀ p ∈ Led c, p.1 ≠ I₀)
    (turn : ∀ i c h tk t I oI its nn (u : PySem.Str → Option Value) (E' : Value → Shared → Prop), i < n → P i its c → CompAt h₀ L m C D I oI its nn ((I₀, oI₀) :: Led c) (fun y => if y = x then some (.int (a + (i : Int)) t) else u y) h → (∀ y, y ≠ x → u y = u₀ y) →
      wpAny (model prog w) A (compTests ifs cenv) (fun ok s₁ => if ok = true then wpAny (model prog w) A (eval elt cenv) (fun y s₂ => Stop (∃ c' h' tk' u', s₂ = { s with heap := h', toks := tk' } ∧ CompAt h₀ L m C D I oI its nn ((I₀, oI₀) :: Led c') u' h' ∧ (∀ y, y ≠ x → u' y = u₀ y) ∧ P (i + 1) (its ++ [y]) c')) E' s₁
        else Stop (∃ c' h' tk' u', s₁ = { s with heap := h', toks := tk' } ∧ CompAt h₀ L m C D I oI its nn ((I₀, oI₀) :: Led c') u' h' ∧ (∀ y, y ≠ x → u' y = u₀ y) ∧ P (i + 1) its c')) E' { s with heap := h, toks := tk })
    (done : ∀ c h tk its nn u, P n its c → CompAt h₀ L m C D I₀ oI₀ its nn (Led c) u h → R (.ok .next) { s with heap := h, toks := tk }) :
    wpAny (model prog w) A (pyIter (.ref r)) (fun it' s₄ => codeAny (model prog w) A (.compStart (.ListComp elt gens scope pos) depth it' (.ref D) cenv) R s₄) E s := by
  refine wpAny_pyIter_range hr hsmall ?_
  (refine hide fun PQ kQ => ?_; obtain ⟨oC, hn, N⟩ := start.N; refine kQ ?_; clear kQ PQ)
  have N' := News.push start.F N { cls := .type "range_iterator", data := .fields #[rawInt a, rawInt (Builtin.Range.rangeSize a b 1), rawInt 1] }
  have lt : ∀ p ∈ ((C, oC) :: (D, listOf its₀.toArray nn₀) :: (I₀, oI₀) :: Led c₀), p.1 ≠ s.heap.objs.size := fun p hp => Nat.ne_of_lt (Heap.lt_size (N p hp).1)
  have st2 : CompAt h₀ L m C D s.heap.objs.size { cls := .type "range_iterator", data := .fields #[rawInt a, rawInt (Builtin.Range.rangeSize a b 1), rawInt 1] } its₀ nn₀ ((I₀, oI₀) :: Led c₀) u₀ (s.heap.push { cls := .type "range_iterator", data := .fields #[rawInt a, rawInt (Builtin.Range.rangeSize a b 1), rawInt 1] }) := by
    refine ⟨start.F.push _, ⟨oC, hn, fun q hq => N' q ?_⟩, start.cd, lt (C, oC) (.head _), lt (D, listOf its₀.toArray nn₀) (.tail _ (.head _)), fun p hp => ?_⟩
    · simp only [List.mem_cons] at hq ⊢
      rcases hq with rfl | rfl | rfl | rfl | hq <;> simp [*]
    · rcases List.mem_cons.mp hp with rfl | hp
      · exact ⟨Ne.symm start.ci, Ne.symm start.di, lt (I₀, oI₀) (.tail _ (.tail _ (.head _)))⟩
      · exact ⟨(start.off p hp).1, (start.off p hp).2.1, lt p (.tail _ (.tail _ (.tail _ hp)))⟩
  refine compIn_walks (s := { s with heap := _ }) (ax := []) (fun c => (I₀, oI₀) :: Led c) P c₀ hg hgn (Walks.range hh s.heap.objs.size a 1 n) (fun _ _ h => ⟨_, h⟩) (fun _ p hp => nomatch hp) hC hx hpl ?_ st2 h0 hlen ?_ ?_
  · show IsRangeIter _ _ _ _ _
    rw [hnn]
    simpa using Heap.get?_push_size _ rfl
  · rintro i c h tk v oI its nn u E' hi hP ⟨t, rfl⟩ hc hu
    rw [Int.mul_one] at hc
    exact turn i c h tk t _ oI its nn u E' hi hP hc hu
  · intro c h tk its nn oC' u hP F' hn' N'' hCD off
    refine done c h tk its nn u hP ⟨F', ⟨oC', hn', N''⟩, hCD, Ne.symm (off (I₀, oI₀) (.head _)).1, Ne.symm (off (I₀, oI₀) (.head _)).2, fun p hp => ⟨(off p (.tail _ hp)).1, (off p (.tail _ hp)).2, hkeep _ _ _ hP p hp⟩⟩
end
section
variable {prog : Program} {w : World} {A : Around} {s : Shared} {env : Env} {h₀ : Heap} {L : Addr} {E : Value → Shared → Prop} {K : Frag} {m mg mb : PySem.Str → Option Value} {p : Program} {loose : List PySem.Str} {news : List (Addr × Obj)}
theorem nameC_localN {scope : Scope} {cl : List (PySem.Str × Addr)} {C : Addr} {oC : Obj} {x : PySem.Str} {px : Pos} {v : Value} {u : PySem.Str → Option Value} {Q : Value → Shared → Prop} (N : News h₀ L s.heap news) (hm : (C, oC) ∈ news) (hn : NsO oC u) (hv : u x = some v) (h : Q v s)
    (hk : scope.kind = .function) (hx : (compEnvC scope cl C env).kindOf x = some .local) (hb : (x == ("__debug__" : PySem.Str)) = false) :
    wpAny (model prog w) A (eval (.Name x px) (compEnvC scope cl C env)) Q E s := nameC_local (hn.ns (N _ hm).1) hv h hk hx hb
theorem nameC_cellN {scope : Scope} {cl : List (PySem.Str × Addr)} {C c : Addr} {x : PySem.Str} {px : Pos} {v : Value} {o : Obj} {Q : Value → Shared → Prop} (N : News h₀ L s.heap news) (hc : cl.lookup x = some c) (hm : (c, o) ∈ news) (hd : o.data = .cell (some v)) (h : Q v s)
    (hk : scope.kind = .function) (hx : (compEnvC scope cl C env).kindOf x = some .cell) (hb : (x == ("__debug__" : PySem.Str)) = false) :
    wpAny (model prog w) A (eval (.Name x px) (compEnvC scope cl C env)) Q E s := nameC_cell hc (N _ hm).1 hd h hk hx hb
theorem nameC_B {scope : Scope} {cl : List (PySem.Str × Addr)} {C : Addr} {x : PySem.Str} {px : Pos} {v : Value} {Q : Value → Shared → Prop} (F : Fr h₀ L s.heap m) (X : K.In h₀) (T : TopRead p loose mg mb h₀) (e : nsIn K mainGlobals x = some none) (hv : bootBuiltins x = some v) (hn : x ≠ "__name__") (h : Q v s)
    (hk : (compEnvC scope cl C env).scope.kind = .function) (hx : (compEnvC scope cl C env).kindOf x = some .globalImplicit) (hg : env.globals = mainGlobals) (hbn : env.builtins = builtinsNs) (hd : (x == ("__debug__" : PySem.Str)) = false) :
    wpAny (model prog w) A (eval (.Name x px) (compEnvC scope cl C env)) Q E s :=
  Name_function_global hk hx (loadGlobal_builtin (env := compEnvC scope cl C env) (by show s.heap.Ns env.globals _; rw [hg]; exact T.g.keeps F.keep) (mg_none_of X T.g e) (by show s.heap.Ns env.builtins _; rw [hbn]; exact T.b.keeps F.keep) ((T.builtins x hn).trans hv) h) hd
theorem nameC_G {scope : Scope} {cl : List (PySem.Str × Addr)} {C : Addr} {x : PySem.Str} {px : Pos} {v : Value} {Q : Value → Shared → Prop} (F : Fr h₀ L s.heap m) (X : K.In h₀) (T : TopRead p loose mg mb h₀) (e : nsIn K mainGlobals x = some (some v)) (h : Q v s)
    (hk : (compEnvC scope cl C env).scope.kind = .function) (hx : (compEnvC scope cl C env).kindOf x = some .globalImplicit) (hg : env.globals = mainGlobals) (hd : (x == ("__debug__" : PySem.Str)) = false) :
    wpAny (model prog w) A (eval (.Name x px) (compEnvC scope cl C env)) Q E s :=
  Name_function_global hk hx (loadGlobal_global (env := compEnvC scope cl C env) (by show s.heap.Ns env.globals _; rw [hg]; exact T.g.keeps F.keep) (mg_of X T.g e) h) hd
end
end Mine
end
section
open PySem PySem.Spec PySem.Calls PyProof.Rows PySem.W
set_option Elab.async false
set_option maxRecDepth 100000
set_option maxHeartbeats 4000000
namespace Mine
noncomputable def kidsL (P : Nat → List Nat × Nat) (up : List Nat) (h : Nat) : Nat → List (List Nat × Nat)
  | 0 => []
  | i + 1 => if up.getD (i + 1) 0 = h then kidsL P up h i ++ [P (i + 1)] else kidsL P up h i
theorem kidsN_fold (P : Nat → List Nat × Nat) (up : List Nat) (h : Nat) : ∀ i, kidsN P up h i = (kidsL P up h i).foldl stepK ([], 1)
  | 0 => rfl
  | i + 1 => by
    unfold kidsN kidsL
    split
    · rw [List.foldl_append, ← kidsN_fold P up h i]
      rfl
    · exact kidsN_fold P up h i
theorem foldl_step_fst : ∀ (l : List (List Nat × Nat)) (a : List (List Nat) × Nat), (l.foldl stepK a).1 = (l.map (·.1)).foldl (fun a x => insN x a) a.1
  | [], _ => rfl
  | p :: l, a => by
    rw [List.foldl_cons, foldl_step_fst l (stepK a p), List.map_cons, List.foldl_cons]
    rfl
theorem kidsN_ins (P : Nat → List Nat × Nat) (up : List Nat) (h i : Nat) : (kidsN P up h i).1 = insAll ((kidsL P up h i).map (·.1)) := by
  rw [kidsN_fold, foldl_step_fst]
  rfl
theorem kidsL_length {P : Nat → List Nat × Nat} {up : List Nat} {h : Nat} : ∀ i, (kidsL P up h i).length ≤ i
  | 0 => Nat.le_refl _
  | i + 1 => by
    unfold kidsL
    have := @kidsL_length P up h i
    split
    · rw [List.length_append]; simp only [List.length_cons, List.length_nil]; omega
    · omega
theorem kidsL_succ {P : Nat → List Nat × Nat} {up : List Nat} {h i : Nat} : kidsL P up h (i + 1) = if up.getD (i + 1) 0 = h then kidsL P up h i ++ [P (i + 1)] else kidsL P up h i := rfl
theorem pl_front {α : Type} {c a b d e f g C D I : α} {cc news : List α} : ∀ q ∈ [C, a, b, c, d, e, f, g], q ∈ C :: D :: I :: (cc ++ a :: b :: c :: d :: e :: f :: g :: news) := by
  repeat' (first | exact sub_nil | refine sub_cons ?_ ?_ | refine sub_app ?_ ?_ | (intro q hq; (repeat (first | assumption | exact .head _ | exact List.mem_append_left _ (by assumption) | refine List.Mem.tail _ ?_ | refine List.mem_append_right _ ?_))))
  all_goals (repeat (first | assumption | exact .head _ | exact List.mem_append_left _ (by assumption) | refine List.Mem.tail _ ?_ | refine List.mem_append_right _ ?_))
theorem pl_deep {α : Type} {q a b c d e f g h : α} {r : List α} (hq : q ∈ r) : q ∈ a :: b :: c :: d :: e :: f :: g :: h :: r := by
  simp only [List.mem_cons]
  simp [hq]
theorem pl_split {α : Type} {q x a b c : α} {cc r : List α} (h : q ∈ a :: b :: c :: ((cc ++ [x]) ++ r)) : q = x ∨ q ∈ a :: b :: c :: (cc ++ r) := by
  simp only [List.mem_cons, List.mem_append, List.not_mem_nil, or_false] at h ⊢
  rcases h with rfl | rfl | rfl | (h | rfl) | h <;> simp [*]
theorem pl_split2 {α : Type} {q x : α} {cc r : List α} (h : q ∈ (cc ++ [x]) ++ r) : q = x ∨ q ∈ cc ++ r := by
  simp only [List.mem_append, List.mem_singleton] at h ⊢
  rcases h with (h | rfl) | h <;> simp [*]
theorem pl_fin {α : Type} {a b c d e f g h D : α} {cc news : List α} : ∀ q, q ∈ a :: b :: c :: d :: e :: f :: g :: h :: (D :: cc ++ news) → q ∈ a :: D :: (cc ++ b :: c :: d :: e :: f :: g :: h :: news) := by
  repeat' (first | exact sub_nil | refine sub_cons ?_ ?_ | refine sub_app ?_ ?_ | (intro q hq; (repeat (first | assumption | exact .head _ | exact List.mem_append_left _ (by assumption) | refine List.Mem.tail _ ?_ | refine List.mem_append_right _ ?_))))
  all_goals (repeat (first | assumption | exact .head _ | exact List.mem_append_left _ (by assumption) | refine List.Mem.tail _ ?_ | refine List.mem_append_right _ ?_))
theorem pl_fin2 {α : Type} {a b c d e f g h D : α} {cc news : List α} : ∀ q, q ∈ D :: (cc ++ b :: c :: d :: e :: f :: g :: h :: news) → q ∈ a :: b :: c :: d :: e :: f :: g :: h :: (D :: cc ++ news) := by
  repeat' (first | exact sub_nil | refine sub_cons ?_ ?_ | refine sub_app ?_ ?_ | (intro q hq; (repeat (first | assumption | exact .head _ | exact List.mem_append_left _ (by assumption) | refine List.Mem.tail _ ?_ | refine List.mem_append_right _ ?_))))
  all_goals (repeat (first | assumption | exact .head _ | exact List.mem_append_left _ (by assumption) | refine List.Mem.tail _ ?_ | refine List.mem_append_right _ ?_))
theorem kidsL_mem {P : Nat → List Nat × Nat} {up : List Nat} {h : Nat} : ∀ {i : Nat} {x : List Nat × Nat}, x ∈ kidsL P up h i → ∃ k, 1 ≤ k ∧ k ≤ i ∧ up.getD k 0 = h ∧ x = P k
  | 0, x, hx => by cases hx
  | i + 1, x, hx => by
    unfold kidsL at hx
    split at hx
    · rename_i hu
      rcases List.mem_append.mp hx with hx | hx
      · (refine hide fun PQ kQ => ?_; obtain ⟨k, h1, h2, h3⟩ := kidsL_mem hx; refine kQ ?_; clear kQ PQ)
        exact ⟨k, h1, by omega, h3⟩
      · exact ⟨i + 1, by omega, Nat.le_refl _, hu, List.mem_singleton.mp hx⟩
    · (refine hide fun PQ kQ => ?_; obtain ⟨k, h1, h2, h3⟩ := kidsL_mem hx; refine kQ ?_; clear kQ PQ)
      exact ⟨k, h1, by omega, h3⟩
theorem kidsN_mem {P : Nat → List Nat × Nat} {up : List Nat} {h i : Nat} {x : List Nat} (hx : x ∈ (kidsN P up h i).1) : ∃ k, 1 ≤ k ∧ k ≤ i ∧ up.getD k 0 = h ∧ x = (P k).1 := by
  rw [kidsN_ins] at hx
  (refine hide fun PQ kQ => ?_; obtain ⟨p, hp, rfl⟩ := List.mem_map.mp ((insAll_perm _).mem_iff.mp hx); refine kQ ?_; clear kQ PQ)
  (refine hide fun PQ kQ => ?_; obtain ⟨k, h1, h2, h3, rfl⟩ := kidsL_mem hp; refine kQ ?_; clear kQ PQ)
  exact ⟨k, h1, h2, h3, rfl⟩
theorem kidsN_length {P : Nat → List Nat × Nat} {up : List Nat} {h i : Nat} : (kidsN P up h i).1.length ≤ i := by
  rw [kidsN_ins, (insAll_perm _).length_eq, List.length_map]
  exact kidsL_length i
theorem flatten_bound {α : Type} {b : Nat} {l : List (List α)} (h : ∀ x ∈ l, x.length ≤ b) : l.flatten.length ≤ l.length * b := by
  have := flatMap_bound (f := id) (l := l) (b := b) h
  rwa [List.flatMap_id] at this
theorem pageN_len {up ms : List Nat} (hn : up.length ≤ 6) : ∀ f h, (pageN up ms f h).1.length ≤ Rb f
  | 0, _ => Nat.le_refl _
  | f + 1, h => by
    have h1 := flatten_bound (b := Rb f) (l := (kidsN (pageN up ms f) up h (up.length - 1)).1) fun x hx => by
      (refine hide fun PQ kQ => ?_; obtain ⟨k, _, _, _, rfl⟩ := kidsN_mem hx; refine kQ ?_; clear kQ PQ)
      exact pageN_len hn f k
    have h2 := @kidsN_length (pageN up ms f) up h (up.length - 1)
    unfold pageN
    dsimp only
    rw [List.length_cons, List.length_map]
    have h3 := Nat.mul_le_mul_right (Rb f) (show (kidsN (pageN up ms f) up h (up.length - 1)).1.length ≤ 5 by omega)
    have e : Rb (f + 1) = 1 + 5 * Rb f := rfl
    omega
theorem Rb_le {f : Nat} (hf : f ≤ 6) : Rb f ≤ 4000 := by
  match f, hf with
  | 0, _ => decide
  | 1, _ => decide
  | 2, _ => decide
  | 3, _ => decide
  | 4, _ => decide
  | 5, _ => decide
  | 6, _ => decide
theorem strs_snoc {y : PySem.Str} {t : Tok} {vs : List Value} {ys : List PySem.Str} (h : StrsAre vs ys) : StrsAre (vs ++ [.str y t]) (ys ++ [y]) := by
  induction h with
  | nil => exact .cons y t .nil
  | cons x u _ ih => exact .cons x u ih
theorem strs_getv {vs : List Value} {ys : List PySem.Str} (h : StrsAre vs ys) : ∀ {i : Nat} {v : Value}, vs[i]? = some v → ∃ y t, v = .str y t ∧ ys[i]? = some y := by
  induction h with
  | nil => intro i v hv; simp at hv
  | cons x t _ ih =>
    intro i v hv
    cases i with
    | zero =>
      cases hv
      exact ⟨x, t, rfl, rfl⟩
    | succ i => exact ih (i := i) (by simpa using hv)
theorem take_flat {α : Type} {l : List (List α)} {i : Nat} {x : List α} (h : l[i]? = some x) : (l.take (i + 1)).flatten = (l.take i).flatten ++ x := by
  obtain ⟨hi, rfl⟩ := List.getElem?_eq_some_iff.mp h
  rw [List.take_succ_eq_append_getElem hi, List.flatten_append]
  simp
theorem pl_in10 {α : Type} {q b c d e f g h i j k : α} {cd news : List α} (hq : q ∈ news) : q ∈ b :: c :: d :: e :: f :: g :: h :: i :: j :: k :: (cd ++ news) := by
  simp only [List.mem_cons, List.mem_append]
  simp [hq]
theorem pl_ret {α : Type} {q a b c d e f g h i j k : α} {cd news : List α} (hq : q ∈ [a] ++ news) : q ∈ a :: b :: c :: d :: e :: f :: g :: h :: i :: j :: k :: (cd ++ news) := by
  simp only [List.mem_cons, List.mem_append, List.not_mem_nil, or_false] at hq ⊢
  rcases hq with rfl | hq <;> simp [*]
theorem page_row_eq {up ms : List Nat} {wd lead f h : Nat} (hm4 : ms.getD h 0 < 4) : (pageN up ms (f + 1) h).1.map (rowOf lead wd) = (blanks lead ++ sgnS (ms.getD h 0)) :: ((kidsN (pageN up ms f) up h (up.length - 1)).1.map fun c => c.map (rowOf (lead + wd) wd)).flatten := by
  unfold pageN
  dsimp only
  rw [List.map_cons, rowOf_mark hm4]
  congr 1
  · apply str_of_cps
    show _ = ((blanks lead).cps ++ (sgnS (ms.getD h 0)).cps).toList
    simp [blanks, sgnS]
  · rw [← List.map_flatten, List.map_map]
    exact List.map_congr_left fun c _ => (rowOf_lead lead wd c).symm
theorem tr_front {α : Type} {a b c C D I : α} {news : List α} : ∀ q ∈ [C, a, b, c], q ∈ C :: D :: I :: a :: b :: c :: news := by
  intro q hq
  simp only [List.mem_cons, List.not_mem_nil, or_false] at hq ⊢
  rcases hq with rfl | rfl | rfl | rfl <;> simp
theorem tr_deep {α : Type} {q a b c d e f : α} {r : List α} (hq : q ∈ r) : q ∈ a :: b :: c :: d :: e :: f :: r := by
  simp only [List.mem_cons]
  simp [hq]
theorem intsN_sum : ∀ l : List Nat, (intsN l).sum = ((l.sum : Nat) : Int)
  | [] => rfl
  | a :: l => by
    have ih := intsN_sum l
    unfold intsN at ih ⊢
    rw [List.map_cons, List.sum_cons, List.sum_cons, ih, Int.natCast_add]
section
variable {prog : Program} {w : World} {A : Around} {s : Shared} {env : Env} {h₀ : Heap} {L : Addr} {E : Value → Shared → Prop}
theorem compIn_list {σ : Type} {elt iter : Expr} {gens : List Comprehension} {depth : Nat} {x : PySem.Str} {px : Pos} {ifs : List Expr} {scope : Scope} {pos : Pos} {cenv : Env} {C D I₀ : Addr} {oI₀ : Obj} {m : PySem.Str → Option Value} {l : Addr} {vs : List Value} {nn₁ : Nat}
    {R : Result → Shared → Prop} {its₀ : List Value} {nn₀ : Nat} {u₀ : PySem.Str → Option Value}
    (Led : σ → List (Addr × Obj)) (P : Nat → List Value → σ → Prop) (c₀ : σ)
    (hg : gens[depth]? = some ⟨.Name x px, iter, ifs, 0⟩) (hgn : gens[depth + 1]? = none)
    (hl : ∀ c, (l, listOf vs.toArray nn₁) ∈ Led c) (hh : A.handled = none)
    (hC : cenv.locals = C) (hx : cenv.kindOf x = some .local) (hpl : (cenv.scope.kind == .class || (cenv.scope.kind == .module && cenv.locals != cenv.globals)) = false)
    (start : CompAt h₀ L m C D I₀ oI₀ its₀ nn₀ (Led c₀) u₀ s.heap) (h0 : P 0 its₀ c₀) (hlen : ∀ i its c, P i its c → its.length ≤ 2 ^ 20) (hkeep : ∀ i its c, P i its c → ∀ p ∈ Led c, p.1 ≠ I₀)
    (turn : ∀ i c h tk v I oI its nn (u : PySem.Str → Option Value) (E' : Value → Shared → Prop), vs[i]? = some v → P i its c → CompAt h₀ L m C D I oI its nn ((I₀, oI₀) :: Led c) (fun y => if y = x then some v else u y) h → (∀ y, y ≠ x → u y = u₀ y) →
      wpAny (model prog w) A (compTests ifs cenv) (fun ok s₁ => if ok = true then wpAny (model prog w) A (eval elt cenv) (fun y s₂ => Stop (∃ c' h' tk' u', s₂ = { s with heap := h', toks := tk' } ∧ CompAt h₀ L m C D I oI its nn ((I₀, oI₀) :: Led c') u' h' ∧ (∀ y, y ≠ x → u' y = u₀ y) ∧ P (i + 1) (its ++ [y]) c')) E' s₁
        else Stop (∃ c' h' tk' u', s₁ = { s with heap := h', toks := tk' } ∧ CompAt h₀ L m C D I oI its nn ((I₀, oI₀) :: Led c') u' h' ∧ (∀ y, y ≠ x → u' y = u₀ y) ∧ P (i + 1) its c')) E' { s with heap := h, toks := tk })
    (done : ∀ c h tk its nn u, P vs.length its c → CompAt h₀ L m C D I₀ oI₀ its nn (Led c) u h → R (.ok .next) { s with heap := h, toks := tk }) :
    wpAny (model prog w) A (pyIter (.ref l)) (fun it' s₄ => codeAny (model prog w) A (.compStart (.ListComp elt gens scope pos) depth it' (.ref D) cenv) R s₄) E s := by
  (refine hide fun PQ kQ => ?_; obtain ⟨oC, hn, N⟩ := start.N; refine kQ ?_; clear kQ PQ)
  have hlm : (l, listOf vs.toArray nn₁) ∈ ((C, oC) :: (D, listOf its₀.toArray nn₀) :: (I₀, oI₀) :: Led c₀) := .tail _ (.tail _ (.tail _ (hl c₀)))
  have hls : s.heap.IsList l vs.toArray := ⟨_, (N _ hlm).1, rfl, nn₁, rfl⟩
  have hne : l ≠ s.heap.objs.size := Nat.ne_of_lt (Heap.lt_size (N _ hlm).1)
  refine wpAny_pyIter_list hls ?_
  have N' := News.push start.F N { cls := .type "list_iterator", data := .fields #[.ref l, .int 0 0] }
  have lt : ∀ p ∈ ((C, oC) :: (D, listOf its₀.toArray nn₀) :: (I₀, oI₀) :: Led c₀), p.1 ≠ s.heap.objs.size := fun p hp => Nat.ne_of_lt (Heap.lt_size (N p hp).1)
  have st2 : CompAt h₀ L m C D s.heap.objs.size { cls := .type "list_iterator", data := .fields #[.ref l, .int 0 0] } its₀ nn₀ ((I₀, oI₀) :: Led c₀) u₀ (s.heap.push { cls := .type "list_iterator", data := .fields #[.ref l, .int 0 0] }) := by
    refine ⟨start.F.push _, ⟨oC, hn, fun q hq => N' q ?_⟩, start.cd, lt (C, oC) (.head _), lt (D, listOf its₀.toArray nn₀) (.tail _ (.head _)), fun p hp => ?_⟩
    · simp only [List.mem_cons] at hq ⊢
      rcases hq with rfl | rfl | rfl | rfl | hq <;> simp [*]
    · rcases List.mem_cons.mp hp with rfl | hp
      · exact ⟨Ne.symm start.ci, Ne.symm start.di, lt (I₀, oI₀) (.tail _ (.tail _ (.head _)))⟩
      · exact ⟨(start.off p hp).1, (start.off p hp).2.1, lt p (.tail _ (.tail _ (.tail _ hp)))⟩
  have W := Walks.list (prog := prog) (w := w) hh s.heap.objs.size l hne vs.toArray
  rw [List.size_toArray] at W
  refine compIn_walks (s := { s with heap := _ }) (ax := [(l, listOf vs.toArray nn₁)]) (fun c => (I₀, oI₀) :: Led c) P c₀ hg hgn W (fun _ _ h => ?_) (fun c p hp => (List.mem_singleton.mp hp) ▸ .tail _ (hl c)) hC hx hpl ?_ st2 h0 hlen ?_ ?_
  · obtain ⟨⟨o, ho, _⟩, _⟩ := h; exact ⟨o, ho⟩
  · exact ⟨⟨_, Heap.get?_push_size _ rfl, rfl, rfl⟩, hls.at fun o e => Heap.get?_push_of_some _ e⟩
  · rintro i c h tk v oI its nn u E' hi hP hv hc hu
    exact turn i c h tk v _ oI its nn u E' (by simpa using hv) hP hc hu
  · intro c h tk its nn oC' u hP F' hn' N'' hCD off
    refine done c h tk its nn u hP ⟨F', ⟨oC', hn', N''⟩, hCD, Ne.symm (off (I₀, oI₀) (.head _)).1, Ne.symm (off (I₀, oI₀) (.head _)).2, fun p hp => ⟨(off p (.tail _ hp)).1, (off p (.tail _ hp)).2, hkeep _ _ _ hP p hp⟩⟩
end
end Mine
end
section
open PySem PySem.Spec PySem.Calls PyProof.Rows PySem.W
set_option Elab.async false
set_option maxRecDepth 100000
set_option maxHeartbeats 4000000
namespace Mine
theorem fdiv_nat (a b : Nat) : Int.fdiv (a : Int) (b : Int) = ((a / b : Nat) : Int) := by
  rw [Int.fdiv_eq_ediv_of_nonneg _ (by omega)]
  rfl
theorem fmod_nat (a b : Nat) : Int.fmod (a : Int) (b : Int) = ((a % b : Nat) : Int) := by
  rw [Int.fmod_eq_emod_of_nonneg _ (by omega)]
  rfl
theorem dm (a b c : Nat) : Int.fmod (Int.fdiv (a : Int) (b : Int)) (c : Int) = ((a / b % c : Nat) : Int) := by
  rw [fdiv_nat, fmod_nat]
structure T1 where
  up : List Nat
  ms : List Nat
  od : List Nat
  uv : List Value
  mv : List Value
  ov : List Value
  un : Nat
  mn : Nat
  on : Nat
structure UpOk (n : Nat) (up : List Nat) : Prop where
  len : up.length = n
  zero : up.getD 0 0 = 0
  lt : ∀ k, 1 ≤ k → k < n → up.getD k 0 < k
structure MsOk (n : Nat) (ms : List Nat) : Prop where
  len : ms.length = n
  zero : ms.getD 0 0 = 0
  one : ∀ k, 1 ≤ k → k < n → ms.getD k 0 = 1 ∨ ms.getD k 0 = 2
theorem UpOk.snoc {n : Nat} {up : List Nat} {y : Nat} (h : UpOk n up) (hn : 1 ≤ n) (hy : y < n) : UpOk (n + 1) (up ++ [y]) := by
  refine ⟨by rw [List.length_append, h.len]; rfl, ?_, fun k h1 h2 => ?_⟩
  · rw [List.getD_eq_getElem?_getD, List.getElem?_append_left (by rw [h.len]; omega), ← List.getD_eq_getElem?_getD]
    exact h.zero
  · by_cases hk : k < n
    · rw [List.getD_eq_getElem?_getD, List.getElem?_append_left (by rw [h.len]; omega), ← List.getD_eq_getElem?_getD]
      exact h.lt k h1 hk
    · have : k = n := by omega
      subst this
      rw [List.getD_eq_getElem?_getD, List.getElem?_append_right (by rw [h.len]; omega), h.len, Nat.sub_self]
      exact hy
theorem MsOk.snoc {n : Nat} {ms : List Nat} {y : Nat} (h : MsOk n ms) (hn : 1 ≤ n) (hy : y = 1 ∨ y = 2) : MsOk (n + 1) (ms ++ [y]) := by
  refine ⟨by rw [List.length_append, h.len]; rfl, ?_, fun k h1 h2 => ?_⟩
  · rw [List.getD_eq_getElem?_getD, List.getElem?_append_left (by rw [h.len]; omega), ← List.getD_eq_getElem?_getD]
    exact h.zero
  · by_cases hk : k < n
    · rw [List.getD_eq_getElem?_getD, List.getElem?_append_left (by rw [h.len]; omega), ← List.getD_eq_getElem?_getD]
      exact h.one k h1 hk
    · have : k = n := by omega
      subst this
      rw [List.getD_eq_getElem?_getD, List.getElem?_append_right (by rw [h.len]; omega), h.len, Nat.sub_self]
      exact hy
structure T1Ok (i : Nat) (c : T1) : Prop where
  up : UpOk (i + 1) c.up
  ms : MsOk (i + 1) c.ms
  od : c.od.Perm (List.range' 1 i)
  uI : IntsAre c.uv (intsN c.up)
  mI : StrsAre c.mv (c.ms.map sgnS)
  oI : IntsAre c.ov (intsN c.od)
theorem intsN_take (l : List Nat) (k : Nat) : intsN (l.take k) = (intsN l).take k := by simp [intsN, List.map_take]
theorem intsN_drop (l : List Nat) (k : Nat) : intsN (l.drop k) = (intsN l).drop k := by simp [intsN, List.map_drop]
theorem intsN_append (a b : List Nat) : intsN (a ++ b) = intsN a ++ intsN b := by simp [intsN]
theorem ints_append : ∀ {vs ws : List Value} {ns ms : List Int}, IntsAre vs ns → IntsAre ws ms → IntsAre (vs ++ ws) (ns ++ ms)
  | _, _, _, _, .nil, h => h
  | _, _, _, _, .cons k t r, h => .cons k t (ints_append r h)
theorem ints_insert {vs : List Value} {l : List Nat} {y k : Nat} {t : Tok} (h : IntsAre vs (intsN l)) : IntsAre (vs.take k ++ .int (y : Int) t :: vs.drop k) (intsN (l.take k ++ y :: l.drop k)) := by
  rw [intsN_append, intsN_take]
  refine ints_append (h.take k) ?_
  show IntsAre _ ((y : Int) :: intsN (l.drop k))
  rw [intsN_drop]
  exact .cons _ t (h.drop k)
theorem perm_insert {l : List Nat} {y k i : Nat} (h : l.Perm (List.range' 1 i)) (hy : y = i + 1) : (l.take k ++ y :: l.drop k).Perm (List.range' 1 (i + 1)) := by
  subst hy
  rw [List.range'_concat]
  refine List.perm_middle.trans ?_
  rw [List.take_append_drop]
  refine (List.Perm.cons _ h).trans ?_
  rw [Nat.one_mul, Nat.add_comm 1 i]
  exact (List.perm_append_singleton _ _).symm
theorem kl_ins_nat (vs : List Value) (x : Nat) (v : Value) : kl_ins vs (x : Int) v = vs.take (min x vs.length) ++ v :: vs.drop (min x vs.length) := by
  unfold kl_ins
  have : (if ((x : Nat) : Int) < 0 then (((x : Nat) : Int) + (vs.length : Int)).toNat else min ((x : Nat) : Int).toNat vs.length) = min x vs.length := by
    rw [if_neg (by omega), Int.toNat_natCast]
  rw [this]
theorem UpOk.set {n : Nat} {up : List Nat} {k y : Nat} (h : UpOk n up) (hk : 1 ≤ k) (hy : y < k) : UpOk n (up.set k y) := by
  refine ⟨by rw [List.length_set, h.len], ?_, fun j h1 h2 => ?_⟩
  · rw [List.getD_eq_getElem?_getD, List.getElem?_set_ne (by omega), ← List.getD_eq_getElem?_getD]
    exact h.zero
  · by_cases hj : k = j
    · subst hj
      rw [List.getD_eq_getElem?_getD, List.getElem?_set_self (by rw [h.len]; omega)]
      exact hy
    · rw [List.getD_eq_getElem?_getD, List.getElem?_set_ne hj, ← List.getD_eq_getElem?_getD]
      exact h.lt j h1 h2
theorem intsN_set (l : List Nat) (k y : Nat) : (intsN l).set k (y : Int) = intsN (l.set k y) := by
  simp [intsN, List.map_set]
structure T2 where
  ot : List Nat
  sg : List Nat
  ov : List Value
  sv : List Value
  on : Nat
  sn : Nat
section
variable {prog : Program} {w : World} {A : Around} {E : Value → Shared → Prop} {s : Shared}
theorem index_small {l : Addr} {vs : List Value} {ns : List Int} {k : Int} {t : Tok} {Q : Value → Shared → Prop} (hl : s.heap.IsList l vs.toArray) (hi : IntsAre vs ns)
    (hz : ns.length ≤ 1000) (hk : k ∈ ns) (h : Q (.int (ns.idxOf k : Nat) s.toks) { s with toks := s.toks + 1 }) : wpAny (model prog w) A (call (.builtin "list.index") [.ref l, .int k t]) Q E s := by
  (refine hide fun PQ kQ => ?_; obtain ⟨⟨cls, dd, data, sl⟩, ho, hc, n, hd⟩ := id hl; refine kQ ?_; clear kQ PQ)
  simp only at hc hd
  subst hc hd
  have hlen := hi.length
  have hj : ns.idxOf k < ns.length := List.idxOf_lt_length_iff.mpr hk
  refine call_meets PySem.F.slot_list_index ⟨_, ho, rfl⟩ PySem.F.entry_list_index (PySem.F.args_list_index_2 _ _)
    (PySem.SeqAt.list_indexAt l vs.toArray n dd sl (.int k t) (isInt k) (ns.idxOf k) (by simpa [hlen] using hj) (by omega) ?_ ?_) ⟨ho, fun y hy => (eq_isInt k t hi y (by simpa using hy)).at _ _, h⟩
  · show isInt k vs[ns.idxOf k] = true
    rw [isInt_at k hi _ (by omega) hj]
    simpa using List.getElem_idxOf hj
  · intro j hjs hlt
    show isInt k vs[j] = false
    rw [isInt_at k hi j (by simpa using hjs) (by omega)]
    exact ne_of_lt_idxOf hlt _
theorem intsN_mem {l : List Nat} {k : Nat} (h : k ∈ l) : (k : Int) ∈ intsN l := List.mem_map_of_mem h
theorem intsN_idxOf (k : Nat) : ∀ l : List Nat, (intsN l).idxOf (k : Int) = l.idxOf k
  | [] => rfl
  | a :: l => by
    have ih := intsN_idxOf k l
    unfold intsN at ih ⊢
    rw [List.map_cons, List.idxOf_cons, List.idxOf_cons, ih]
    by_cases h : a = k
    · subst h
      simp
    · have h1 : (a == k) = false := by rw [beq_eq_false_iff_ne]; exact h
      have h2 : (((a : Nat) : Int) == ((k : Nat) : Int)) = false := by rw [beq_eq_false_iff_ne]; omega
      rw [h1, h2]
end
noncomputable def othersOf (hg od : List Nat) : List Nat := 0 :: od.map fun k => if hg.getD k 0 = 0 then 0 else 1 + od.idxOf (hg.getD k 0)
noncomputable def signsOf (ms od : List Nat) : List Nat := 0 :: od.map fun k => ms.getD k 0
structure T2Ok (hg ms od : List Nat) (i : Nat) (c : T2) : Prop where
  ot : c.ot = 0 :: (od.take i).map fun k => if hg.getD k 0 = 0 then 0 else 1 + od.idxOf (hg.getD k 0)
  sg : c.sg = 0 :: (od.take i).map fun k => ms.getD k 0
  oI : IntsAre c.ov (intsN c.ot)
  sI : StrsAre c.sv (c.sg.map sgnS)
theorem take_map_succ {f : Nat → Nat} {od : List Nat} {i k : Nat} (h : od[i]? = some k) : (od.take (i + 1)).map f = (od.take i).map f ++ [f k] := by
  rw [List.take_succ, h, List.map_append]
  rfl
theorem tr_ret {α : Type} {q a b c d e f g h i j k : α} {news : List α} (hq : q ∈ [a, b, c, d, e] ++ news) : q ∈ a :: b :: c :: f :: g :: d :: e :: h :: i :: j :: k :: news := by
  simp only [List.mem_cons, List.mem_append, List.not_mem_nil, or_false] at hq ⊢
  rcases hq with (rfl | rfl | rfl | rfl | rfl) | hq <;> simp [*]
noncomputable def TreesOk (up ms ot sg : List Nat) (wd : Nat) : Prop :=
  ∃ n hg od, 4 ≤ n ∧ n ≤ 6 ∧ UpOk n up ∧ MsOk n ms ∧ UpOk n hg ∧ od.Perm (List.range' 1 (n - 1)) ∧ ot = othersOf hg od ∧ sg = signsOf ms od ∧ 1 ≤ wd ∧ wd ≤ 2
noncomputable def TreesOut (tl : List (Addr × Obj)) (r : Value) : Prop :=
  ∃ T UP MK OT SG uv mv ov sv un mn on sn nt tw up ms ot sg wd, r = .ref T ∧ (T, { cls := .type "tuple", data := .seq #[.ref UP, .ref MK, .ref OT, .ref SG, .int ((wd : Nat) : Int) tw] nt }) ∈ tl ∧ (UP, listOf uv.toArray un) ∈ tl ∧ (MK, listOf mv.toArray mn) ∈ tl ∧ (OT, listOf ov.toArray on) ∈ tl ∧ (SG, listOf sv.toArray sn) ∈ tl ∧
    IntsAre uv (intsN up) ∧ StrsAre mv (ms.map sgnS) ∧ IntsAre ov (intsN ot) ∧ StrsAre sv (sg.map sgnS) ∧ TreesOk up ms ot sg wd
end Mine
end
local macro_rules | `(tactic| walk_at "eval Name") => `(tactic| (k_here; (with_reducible show PySem.wpAny _ _ (PySem.eval (PySem.Expr.Name _ _) (PySem.compEnvC _ _ _ _)) _ _ _); first
  | (refine Mine.nameC_localN (by k_asm) (by k_mem) (by assumption) rfl ?_ (by rfl) (by rfl) (by decide))
  | (refine Mine.nameC_cellN (by k_asm) rfl (by k_mem) (by assumption) ?_ (by rfl) (by rfl) (by decide))
  | (refine Mine.nameC_B (by k_asm) (by k_asm) (by k_asm) (by k_is) rfl (by decide) ?_ (by rfl) (by rfl) (by rfl) (by rfl) (by decide))
  | (refine Mine.nameC_G (by k_asm) (by k_asm) (by k_asm) (by k_is) ?_ (by rfl) (by rfl) (by rfl) (by decide))))
section
open PySem PySem.Spec PySem.Calls PyProof.Rows PySem.W
set_option Elab.async false
set_option maxRecDepth 100000
set_option maxHeartbeats 8000000
set_option pp.deepTerms false
set_option pp.maxSteps 2500
namespace Mine
theorem mytr_off : True := by
  w_top off
  trivial
local macro_rules | `(tactic| walk_at $k) => Mine.stopAt k ["call ref", "pyIter ref", "eval ListComp BinOp cons", "eval ListComp", "exec Assign ListComp", "exec Assign cons ListComp", "subscriptTail Name Name ref int", "subscriptTail", "subscriptTail Name Slice ref ref", "call builtin:list.append", "call builtin:list.insert", "call builtin:list.index", "subscriptTail Constant BinOp str int", "call type:list", "setItem ref int", "setItem", "call builtin:sum"]
noncomputable def TreesTell (w : World) (Out : List (Addr × Obj) → Value → Prop) : Prop :=
  ∀ (prog : Program) (p : Program) (loose : List PySem.Str) (mean : PySem.ExcName → Option Value) (mg mb : PySem.Str → Option Value)
    (dp un : Nat) (gd : Option (List Code)) (cn : PySem.Str) (cs : Scope) (a : Addr) (ccd : Value) (cl : List (PySem.Str × Addr)) (outer : List Env) (A₀ : Around) (base h₀ : Heap) (L : Addr) (m : PySem.Str → Option Value) (news : List (Addr × Obj)) (s : Shared) (sa : Addr) (sv : List Value) (ns : List Int)
    (Q E : Value → Shared → Prop),
    Below A₀ base outer h₀ → Fr h₀ L s.heap m → (hd.heap_1 w.params).In h₀ → News h₀ L s.heap news → Top p loose mean mg mb h₀ → cs.kind = .function → h₀.IsList sa sv.toArray → IntsAre sv ns → ns.length ≤ 1000 → dp + 60 < recursionLimit → un + 8 * 60 < cLine →
    (∀ r tl h' tk', Fr h₀ L h' m → News h₀ L h' (tl ++ news) → (∀ q ∈ news, ∀ p ∈ tl, q.1 < p.1) → Out tl r → Q r { s with heap := h', toks := tk' }) →
    wpAny (model prog w) (ktrTop dp un gd cn cs L a ccd cl outer) (call (.ref 190) [.ref sa]) Q E s
theorem trees_tell (w : World) : TreesTell w TreesOut := by
  have hfill : PySem.Challenge.rw_wa0025_01 = PySem.Challenge.rw_wa0025_01 ∧ hd.heap_1 = hd.heap_1 := by k_fill; exact ⟨rfl, rfl⟩
  unfold TreesTell
  intro prog p loose mean mg mb dp un gd cn cs ad ccd cl outer A₀ base h₀ L m news s sa sv ns Q E B F X N T hk hsa hsv hns hdp hun hret
  obtain ⟨sH, sG, sD, sT, sO⟩ := s
  dsimp only at F N hret
  refine wpAny_call ?_
  k_dflt (refine' code_defC ?k1 ?k2 ?k3 ?k4 ?k5 ?kA ?kF ?kK ?k6 ?k7 ?k8 ?k9 ?kB ?kD ?_ ?c2 ?c3 ?c4; (case kA => exact rfl); (case kF => exact rfl); (case kK => first | assumption | exact rfl); (case k1 => k_asm); (case k2 => k_asm); (case k3 => k_asm); (case k4 => k_asm); (case k5 => k_asm); (case k6 => k_is); (case k7 => k_is); (case k8 => ktr_room); (case k9 => first | exact BindsTo.of_eq rfl | exact binds_K (by k_in) rfl (by k_is) rfl rfl rfl); (case kB => exact rfl); (case kD => decide +kernel); (case c2 => exact rfl); (case c3 => exact rfl); (case c4 => exact rfl); k_whole)
  intro g5 L5 h5 tk5 cells5 FG5 F5 N5 Y5 B5 X5 T5 l5
  (refine hide fun PQ kQ => ?_; obtain ⟨o1, o2, rfl, d1, d2⟩ := CellsAre.two Y5; refine kQ ?_; clear kQ PQ)
  clear Y5
  replace d1 : o1.data = .cell none := d1
  replace d2 : o2.data = .cell (some (.ref sa)) := d2
  simp only [List.cons_append, List.nil_append] at N5
  have F6 : Fr g5 L5 h5 (fun _ => none) := F5
  clear F5
  refine gen_E PassesOwn.leaving fun EE hEE => ?_
  have hsa5 : g5.IsList sa sv.toArray := hsa.at fun o e => FG5.keep _ o e
  k_steps
  rename_i BA h6 F6 N6 o6
  (revert N6; refine gen1 (([Value.int 25 tk5, Value.int 0 (tk5 + 1), Value.int 120 (tk5 + 1 + 1), Value.int 61 (tk5 + 1 + 1 + 1), Value.int 300 (tk5 + 1 + 1 + 1 + 1), Value.int 180 (tk5 + 1 + 1 + 1 + 1 + 1)] : List Value)) fun bl hbl => ?_; intro N6)
  have hbi : IntsAre bl [25, 0, 120, 61, 300, 180] := by
    rw [← hbl]
    exact .cons _ _ (.cons _ _ (.cons _ _ (.cons _ _ (.cons _ _ (.cons _ _ .nil)))))
  clear hbl
  have nc1 : ∀ q ∈ (L5 + 1, o2) :: news, q.1 ≠ L5 + 1 + 1 := fun q hq => by
    rcases List.mem_cons.mp hq with rfl | hq
    · exact Nat.ne_of_lt (Nat.lt_succ_self _)
    · exact Nat.ne_of_lt (Nat.lt_succ_of_lt (Nat.lt_succ_of_lt (l5 q hq)))
  refine storeX_C F6 N6 rfl (.tail (Nat.ne_of_gt o6.1) (.head nc1)) d1 (fun h7 o7 F7 N7 d7 => ?_)
  dsimp only at N7 ⊢
  clear F6 N6 d1
  k_steps
  refine Stop.e ?_
  refine execCompAssign (cl := [("script", L5 + 1), ("base", L5 + 1 + 1)]) ?sw (fun _ => rfl) ?clo rfl (by decide) ?_
  case sw => rfl
  case clo => rfl
  k_steps
  rename_i F7a N7a h8 tk8 t8 u8 v8 R8 F8 N8 K8
  refine Stop.e ?_
  clear F7a N7a
  refine compG_range (σ := Unit) (n := 6) (fun _ => (BA, listOf bl.toArray 0) :: (L5 + 1 + 1, o7) :: (L5 + 1, o2) :: news)
    (fun i its _ => its.length = i ∧ ∃ js : List Nat, IntsAre its (intsN js)) () R8 (small_one (by decide) (by decide) (by decide) (by decide)) (by decide) rfl (by decide) rfl (by decide) F8 N8 ⟨rfl, [], .nil⟩ (fun _ _ _ hP => Nat.le_of_eq hP.1) ?cturn ?cdone
  case cdone =>
    rintro _ h11 tk11 D C its nn oC u11 ⟨hl11, js, hjs⟩ F11 hnC N11 hCD off11
    refine compPost_store F11 hnC N11 (fun p hp => ?_) rfl rfl rfl (fun h12 F12 N12 => ?_)
    · rcases List.mem_cons.mp hp with rfl | hp
      · exact Ne.symm hCD
      · exact (off11 p hp).1
    clear F11 N11 F8 N8
    have hjl : js.length = 6 := by
      have := hjs.length
      rw [intsN_length, hl11] at this
      exact this.symm
    dsimp only
    k_steps
    rename_i UP h13 oUP h14 tk14 MK h15 oMK h16 tk16 OR h17 oOR h18 F18a N18a h19 tk19 t19 u19 v19 R19 F19 N19 K19
    refine Stop.e ?_
    clear F18a N18a
    have hj0 : (intsN js).getD (Int.toNat 0) 0 = ((js.getD 0 0 : Nat) : Int) := intsN_getD js 0
    have hdm : Int.fmod (Int.fdiv ((js.getD 0 0 : Nat) : Int) 100) 3 = ((js.getD 0 0 / 100 % 3 : Nat) : Int) := dm (js.getD 0 0) 100 3
    rw [hj0, hdm] at R19 F19
    obtain ⟨n, hn4, hn6, hn⟩ : ∃ n : Nat, 4 ≤ n ∧ n ≤ 6 ∧ 6 - ((js.getD 0 0 / 100 % 3 : Nat) : Int) = (n : Int) := ⟨6 - js.getD 0 0 / 100 % 3, by omega, by omega, by omega⟩
    rw [hn] at R19 F19
    refine' for_range (σ := T1) (n := n - 1) (· = g5)
      (fun c => (OR, listOf c.ov.toArray c.on) :: (MK, listOf c.mv.toArray c.mn) :: (UP, listOf c.uv.toArray c.un) :: (D, listOf its.toArray nn) :: (BA, listOf bl.toArray 0) :: (L5 + 1 + 1, o7) :: (L5 + 1, o2) :: news)
      (fun c => [("order", .ref OR), ("marks", .ref MK), ("up", .ref UP), ("size", .int (n : Int) _), ("draws", .ref D)])
      (fun i c => T1Ok i c) ⟨[0], [0], [], [_], [_], [], 0, 0, 0⟩ R19 (by first | exact small_1 (by omega) | exact small_one (by decide) (by decide) (by omega) (by omega)) (by first | exact size_1 (by omega) | (rw [rangeSize_nat]; omega)) rfl rfl rfl rfl F19 N19 (by (repeat' (first | exact Says.nil | refine Says.cons rfl ?_))) ?start ?turn ?done ?hE
    case hE => passes_own
    case start => exact ⟨⟨rfl, rfl, fun k h1 h2 => by omega⟩, ⟨rfl, rfl, fun k h1 h2 => by omega⟩, .nil, .cons 0 _ .nil, .cons _ _ .nil, .nil⟩
    case done =>
      rintro c h₁ hp tk u hP rfl F20 N20
      dsimp only [kstB] at F20 ⊢
      clear F19 N19 R19 K19
      have en : n - 1 + 1 = n := by omega
      have hup := hP.up
      have hms := hP.ms
      rw [en] at hup hms
      have hul : c.uv.length = n := by
        have := hP.uI.length
        rw [intsN_length, hup.len] at this
        exact this
      have hml : c.mv.length = n := by
        have := hP.mI.length
        rw [List.length_map, hms.len] at this
        exact this
      have hol : c.ov.length = n - 1 := by
        have := hP.oI.length
        rw [intsN_length, hP.od.length_eq, List.length_range'] at this
        exact this
      k_steps
      rename_i tk21 t21 h21 F21 N21
      refine Stop.e ?_
      have hmd : (1 : Int) + Int.fmod (Int.fdiv ((intsN js).getD (Int.toNat 0) 0) 2) ((n : Int) - 1) = ((1 + js.getD 0 0 / 2 % (n - 1) : Nat) : Int) := by
        rw [hj0, show ((n : Int) - 1) = ((n - 1 : Nat) : Int) by omega]
        have : Int.fmod (Int.fdiv ((js.getD 0 0 : Nat) : Int) 2) ((n - 1 : Nat) : Int) = ((js.getD 0 0 / 2 % (n - 1) : Nat) : Int) := dm (js.getD 0 0) 2 (n - 1)
        rw [this]
        omega
      rw [hmd] at F21
      have hmdlt : js.getD 0 0 / 2 % (n - 1) < n - 1 := Nat.mod_lt _ (by omega)
      (revert F21; refine gen1 (1 + js.getD 0 0 / 2 % (n - 1)) fun md hmde => ?_; intro F21)
      have hmd1 : 1 ≤ md := by omega
      have hmd2 : md < n := by omega
      clear hmd
      refine list_copyK F21 N21 (News.isList N21 (.tail _ (.tail _ (.head _)))) (fun HU c22 h22 F22 N22 hlt22 => ?_) (by rw [List.size_toArray, sizeLine_eq]; omega)
      clear F21 N21 F20 N20
      k_steps
      rename Fr h₁ L5 _ _ => F23
      rename News h₁ L5 _ _ => N23
      refine Stop.e ?_
      have hhv : Int.fmod (Int.fdiv ((intsN js).getD (Int.toNat 0) 0) 10) (md : Int) = ((js.getD 0 0 / 10 % md : Nat) : Int) := by
        rw [hj0]
        exact dm (js.getD 0 0) 10 md
      rw [hhv]
      have hlt0 : js.getD 0 0 / 10 % md < md := Nat.mod_lt _ (by omega)
      refine ksa_set F23 N23 (.head fun q hq => Nat.ne_of_lt (hlt22 q hq)) hP.uI (by omega) (by rw [intsN_length, hup.len]; omega) (by omega) (fun h24 F24 N24 hI24 _ _ => ?_)
      generalize c.uv.set (md : Int).toNat _ = hv at hI24 N24
      rw [Int.toNat_natCast, intsN_set] at hI24
      have hung := hup.set hmd1 hlt0
      (revert hung; revert hI24; refine gen0 (c.up.set md (js.getD 0 0 / 10 % md)) fun hg => ?_; intro hI24 hung)
      clear F23 N23
      k_steps
      rename_i OT h25a oOT h25b tk25 SG h25c oSG h25 F25 N25
      refine Stop.e ?_
      refine' for_list (σ := T2) (vs := c.ov) (nn := c.on) (· = h₁)
        (fun z => (SG, listOf z.sv.toArray z.sn) :: (OT, listOf z.ov.toArray z.on) :: (HU, listOf hv.toArray c22) :: (OR, listOf c.ov.toArray c.on) :: (MK, listOf c.mv.toArray c.mn) :: (UP, listOf c.uv.toArray c.un) :: (D, listOf its.toArray nn) :: (BA, listOf bl.toArray 0) :: (L5 + 1 + 1, o7) :: (L5 + 1, o2) :: news)
        (fun _ => [("signs", .ref SG), ("others", .ref OT), ("hung", .ref HU), ("order", .ref OR), ("marks", .ref MK), ("up", .ref UP), ("draws", .ref D)])
        (fun i z => T2Ok hg c.ms c.od i z) ⟨[0], [0], [_], [_], 0, 0⟩ (fun _ => .tail _ (.tail _ (.tail _ (.head _)))) rfl rfl rfl rfl F25 N25 (by (repeat' (first | exact Says.nil | refine Says.cons rfl ?_))) ⟨rfl, rfl, .cons 0 _ .nil, .cons _ _ .nil⟩ ?turn2 ?done2 ?hE2
      case hE2 => passes_own
      case done2 =>
        rintro z h₃ hp3 tk3 u3 hZ rfl F26 N26
        dsimp only [kstB] at F26 ⊢
        clear F25 N25
        k_steps
        refine Stop.e ?_
        refine item_anyK (News.isList N26 (.tail _ (.tail _ (.tail _ (.tail _ (.tail _ (.tail _ (.head _)))))))) hjs (by decide) (by rw [intsN_length, hjl]; omega) (by decide) (fun ta => ?_)
        rw [hj0]
        k_steps
        rename_i D27 h27 F27 N27 l27 kF kN Tc kX
        have hwd : (1 : Int) + Int.fmod ((js.getD 0 0 : Nat) : Int) 2 = ((1 + js.getD 0 0 % 2 : Nat) : Int) := by
          have : Int.fmod ((js.getD 0 0 : Nat) : Int) 2 = ((js.getD 0 0 % 2 : Nat) : Int) := fmod_nat _ 2
          rw [this]
          omega
        rw [hwd] at kN
        have hodl : c.od.length = n - 1 := by rw [hP.od.length_eq, List.length_range']
        refine hret _ [(D27, _), (SG, listOf z.sv.toArray z.sn), (OT, listOf z.ov.toArray z.on), (MK, listOf c.mv.toArray c.mn), (UP, listOf c.uv.toArray c.un)] _ _ kF (fun q hq => kN q (tr_ret hq)) (fun q hq p hp => ?_) ⟨D27, UP, MK, OT, SG, _, _, _, _, _, _, _, _, _, _, c.up, c.ms, z.ot, z.sg, _, rfl, .head _, .tail _ (.tail _ (.tail _ (.tail _ (.head _)))), .tail _ (.tail _ (.tail _ (.head _))), .tail _ (.tail _ (.head _)), .tail _ (.head _), hP.uI, hP.mI, hZ.oI, hZ.sI, n, hg, c.od, hn4, hn6, hup, hms, hung, hP.od, ?_, ?_, by omega, by omega⟩
        · have a1 := allLt_all oUP.2.2.2.2 q hq
          have a2 := allLt_all oMK.2.2.2.2.2 q hq
          have a3 := allLt_all oOT.2.2.2.2.2.2.2.2 q hq
          have a4 := allLt_all oSG.2.2.2.2.2.2.2.2.2 q hq
          have a5 := allLt_all l27.2.2.2.2.2.2.2.2.2.2 q hq
          simp only [List.mem_cons, List.not_mem_nil, or_false] at hp
          rcases hp with rfl | rfl | rfl | rfl | rfl
          · exact a5
          · exact a4
          · exact a3
          · exact a2
          · exact a1
        · rw [hZ.ot, show c.ov.length = c.od.length by omega, List.take_length]
          rfl
        · rw [hZ.sg, show c.ov.length = c.od.length by omega, List.take_length]
          rfl
      case turn2 =>
        rintro i z h₃ hp3 tk3 v it o u3 hi hvi hZ rfl F26 N26 hne
        dsimp only [kstB] at F26
        clear F25 N25
        refine gen_Q fun QQ kQQ => ?_
        have hil : i < c.od.length := by
          have h1 := hP.oI.length
          rw [intsN_length] at h1
          omega
        obtain ⟨t26, ht26⟩ := ints_getElem (k := i) hP.oI (by rw [intsN_length]; exact hil)
        rw [hvi] at ht26
        cases ht26
        rw [intsN_getD] at F26
        have hk? : c.od[i]? = some (c.od.getD i 0) := by
          rw [List.getD_eq_getElem?_getD, List.getElem?_eq_getElem hil]
          rfl
        have hkm := hP.od.mem_iff.mp (List.mem_of_getElem? hk?)
        rw [List.mem_range'_1] at hkm
        (revert hk?; revert hkm; revert F26; refine gen1 (c.od.getD i 0) fun k hkk => ?_; intro F26 hkm hk?)
        have hug := hung.lt k (by omega) (by omega)
        have nitT : OT ≠ it := hne (OT, listOf z.ov.toArray z.on) (.tail _ (.head _))
        have nitS : SG ≠ it := hne (SG, listOf z.sv.toArray z.sn) (.head _)
        have hzl : z.ov.length ≤ 1000 := by
          have := hZ.oI.length
          rw [intsN_length, hZ.ot, List.length_cons, List.length_map, List.length_take] at this
          omega
        have hsl2 : z.sv.length ≤ 1000 := by
          have := hZ.sI.length
          rw [List.length_map, hZ.sg, List.length_cons, List.length_map, List.length_take] at this
          omega
        have hmk : (c.ms.map sgnS).getD k PySem.Str.empty = sgnS (c.ms.getD k 0) := by
          rw [List.getD_eq_getElem?_getD, List.getD_eq_getElem?_getD, List.getElem?_map, List.getElem?_eq_getElem (by rw [hms.len]; omega)]
          rfl
        have hgl : hv.length = n := by
          have := hI24.length
          rw [intsN_length, hung.len] at this
          exact this
        k_steps
        refine Stop.e ?_
        refine item_anyK (News.isList N26 (.tail _ (.tail _ (.tail _ (.head _))))) hI24 (by omega) (by rw [intsN_length, hung.len]; omega) (by omega) (fun tb => ?_)
        rw [Int.toNat_natCast, intsN_getD]
        k_steps
        · rename _ = (0 : Int) => hz0
          have hz : hg.getD k 0 = 0 := by omega
          refine Stop.e ?_
          generalize hX1 : Value.int 0 _ = X1
          refine append_L (D := OT) (vs := z.ov) F26 N26 (.tail (Ne.symm nitT) (.tail (Nat.ne_of_gt oSG.1) (.head fun q hq => Nat.ne_of_lt (allLt_all (l := (HU, listOf hv.toArray c22) :: (OR, listOf c.ov.toArray c.on) :: (MK, listOf c.mv.toArray c.mn) :: (UP, listOf c.uv.toArray c.un) :: (D, listOf its.toArray nn) :: (BA, listOf bl.toArray 0) :: (L5 + 1 + 1, o7) :: (L5 + 1, o2) :: news) oOT q hq)))) (fun h27 F27 N27 => ?_) (by omega)
          clear F26 N26
          dsimp only
          k_steps
          refine Stop.e ?_
          rename Fr h₃ L5 _ _ => F28
          rename News h₃ L5 _ _ => N28
          refine KTb.item_list (News.isList N28 (.tail _ (.tail _ (.tail _ (.tail _ (.tail _ (.head _))))))) hP.mI (by omega) (by rw [List.length_map, hms.len]; omega) (by omega) (fun td _ => ?_)
          rw [Int.toNat_natCast, hmk]
          k_steps
          refine Stop.e ?_
          generalize hX2 : Value.str (sgnS (c.ms.getD k 0)) _ = X2
          refine append_L (D := SG) (vs := z.sv) F28 N28 (.tail (Ne.symm nitS) (.head fun q hq => (List.mem_cons.mp hq).elim (fun z => by rw [z]; exact Nat.ne_of_lt oSG.1) fun hq => Nat.ne_of_lt (allLt_all (l := (HU, listOf hv.toArray c22) :: (OR, listOf c.ov.toArray c.on) :: (MK, listOf c.mv.toArray c.mn) :: (UP, listOf c.uv.toArray c.un) :: (D, listOf its.toArray nn) :: (BA, listOf bl.toArray 0) :: (L5 + 1 + 1, o7) :: (L5 + 1, o2) :: news) oSG.2 q hq))) (fun h29 F29 N29 => ?_) (by omega)
          clear F28 N28
          dsimp only
          k_steps
          rename Fr h₃ L5 _ _ => F30
          rename News h₃ L5 _ _ => N30
          refine kQQ _ _ ?_
          refine' TurnPost.next (⟨z.ot ++ [0], z.sg ++ [c.ms.getD k 0], z.ov ++ [X1], z.sv ++ [X2], z.on + 1, z.sn + 1⟩ : T2) rfl F30 N30 ?off (by (repeat' (first | exact Says.nil | refine Says.cons rfl ?_))) ⟨?ot, ?sg, ?oI, ?sI⟩
          case off =>
            intro p hp q hq
            rw [List.mem_singleton.mp hp]
            rcases List.mem_cons.mp hq with rfl | hq
            · exact nitS
            rcases List.mem_cons.mp hq with rfl | hq
            · exact nitT
            · exact hne q (.tail _ (.tail _ hq))
          case ot =>
            show z.ot ++ [0] = _
            rw [take_map_succ hk?, hZ.ot, if_pos hz]
            rfl
          case sg =>
            show z.sg ++ [c.ms.getD k 0] = _
            rw [take_map_succ hk?, hZ.sg]
            rfl
          case oI =>
            show IntsAre (z.ov ++ [X1]) (intsN (z.ot ++ [0]))
            rw [intsN_snoc, ← hX1]
            exact ints_snoc hZ.oI
          case sI =>
            show StrsAre (z.sv ++ [X2]) ((z.sg ++ [c.ms.getD k 0]).map sgnS)
            rw [List.map_append, ← hX2]
            exact strs_snoc hZ.sI
        · rename _ ≠ (0 : Int) => hz0
          have hz : hg.getD k 0 ≠ 0 := fun q => hz0 (by rw [q]; rfl)
          refine Stop.e ?_
          refine item_anyK (News.isList N26 (.tail _ (.tail _ (.tail _ (.head _))))) hI24 (by omega) (by rw [intsN_length, hung.len]; omega) (by omega) (fun tc => ?_)
          rw [Int.toNat_natCast, intsN_getD]
          k_steps
          refine Stop.e ?_
          refine index_small (News.isList N26 (.tail _ (.tail _ (.tail _ (.tail _ (.head _)))))) hP.oI (by rw [intsN_length, hP.od.length_eq, List.length_range']; omega) (intsN_mem (hP.od.mem_iff.mpr (List.mem_range'_1.mpr ⟨by omega, by omega⟩))) ?_
          rw [intsN_idxOf]
          k_steps
          refine Stop.e ?_
          rw [show (1 : Int) + ((List.idxOf (hg.getD k 0) c.od : Nat) : Int) = ((1 + List.idxOf (hg.getD k 0) c.od : Nat) : Int) by omega]
          generalize hX1 : Value.int ((1 + List.idxOf (hg.getD k 0) c.od : Nat) : Int) _ = X1
          refine append_L (D := OT) (vs := z.ov) F26 N26 (.tail (Ne.symm nitT) (.tail (Nat.ne_of_gt oSG.1) (.head fun q hq => Nat.ne_of_lt (allLt_all (l := (HU, listOf hv.toArray c22) :: (OR, listOf c.ov.toArray c.on) :: (MK, listOf c.mv.toArray c.mn) :: (UP, listOf c.uv.toArray c.un) :: (D, listOf its.toArray nn) :: (BA, listOf bl.toArray 0) :: (L5 + 1 + 1, o7) :: (L5 + 1, o2) :: news) oOT q hq)))) (fun h27 F27 N27 => ?_) (by omega)
          clear F26 N26
          dsimp only
          k_steps
          refine Stop.e ?_
          rename Fr h₃ L5 _ _ => F28
          rename News h₃ L5 _ _ => N28
          refine KTb.item_list (News.isList N28 (.tail _ (.tail _ (.tail _ (.tail _ (.tail _ (.head _))))))) hP.mI (by omega) (by rw [List.length_map, hms.len]; omega) (by omega) (fun td _ => ?_)
          rw [Int.toNat_natCast, hmk]
          k_steps
          refine Stop.e ?_
          generalize hX2 : Value.str (sgnS (c.ms.getD k 0)) _ = X2
          refine append_L (D := SG) (vs := z.sv) F28 N28 (.tail (Ne.symm nitS) (.head fun q hq => (List.mem_cons.mp hq).elim (fun z => by rw [z]; exact Nat.ne_of_lt oSG.1) fun hq => Nat.ne_of_lt (allLt_all (l := (HU, listOf hv.toArray c22) :: (OR, listOf c.ov.toArray c.on) :: (MK, listOf c.mv.toArray c.mn) :: (UP, listOf c.uv.toArray c.un) :: (D, listOf its.toArray nn) :: (BA, listOf bl.toArray 0) :: (L5 + 1 + 1, o7) :: (L5 + 1, o2) :: news) oSG.2 q hq))) (fun h29 F29 N29 => ?_) (by omega)
          clear F28 N28
          dsimp only
          k_steps
          rename Fr h₃ L5 _ _ => F30
          rename News h₃ L5 _ _ => N30
          refine kQQ _ _ ?_
          refine' TurnPost.next (⟨z.ot ++ [1 + List.idxOf (hg.getD k 0) c.od], z.sg ++ [c.ms.getD k 0], z.ov ++ [X1], z.sv ++ [X2], z.on + 1, z.sn + 1⟩ : T2) rfl F30 N30 ?off (by (repeat' (first | exact Says.nil | refine Says.cons rfl ?_))) ⟨?ot, ?sg, ?oI, ?sI⟩
          case off =>
            intro p hp q hq
            rw [List.mem_singleton.mp hp]
            rcases List.mem_cons.mp hq with rfl | hq
            · exact nitS
            rcases List.mem_cons.mp hq with rfl | hq
            · exact nitT
            · exact hne q (.tail _ (.tail _ hq))
          case ot =>
            show z.ot ++ [1 + List.idxOf (hg.getD k 0) c.od] = _
            rw [take_map_succ hk?, hZ.ot, if_neg hz]
            rfl
          case sg =>
            show z.sg ++ [c.ms.getD k 0] = _
            rw [take_map_succ hk?, hZ.sg]
            rfl
          case oI =>
            show IntsAre (z.ov ++ [X1]) (intsN (z.ot ++ [1 + List.idxOf (hg.getD k 0) c.od]))
            rw [intsN_snoc, ← hX1]
            exact ints_snoc hZ.oI
          case sI =>
            show StrsAre (z.sv ++ [X2]) ((z.sg ++ [c.ms.getD k 0]).map sgnS)
            rw [List.map_append, ← hX2]
            exact strs_snoc hZ.sI
    case turn =>
      rintro i c h₁ hp tk t it o u hi hP rfl F20 N20 hne
      dsimp only [kstB] at F20
      clear F19 N19
      refine gen_Q fun QQ kQQ => ?_
      have e1 : (1 + (i : Int)).toNat = i + 1 := toNat_one_add i
      have e2 : (1 + (i : Int)) = ((i + 1 : Nat) : Int) := by omega
      have hm1 : Int.fmod ((js.getD (i + 1) 0 : Nat) : Int) (1 + (i : Int)) = ((js.getD (i + 1) 0 % (i + 1) : Nat) : Int) := by
        rw [e2, fmod_nat]
      have hm2 : Int.fmod (Int.fdiv ((js.getD (i + 1) 0 : Nat) : Int) 60) 2 = ((js.getD (i + 1) 0 / 60 % 2 : Nat) : Int) := dm (js.getD (i + 1) 0) 60 2
      have hm3 : Int.fmod (Int.fdiv ((js.getD (i + 1) 0 : Nat) : Int) 120) (1 + (i : Int)) = ((js.getD (i + 1) 0 / 120 % (i + 1) : Nat) : Int) := by
        rw [e2]
        exact dm (js.getD (i + 1) 0) 120 (i + 1)
      have nitU : UP ≠ it := hne (UP, listOf c.uv.toArray c.un) (.tail _ (.tail _ (.head _)))
      have nitM : MK ≠ it := hne (MK, listOf c.mv.toArray c.mn) (.tail _ (.head _))
      have nitO : OR ≠ it := hne (OR, listOf c.ov.toArray c.on) (.head _)
      have hul : c.uv.length = i + 1 := by
        have := hP.uI.length
        rw [intsN_length, hP.up.len] at this
        exact this
      have hml : c.mv.length = i + 1 := by
        have := hP.mI.length
        rw [List.length_map, hP.ms.len] at this
        exact this
      have hol : c.ov.length = i := by
        have := hP.oI.length
        rw [intsN_length, hP.od.length_eq, List.length_range'] at this
        exact this
      k_steps
      refine Stop.e ?_
      refine item_anyK (News.isList N20 (.tail _ (.tail _ (.tail _ (.tail _ (.head _)))))) hjs (by omega) (by rw [intsN_length, hjl]; omega) (by omega) (fun ta => ?_)
      rw [e1, intsN_getD]
      k_steps
      refine Stop.e ?_
      rw [hm1]
      generalize hX1 : Value.int ((js.getD (i + 1) 0 % (i + 1) : Nat) : Int) _ = X1
      refine append_L (D := UP) (vs := c.uv) F20 N20 (.tail (Ne.symm nitU) (.tail (Nat.ne_of_gt oOR.2.1) (.tail (Nat.ne_of_gt oMK.1) (.head fun q hq => Nat.ne_of_lt (allLt_all (l := (D, listOf its.toArray nn) :: (BA, listOf bl.toArray 0) :: (L5 + 1 + 1, o7) :: (L5 + 1, o2) :: news) oUP q hq))))) (fun h21 F21 N21 => ?_) (by omega)
      clear F20 N20
      dsimp only
      k_steps
      refine Stop.e ?_
      rename Fr h₁ L5 _ _ => F22
      rename News h₁ L5 _ _ => N22
      refine item_anyK (News.isList N22 (.tail _ (.tail _ (.tail _ (.tail _ (.head _)))))) hjs (by omega) (by rw [intsN_length, hjl]; omega) (by omega) (fun tb => ?_)
      rw [e1, intsN_getD]
      k_steps
      refine Stop.e ?_
      rw [hm2]
      refine KXi.item (n := 2) rfl (by omega) (by omega) (by decide) (fun _ => ?_)
      have hit : ∃ y : Nat, (y = 1 ∨ y = 2) ∧ Txt.item (PySem.Str.ofString "ab") ((js.getD (i + 1) 0 / 60 % 2 : Nat) : Int) = sgnS y := by
        have : js.getD (i + 1) 0 / 60 % 2 = 0 ∨ js.getD (i + 1) 0 / 60 % 2 = 1 := by omega
        rcases this with e | e <;> rw [e]
        · exact ⟨2, .inr rfl, by decide +kernel⟩
        · exact ⟨1, .inl rfl, by decide +kernel⟩
      (refine hide fun PQ kQ => ?_; obtain ⟨y, hy, hys⟩ := hit; refine kQ ?_; clear kQ PQ)
      rw [hys]
      k_steps
      refine Stop.e ?_
      generalize hX2 : Value.str (sgnS y) _ = X2
      refine append_L (D := MK) (vs := c.mv) F22 N22 (.tail (Ne.symm nitM) (.tail (Nat.ne_of_gt oOR.1) (.head fun q hq => (List.mem_cons.mp hq).elim (fun z => by rw [z]; exact Nat.ne_of_lt oMK.1) fun hq => Nat.ne_of_lt (allLt_all (l := (D, listOf its.toArray nn) :: (BA, listOf bl.toArray 0) :: (L5 + 1 + 1, o7) :: (L5 + 1, o2) :: news) oMK.2 q hq)))) (fun h23 F23 N23 => ?_) (by omega)
      clear F22 N22
      dsimp only
      k_steps
      refine Stop.e ?_
      rename Fr h₁ L5 _ _ => F24
      rename News h₁ L5 _ _ => N24
      refine item_anyK (News.isList N24 (.tail _ (.tail _ (.tail _ (.tail _ (.head _)))))) hjs (by omega) (by rw [intsN_length, hjl]; omega) (by omega) (fun tc => ?_)
      rw [e1, intsN_getD]
      k_steps
      refine Stop.e ?_
      rw [hm3]
      have hmod : js.getD (i + 1) 0 / 120 % (i + 1) < i + 1 := Nat.mod_lt _ (by omega)
      refine kl_insert (its := c.ov.toArray) (n := c.on) (l := c.ov.take (min (js.getD (i + 1) 0 / 120 % (i + 1)) c.ov.length) ++ .int (1 + (i : Int)) t :: c.ov.drop (min (js.getD (i + 1) 0 / 120 % (i + 1)) c.ov.length)) F24 N24 ?fit (kl_ins_nat _ _ _)
        (.tail (Ne.symm nitO) (.head fun q hq => (List.mem_cons.mp hq).elim (fun z => by rw [z]; exact Nat.ne_of_lt oOR.1) fun hq => (List.mem_cons.mp hq).elim (fun z => by rw [z]; exact Nat.ne_of_lt oOR.2.1) fun hq => Nat.ne_of_lt (allLt_all (l := (D, listOf its.toArray nn) :: (BA, listOf bl.toArray 0) :: (L5 + 1 + 1, o7) :: (L5 + 1, o2) :: news) oOR.2.2 q hq))) (by rw [sizeLine_eq]; show c.ov.length ≤ _; omega) (fun h25 F25 N25 => ?_)
      case fit =>
        unfold Builtin.List.listFitsIndex
        simp only [Bool.and_eq_true, decide_eq_true_eq]
        omega
      clear F24 N24
      dsimp only
      k_steps
      rename Fr h₁ L5 _ _ => F26
      rename News h₁ L5 _ _ => N26
      refine kQQ _ _ ?_
      refine' TurnPost.next (⟨c.up ++ [js.getD (i + 1) 0 % (i + 1)], c.ms ++ [y], c.od.take (min (js.getD (i + 1) 0 / 120 % (i + 1)) c.ov.length) ++ (i + 1) :: c.od.drop (min (js.getD (i + 1) 0 / 120 % (i + 1)) c.ov.length), c.uv ++ [X1], c.mv ++ [X2], c.ov.take (min (js.getD (i + 1) 0 / 120 % (i + 1)) c.ov.length) ++ .int (1 + (i : Int)) t :: c.ov.drop (min (js.getD (i + 1) 0 / 120 % (i + 1)) c.ov.length), c.un + 1, c.mn + 1, c.on + 1⟩ : T1) rfl F26 N26 ?off (by (repeat' (first | exact Says.nil | refine Says.cons rfl ?_))) ⟨hP.up.snoc (by omega) (Nat.mod_lt _ (by omega)), hP.ms.snoc (by omega) hy, perm_insert hP.od rfl, ?uI, ?mI, ?oI⟩
      case off =>
        intro p hp q hq
        rw [List.mem_singleton.mp hp]
        rcases List.mem_cons.mp hq with rfl | hq
        · exact nitO
        rcases List.mem_cons.mp hq with rfl | hq
        · exact nitM
        rcases List.mem_cons.mp hq with rfl | hq
        · exact nitU
        · exact hne q (.tail _ (.tail _ (.tail _ hq)))
      case uI =>
        rw [intsN_snoc, ← hX1]
        exact ints_snoc hP.uI
      case mI =>
        rw [List.map_append, ← hX2]
        exact strs_snoc hP.mI
      case oI =>
        rw [e2]
        exact ints_insert hP.oI
  case cturn =>
    rintro i _ h11 tk11 t11 C D I oI its nn u11 E' RE hi ⟨hl11, js, hjs⟩ hc hRE
    refine wpAny_of_eq (a := ()) rfl ?_
    refine CompAt.set (s := ⟨h11, sG, sD, tk11, sO⟩) hc rfl rfl fun h12 hc2 => ?_
    dsimp only
    refine compTests_nil ?_
    rw [if_pos rfl]
    (refine hide fun PQ kQ => ?_; obtain ⟨oC, hnC, N12⟩ := hc2.N; refine kQ ?_; clear kQ PQ)
    have F12 := hc2.F
    replace N12 := News.pre (f := [(C, oC), (BA, listOf bl.toArray 0), (L5 + 1 + 1, o7), (L5 + 1, o2)]) N12 tr_front
    simp only [List.cons_append, List.nil_append] at N12
    clear F8 N8
    k_steps
    refine Stop.e ?_
    refine item_anyK (News.isList N12 (.tail _ (.head _))) hbi (by omega) (by show (0 : Int) + (i : Int) < 6; omega) (by omega) (fun tb => ?_)
    have hb0 : ∃ b : Nat, ([25, 0, 120, 61, 300, 180] : List Int).getD (0 + (i : Int)).toNat 0 = (b : Int) := by
      have hi' : i = 0 ∨ i = 1 ∨ i = 2 ∨ i = 3 ∨ i = 4 ∨ i = 5 := by omega
      rcases hi' with rfl | rfl | rfl | rfl | rfl | rfl
      · exact ⟨25, rfl⟩
      · exact ⟨0, rfl⟩
      · exact ⟨120, rfl⟩
      · exact ⟨61, rfl⟩
      · exact ⟨300, rfl⟩
      · exact ⟨180, rfl⟩
    obtain ⟨b, hb⟩ := hb0
    rw [hb]
    k_steps
    refine Stop.e ?_
    refine evalComp (cl := []) (fun _ => rfl) rfl rfl (by decide) ?_
    k_steps
    refine Stop.e ?_
    have hs12 : h12.IsList sa sv.toArray := hsa5.at fun o e => F12.keep _ o e
    have hpk := hsv.pick (some (0 + (i : Int))) none (some 6)
    have hpl := length_pickNums_le hsv (some (0 + (i : Int))) none (some 6)
    have hsl : sv.length = ns.length := by simpa using hsv.length
    refine kmk_slice3_lit (zs := (slicePick sv.toArray (some (0 + (i : Int))) none (some 6)).toList) F12 N12 hs12 (.int _ _) .none (.int _ _) (by decide) rfl (fun Z h13 F13 N13 hlt13 => ?_) (by with_unfolding_all rfl) (by intro _; with_unfolding_all rfl) (by rw [List.size_toArray, hsl, sizeLine_eq]; omega)
    (revert N13; revert hpk; refine gen0 ((slicePick sv.toArray (some (0 + (i : Int))) none (some 6)).toList) fun zv => ?_; intro hpk N13)
    (revert hpl; revert hpk; refine gen0 (pickNums ns (some (0 + (i : Int))) none (some 6)) fun zn => ?_; intro hpk hpl)
    k_steps
    refine Stop.e ?_
    have hzl : zv.length = zn.length := by simpa using hpk.length
    clear F12 N12
    refine compG_list (σ := Unit) (vs := zv) (nn₀ := 0) (fun _ => (Z, listOf zv.toArray 0) :: (C, oC) :: (BA, listOf bl.toArray 0) :: (L5 + 1 + 1, o7) :: (L5 + 1, o2) :: (C, oC) :: (D, listOf its.toArray nn) :: (I, oI) :: (BA, listOf bl.toArray 0) :: (L5 + 1 + 1, o7) :: (L5 + 1, o2) :: news)
      (fun j its _ => its.length = j ∧ ∃ js : List Nat, IntsAre its (intsN js)) () (fun _ => .head _) rfl (by decide) rfl (by rw [hzl]; omega) F13 N13 ⟨rfl, [], .nil⟩ (fun _ _ _ hP => Nat.le_of_eq hP.1) ?xturn ?xdone
    case xturn =>
      rintro j _ h14 tk14 v C2 D2 I2 oI2 its2 nn2 u14 E2 RE2 hv ⟨hl14, js2, hjs2⟩ hc14 _ hRE2
      obtain ⟨z, tz, rfl⟩ : ∃ z t, v = Value.int z t := hpk.all v (List.mem_of_getElem? hv)
      refine wpAny_of_eq (a := ()) rfl ?_
      refine CompAt.set (s := ⟨h14, sG, sD, tk14, sO⟩) hc14 rfl rfl fun h15 hc15 => ?_
      dsimp only
      refine compTests_nil ?_
      rw [if_pos rfl]
      (refine hide fun PQ kQ => ?_; obtain ⟨oC2, hnC2, N15⟩ := hc15.N; refine kQ ?_; clear kQ PQ)
      have F15 := hc15.F
      clear F13 N13
      k_steps
      refine hRE2 _ _ (CompEnd.i () hc15 ⟨by rw [List.length_append, hl14]; rfl, js2 ++ [(z.fmod 1000000).toNat], ?_⟩)
      rw [intsN_snoc, Int.toNat_of_nonneg (fmod_lo z (by decide))]
      exact ints_snoc hjs2
    case xdone =>
      rintro _ h14 tk14 D2 C2 its2 nn2 oC2 u14 ⟨hl14, js2, hjs2⟩ F14 hnC2 N14 hCD14 off14
      refine compPost_none F14 hnC2 N14 (fun p hp => ?_) (fun h15 F15 N15 => ?_)
      · rcases List.mem_cons.mp hp with rfl | hp
        · exact Ne.symm hCD14
        · exact (off14 p hp).1
      clear F14 N14 F13 N13
      k_steps
      refine Stop.e ?_
      refine sumK rfl F15 N15 (News.isList N15 (.head _)) hjs2 (fun h16 tk16 t16 F16 N16 => ?_)
      k_steps
      refine hRE _ _ (CompEnd.i () ⟨F16, ⟨oC, hnC, fun q hq => N16 q (tr_deep hq)⟩, hc2.cd, hc2.ci, hc2.di, hc2.off⟩ ⟨by rw [List.length_append, hl11]; rfl, js ++ [b + js2.sum], ?_⟩)
      rw [intsN_snoc, Int.natCast_add, ← intsN_sum]
      exact ints_snoc hjs
end Mine
end
section
open PySem PySem.Spec PySem.Calls PyProof.Rows PySem.W
set_option Elab.async false
set_option maxRecDepth 100000
set_option maxHeartbeats 8000000
set_option pp.deepTerms false
set_option pp.maxSteps 2500
namespace Mine
local macro_rules | `(tactic| walk_at $_) => Lean.Macro.throwUnsupported
theorem mypln_off : True := by
  w_top off
  trivial
local macro_rules | `(tactic| walk_at $k) => Mine.stopAt k ["call ref", "pyIter ref", "eval ListComp Call cons", "eval ListComp Name cons", "eval ListComp Call", "eval ListComp Name", "eval ListComp", "call builtin:sorted", "subscriptTail", "binaryOp Add ref ref", "binaryOp Mult str int", "binaryOp Add str str"]
structure PlainArgs (up ms : List Nat) (w : Nat) : Prop where
  n1 : 1 ≤ up.length
  n6 : up.length ≤ 6
  nm : ms.length = up.length
  w1 : 1 ≤ w
  w2 : w ≤ 2
  m4 : ∀ m ∈ ms, m < 4
theorem plain_rel {news : List (Addr × Obj)} {up ms : List Nat} {wd : Nat} (h lead : Nat) {ua ma : Addr} {tw th tl : Tok} {us mv : List Value} {nu nm : Nat} (h1 : (ua, listOf us.toArray nu) ∈ news) (h2 : (ma, listOf mv.toArray nm) ∈ news) (hu : IntsAre us (intsN up)) (hm : StrsAre mv (ms.map sgnS)) :
    ∃ ua' ma' tw' th' tl' us mv nu nm, [Value.ref ua, .ref ma, .int (wd : Int) tw, .int (h : Int) th, .int (lead : Int) tl] = [.ref ua', .ref ma', .int (wd : Int) tw', .int (h : Int) th', .int (lead : Int) tl'] ∧ (ua', listOf us.toArray nu) ∈ news ∧ (ma', listOf mv.toArray nm) ∈ news ∧ IntsAre us (intsN up) ∧ StrsAre mv (ms.map sgnS) := ⟨_, _, _, _, _, _, _, _, _, rfl, h1, h2, hu, hm⟩
theorem plain_tell (w : World) (up ms : List Nat) (wd : Nat) (hA : PlainArgs up ms wd) (rk : Nat → Nat) (hrk : ∀ k, 1 ≤ k → k < up.length → rk k < rk (up.getD k 0)) :
    ∀ f, f ≤ 6 → ∀ h lead, h < up.length → rk h < f → lead + 2 * f ≤ 100 → Tell w ((40 + 10 * f)) 221 (fun news vs => ∃ ua ma tw th tl us mv nu nm, vs = [.ref ua, .ref ma, .int (wd : Int) tw, .int (h : Int) th, .int (lead : Int) tl] ∧ (ua, listOf us.toArray nu) ∈ news ∧ (ma, listOf mv.toArray nm) ∈ news ∧ IntsAre us (intsN up) ∧ StrsAre mv (ms.map sgnS))
      (fun tl r => ∃ D dv nd, tl = [(D, listOf dv.toArray nd)] ∧ r = .ref D ∧ StrsAre dv ((pageN up ms f h).1.map (rowOf lead wd))) := by
  intro f
  induction f with
  | zero => intro _ h _ _ h0; exact absurd h0 (Nat.not_lt_zero _)
  | succ f ih =>
  intro hf h lead hh hrh hlead
  have hfill : PySem.Challenge.rw_wa0025_01 = PySem.Challenge.rw_wa0025_01 ∧ hd.heap_1 = hd.heap_1 := by k_fill; exact ⟨rfl, rfl⟩
  unfold Tell
  intro prog p loose mean mg mb dp un gd cn cs ad ccd cl outer A₀ base h₀ L m news s vs Q E B F X N T hk hR hdp hun hret
  obtain ⟨sH, sG, sD, sT, sO⟩ := s
  dsimp only at F N hret
  (refine hide fun PQ kQ => ?_; obtain ⟨ua, ma, tw, th, tl, us, mv, nu, nm, rfl, hua, hma, hus, hms⟩ := hR; refine kQ ?_; clear kQ PQ)
  refine wpAny_call ?_
  k_dflt (refine' code_defC ?k1 ?k2 ?k3 ?k4 ?k5 ?kA ?kF ?kK ?k6 ?k7 ?k8 ?k9 ?kB ?kD ?_ ?c2 ?c3 ?c4; (case kA => exact rfl); (case kF => exact rfl); (case kK => first | assumption | exact rfl); (case k1 => k_asm); (case k2 => k_asm); (case k3 => k_asm); (case k4 => k_asm); (case k5 => k_asm); (case k6 => k_is); (case k7 => k_is); (case k8 => ktr_room); (case k9 => first | exact BindsTo.of_eq rfl | exact binds_K (by k_in) rfl (by k_is) rfl rfl rfl); (case kB => exact rfl); (case kD => decide +kernel); (case c2 => exact rfl); (case c3 => exact rfl); (case c4 => exact rfl); k_whole)
  intro g5 L5 h5 tk5 cells5 FG5 F5 N5 Y5 B5 X5 T5 l5
  refine gen_E PassesOwn.leaving fun EE hEE => ?_
  (refine hide fun PQ kQ => ?_; obtain ⟨o1, o2, o3, o4, o5, rfl, d1, d2, d3, d4, d5⟩ := kc_five Y5; refine kQ ?_; clear kQ PQ)
  clear Y5
  replace d1 : o1.data = .cell (some (.int (lead : Int) tl)) := d1
  replace d2 : o2.data = .cell (some (.int (h : Int) th)) := d2
  replace d3 : o3.data = .cell (some (.int (wd : Int) tw)) := d3
  replace d4 : o4.data = .cell (some (.ref ma)) := d4
  replace d5 : o5.data = .cell (some (.ref ua)) := d5
  simp only [List.cons_append, List.nil_append] at N5
  have F6 : Fr g5 L5 h5 (fun _ => none) := F5
  clear F5
  have e4 : News g5 L5 h5 ((ua, listOf us.toArray nu) :: (ma, listOf mv.toArray nm) :: (L5 + 1 + 1 + 1 + 1 + 1, o1) :: (L5 + 1 + 1 + 1 + 1, o2) :: (L5 + 1 + 1 + 1, o3) :: (L5 + 1 + 1, o4) :: (L5 + 1, o5) :: news) :=
    News.dup (News.dup N5 (wy_in hma)) (.tail _ (wy_in hua))
  clear N5
  have hul : us.length = up.length := by simpa [intsN] using hus.length
  have hml : mv.length = up.length := by
    have := hms.length
    rw [List.length_map, hA.nm] at this
    exact this
  have hus' := Stop.e hus
  have hms' := Stop.e hms
  have hn6 := hA.n6
  clear hms hus
  k_steps
  refine Stop.e ?_
  refine evalComp (cl := [("width", L5 + 1 + 1 + 1), ("up", L5 + 1), ("marks", L5 + 1 + 1), ("lead", L5 + 1 + 1 + 1 + 1 + 1), ("head", L5 + 1 + 1 + 1 + 1)]) (fun _ => rfl) ?clo rfl (by decide) ?_
  case clo => rfl
  k_steps
  rename_i F6a N6a h6 t6 tk7 u6 v6 R6 F7 N7 K7
  refine Stop.e ?_
  have hb5 : ∀ q ∈ (ua, listOf us.toArray nu) :: (ma, listOf mv.toArray nm) :: (L5 + 1 + 1 + 1 + 1 + 1, o1) :: (L5 + 1 + 1 + 1 + 1, o2) :: (L5 + 1 + 1 + 1, o3) :: (L5 + 1 + 1, o4) :: (L5 + 1, o5) :: news, True := fun _ _ => trivial
  clear F6a N6a
  refine compG_range (σ := List (Addr × Obj)) (n := up.length - 1) (fun cc => cc ++ ((ua, listOf us.toArray nu) :: (ma, listOf mv.toArray nm) :: (L5 + 1 + 1 + 1 + 1 + 1, o1) :: (L5 + 1 + 1 + 1 + 1, o2) :: (L5 + 1 + 1 + 1, o3) :: (L5 + 1 + 1, o4) :: (L5 + 1, o5) :: news))
    (fun i its cc => its.length ≤ i ∧ RowsAt cc its (((kidsL (pageN up ms f) up h i).map (·.1)).map fun c => c.map (rowOf (lead + wd) wd))) [] R6 (by first | exact small_1 (by omega) | exact small_one (by decide) (by decide) (by omega) (by omega)) (by first | exact size_1 (by omega) | (rw [rangeSize_nat]; omega)) rfl (by decide) rfl (by omega) F7 N7 ⟨Nat.le_refl _, .nil⟩ (fun _ _ _ hP => hP.1) ?cturn ?cdone
  case cdone =>
    rintro cc h11 tk11 D C its nn oC u11 ⟨hl11, hW⟩ F11 hnC N11 hCD off11
    refine compPost_none F11 hnC N11 (fun p hp => ?_) (fun h12 F12 N12 => ?_)
    · rcases List.mem_cons.mp hp with rfl | hp
      · exact Ne.symm hCD
      · exact (off11 p hp).1
    k_steps
    refine Stop.e ?_
    have hkl := @kidsL_length (pageN up ms f) up h (up.length - 1)
    refine sorted_rows (f := rowOf (lead + wd) wd) (nn := nn) (Cs := (kidsL (pageN up ms f) up h (up.length - 1)).map (·.1)) F12 N12 (.head _) (hW.mono fun q hq => .tail _ (List.mem_append_left _ hq)) (fun a b _ _ => lexS_rowOf hA.w1 a b) (by rw [List.length_map]; omega) (by show un + 3 + 4 < cLine; omega) (fun D13 c13 vs13 h13 F13 N13 hlt13 hR13 => ?_)
    rw [← kidsN_ins] at hR13
    clear F12 N12 F11 N11 F7 N7
    replace N13 : News g5 L5 h13 ((D13, listOf vs13.toArray c13) :: (ua, listOf us.toArray nu) :: (ma, listOf mv.toArray nm) :: (L5 + 1 + 1 + 1 + 1 + 1, o1) :: (L5 + 1 + 1 + 1 + 1, o2) :: (L5 + 1 + 1 + 1, o3) :: (L5 + 1 + 1, o4) :: (L5 + 1, o5) :: ((D, listOf its.toArray nn) :: cc ++ news)) := News.to N13 pl_fin
    replace hR13 := hR13.mono (pl_fin2 (a := (D13, listOf vs13.toArray c13)))
    (revert hR13; revert N13; refine gen1 ((D, listOf its.toArray nn) :: cc) fun cd hcc => ?_; intro N13 hR13)
    clear hcc
    k_steps
    rename Fr g5 L5 _ _ => F14
    rename News g5 L5 _ _ => N14
    refine Stop.e ?_
    refine blank_mul (n := lead) (by omega) (fun t14 k14 => ?_)
    k_steps
    refine Stop.e ?_
    have hmh : h < ms.length := by rw [hA.nm]; exact hh
    refine KTb.item_list (News.isList N14 (.tail _ (.tail _ (.head _)))) (Stop.i hms') (by omega) (by rw [List.length_map]; omega) (by omega) (fun t15 _ => ?_)
    rw [Int.toNat_natCast]
    have hmk : (ms.map sgnS).getD h PySem.Str.empty = sgnS (ms.getD h 0) := by
      rw [List.getD_eq_getElem?_getD, List.getD_eq_getElem?_getD, List.getElem?_map, List.getElem?_eq_getElem hmh]
      rfl
    rw [hmk]
    k_steps
    refine Stop.e ?_
    refine KXadd.add (K := 100) (L := 10) (by unfold blanks; simp [PySem.Str.length]; omega) (by show (1 : Nat) ≤ 10; decide) (by decide) (fun t16 k16 _ => ?_)
    k_steps
    refine Stop.e ?_
    refine evalComp (cl := []) (fun _ => rfl) rfl rfl (by decide) ?_
    k_steps
    rename_i H15 h15 F15 N15 o15
    refine Stop.e ?_
    (revert hR13; refine gen1 ((kidsN (pageN up ms f) up h (up.length - 1)).1) fun KK hKK => ?_; intro hR13)
    have hKl : KK.length ≤ 5 := by
      rw [← hKK]
      exact Nat.le_trans kidsN_length (by omega)
    have hvl : vs13.length = KK.length := by simpa using hR13.length
    have hKf : ∀ j, ((KK.take j).map fun c => c.map (rowOf (lead + wd) wd)).flatten.length ≤ 5 * 4000 := by
      intro j
      refine Nat.le_trans (flatten_bound (b := 4000) fun x hx => ?_) (Nat.mul_le_mul_right _ ?_)
      · (refine hide fun PQ kQ => ?_; obtain ⟨c, hc, rfl⟩ := List.mem_map.mp hx; refine kQ ?_; clear kQ PQ)
        have hc2 := List.mem_of_mem_take hc
        rw [← hKK] at hc2
        (refine hide fun PQ kQ => ?_; obtain ⟨k, _, _, _, rfl⟩ := kidsN_mem hc2; refine kQ ?_; clear kQ PQ)
        rw [List.length_map]
        exact Nat.le_trans (pageN_len hn6 f k) (Rb_le (by omega))
      · rw [List.length_map, List.length_take]
        omega
    refine comp2_list (σ := Unit) (vs := vs13) (nn₀ := c13) (fun _ => (H15, listOf ([.str (blanks lead ++ sgnS (ms.getD h 0)) t16] : List Value).toArray 0) :: (D13, listOf vs13.toArray c13) :: (ua, listOf us.toArray nu) :: (ma, listOf mv.toArray nm) :: (L5 + 1 + 1 + 1 + 1 + 1, o1) :: (L5 + 1 + 1 + 1 + 1, o2) :: (L5 + 1 + 1 + 1, o3) :: (L5 + 1 + 1, o4) :: (L5 + 1, o5) :: (cd ++ news))
      (fun j its _ => StrsAre its ((KK.take j).map fun c => c.map (rowOf (lead + wd) wd)).flatten) () (fun _ => .tail _ (.head _)) rfl (by decide) rfl rfl rfl (fun _ _ => rfl) F15 N15 .nil ?pturn ?pdone
    case pdone =>
      rintro _ h17 tk17 D17 C17 its17 nn17 oC17 u17 hW17 F17 hnC17 N17 hCD17 off17
      refine compPost_none F17 hnC17 N17 (fun p hp => ?_) (fun h18 F18 N18 => ?_)
      · rcases List.mem_cons.mp hp with rfl | hp
        · exact Ne.symm hCD17
        · exact (off17 p hp).1
      clear F17 N17 F15 N15
      k_steps
      refine Stop.e ?_
      have hKf2 := hKf vs13.length
      have hl17 : its17.length = _ := hW17.length
      refine kmk_add_lit (zs := Value.str (blanks lead ++ sgnS (ms.getD h 0)) t16 :: its17) F18 N18 (News.isList N18 (.tail _ (.head _))) (News.isList N18 (.head _)) rfl (fun D19 h19 F19 N19 hlt19 => ?_) (by simp only [List.length_cons, List.length_nil]; rw [sizeLine_eq, hl17]; omega)
      k_steps
      rename Fr h₀ L _ m => kF
      rename News h₀ L _ _ => kN
      rw [hvl, List.take_length] at hW17
      refine hret _ [(D19, listOf (Value.str (blanks lead ++ sgnS (ms.getD h 0)) t16 :: its17).toArray 0)] _ _ kF (fun q hq => kN q (pl_ret hq)) (fun q hq p hp => ?_) ⟨D19, _, 0, rfl, rfl, ?_⟩
      · rw [List.mem_singleton.mp hp]
        exact hlt19 q (pl_in10 hq)
      · have hm4 : ms.getD h 0 < 4 := by
          rw [List.getD_eq_getElem?_getD, List.getElem?_eq_getElem hmh]
          exact hA.m4 _ (List.getElem_mem hmh)
        have e : (pageN up ms (f + 1) h).1.map (rowOf lead wd) = (blanks lead ++ sgnS (ms.getD h 0)) :: (KK.map fun c => c.map (rowOf (lead + wd) wd)).flatten := by
          rw [← hKK]
          exact page_row_eq hm4
        rw [e]
        exact .cons _ t16 hW17
    case pturn =>
      rintro j _ h17 tk17 v C17 D17 I17 oI17 its17 nn17 u17 E17 E18 hv hW17 hc17
      have hj : j < KK.length := by
        have := (List.getElem?_eq_some_iff.mp hv).1
        omega
      obtain ⟨ap, wp, np, hap, hapm, hwp⟩ := hR13.at (i := j) (by rw [List.length_map]; exact hj)
      rw [hap] at hv
      cases hv
      (refine hide fun PQ kQ => ?_; obtain ⟨oC17, hnC17, N17⟩ := hc17.N; refine kQ ?_; clear kQ PQ)
      have F17 := hc17.F
      replace N17 := News.pre (f := [(C17, oC17)]) N17 (fun q hq => by rw [List.mem_singleton.mp hq]; exact .head _)
      simp only [List.cons_append, List.nil_append] at N17
      clear F15 N15
      k_steps
      refine Stop.e ?_
      have hpr : ((KK.map fun c => c.map (rowOf (lead + wd) wd)))[j]? = some ((KK.getD j []).map (rowOf (lead + wd) wd)) := by
        rw [List.getElem?_map, List.getD_eq_getElem?_getD, List.getElem?_eq_getElem hj]
        rfl
      rw [getD_map_map] at hwp
      have hwl : wp.length = ((KK.getD j []).map (rowOf (lead + wd) wd)).length := by simpa using hwp.length
      have hKf1 := hKf (j + 1)
      rw [List.map_take, take_flat hpr, List.length_append] at hKf1
      refine compIn_list (σ := Unit) (vs := wp) (nn₁ := np) (fun _ => (H15, listOf ([.str (blanks lead ++ sgnS (ms.getD h 0)) t16] : List Value).toArray 0) :: (D13, listOf vs13.toArray c13) :: (ua, listOf us.toArray nu) :: (ma, listOf mv.toArray nm) :: (L5 + 1 + 1 + 1 + 1 + 1, o1) :: (L5 + 1 + 1 + 1 + 1, o2) :: (L5 + 1 + 1 + 1, o3) :: (L5 + 1 + 1, o4) :: (L5 + 1, o5) :: (cd ++ news))
        (fun i its _ => i ≤ wp.length ∧ StrsAre its (((KK.take j).map fun c => c.map (rowOf (lead + wd) wd)).flatten ++ ((KK.getD j []).map (rowOf (lead + wd) wd)).take i)) () rfl rfl (fun _ => .tail _ hapm) rfl rfl rfl rfl hc17 ⟨Nat.zero_le _, by rw [List.take_zero, List.append_nil]; exact hW17⟩ ?len (fun _ _ _ _ p hp => (hc17.off p hp).2.2) ?yturn ?ydone
      case len =>
        rintro i its18 _ ⟨hi18, hW18⟩
        have h1 : its18.length = _ := hW18.length
        rw [List.length_append, List.length_take] at h1
        rw [List.map_take] at h1
        omega
      case ydone =>
        rintro _ h18 tk18 its18 nn18 u18 ⟨_, hW18⟩ hc18
        refine ⟨(), h18, tk18, its18, nn18, u18, rfl, hc18, ?_⟩
        rw [List.map_take, take_flat hpr, ← List.map_take]
        rw [hwl, List.take_length] at hW18
        exact hW18
      case yturn =>
        rintro i _ h18 tk18 v I18 oI18 its18 nn18 u18 E19 hv18 ⟨hi18, hW18⟩ hc18 hu18
        (refine hide fun PQ kQ => ?_; obtain ⟨y, ty, rfl, hy⟩ := strs_getv hwp hv18; refine kQ ?_; clear kQ PQ)
        refine compTests_nil ?_
        (refine hide fun PQ kQ => ?_; obtain ⟨oC18, hnC18, N18⟩ := hc18.N; refine kQ ?_; clear kQ PQ)
        have F18 := hc18.F
        rw [if_pos rfl]
        clear N17 F17
        k_steps
        refine Stop.e ⟨(), h18, _, _, rfl, hc18, fun z hz => (if_neg hz).trans (hu18 z hz), Nat.succ_le_of_lt (List.getElem?_eq_some_iff.mp hv18).1, ?_⟩
        rw [List.take_succ, hy, ← List.append_assoc]
        exact strs_snoc hW18
  case cturn =>
    rintro i cc h11 tk11 t11 C D I oI its nn u11 E' RE hi ⟨hl11, hW⟩ hc hRE
    refine wpAny_of_eq (a := ()) rfl ?_
    refine CompAt.set (s := ⟨h11, sG, sD, tk11, sO⟩) hc rfl rfl fun h12 hc2 => ?_
    dsimp only
    refine compTests_one ?_
    (refine hide fun PQ kQ => ?_; obtain ⟨oC, hnC, N12⟩ := hc2.N; refine kQ ?_; clear kQ PQ)
    have F12 := hc2.F
    have e1 : (1 + (i : Int)).toNat = i + 1 := toNat_one_add i
    replace N12 := News.pre (f := [(C, oC), (ua, listOf us.toArray nu), (ma, listOf mv.toArray nm), (L5 + 1 + 1 + 1 + 1 + 1, o1), (L5 + 1 + 1 + 1 + 1, o2), (L5 + 1 + 1 + 1, o3), (L5 + 1 + 1, o4), (L5 + 1, o5)]) N12 (pl_front)
    simp only [List.cons_append, List.nil_append] at N12
    clear F7 N7
    k_steps
    · rename (intsN up).getD _ _ = _ => hup
      rw [e1, intsN_getD] at hup
      have hup' : up.getD (i + 1) 0 = h := by omega
      have hrk1 := hrk (i + 1) (by omega) (by omega)
      rw [hup'] at hrk1
      refine Stop.e ?_
      rw [show (1 + (i : Int)) = ((i + 1 : Nat) : Int) by omega, ← Int.natCast_add]
      refine Tell.use B5 F12 X5 N12 T5 rfl (ih (by omega) (i + 1) (lead + wd) (by omega) (by omega) (by have := hA.w2; omega)) (plain_rel (i + 1) (lead + wd) (.tail _ (.head _)) (.tail _ (.tail _ (.head _))) (Stop.i hus') (Stop.i hms')) (by show dp + 1 + (40 + 10 * f) < recursionLimit; omega) (by show un + 3 + 8 * ((40 + 10 * f)) < cLine; omega) ?_
      (intro r tl13 h13 tk13 F13 N13 hlt13 hQ226; refine hide fun PQ kQ => ?_; obtain ⟨D13, dv13, nd13, rfl, rfl, hdv13⟩ := hQ226; refine kQ ?_; clear kQ PQ)
      have hWn : ∀ q ∈ (C, oC) :: (D, listOf its.toArray nn) :: (I, oI) :: (cc ++ ((ua, listOf us.toArray nu) :: (ma, listOf mv.toArray nm) :: (L5 + 1 + 1 + 1 + 1 + 1, o1) :: (L5 + 1 + 1 + 1 + 1, o2) :: (L5 + 1 + 1 + 1, o3) :: (L5 + 1 + 1, o4) :: (L5 + 1, o5) :: news)), q.1 ≠ D13 ∧ q ∈ [(D13, listOf dv13.toArray nd13)] ++ ((C, oC) :: (ua, listOf us.toArray nu) :: (ma, listOf mv.toArray nm) :: (L5 + 1 + 1 + 1 + 1 + 1, o1) :: (L5 + 1 + 1 + 1 + 1, o2) :: (L5 + 1 + 1 + 1, o3) :: (L5 + 1 + 1, o4) :: (L5 + 1, o5) :: (C, oC) :: (D, listOf its.toArray nn) :: (I, oI) :: (cc ++ ((ua, listOf us.toArray nu) :: (ma, listOf mv.toArray nm) :: (L5 + 1 + 1 + 1 + 1 + 1, o1) :: (L5 + 1 + 1 + 1 + 1, o2) :: (L5 + 1 + 1 + 1, o3) :: (L5 + 1 + 1, o4) :: (L5 + 1, o5) :: news))) :=
        fun q hq => ⟨Nat.ne_of_lt (hlt13 q (pl_deep hq) _ (.head _)), .tail _ (pl_deep hq)⟩
      have hc3 : CompAt g5 L5 (fun _ => none) C D I oI its nn ((cc ++ [(D13, listOf dv13.toArray nd13)]) ++ ((ua, listOf us.toArray nu) :: (ma, listOf mv.toArray nm) :: (L5 + 1 + 1 + 1 + 1 + 1, o1) :: (L5 + 1 + 1 + 1 + 1, o2) :: (L5 + 1 + 1 + 1, o3) :: (L5 + 1 + 1, o4) :: (L5 + 1, o5) :: news)) (fun y => if y = PySem.Str.ofString "k" then some (Value.int (1 + (i : Int)) t11) else u11 y) h13 := by
        refine ⟨F13, ⟨oC, hnC, fun q hq => N13 q ?_⟩, hc2.cd, hc2.ci, hc2.di, fun q hq => ?_⟩
        · rcases pl_split (x := (D13, listOf dv13.toArray nd13)) hq with rfl | hq
          · exact .head _
          · exact (hWn q hq).2
        · rcases pl_split2 (x := (D13, listOf dv13.toArray nd13)) hq with rfl | hq
          · exact ⟨Ne.symm (hWn (C, oC) (.head _)).1, Ne.symm (hWn (D, listOf its.toArray nn) (.tail _ (.head _))).1, Ne.symm (hWn (I, oI) (.tail _ (.tail _ (.head _)))).1⟩
          · exact hc2.off q hq
      refine hRE _ _ (CompEnd.i (cc ++ [(D13, listOf dv13.toArray nd13)]) hc3 ⟨?_, ?_⟩)
      · rw [List.length_append]
        exact Nat.succ_le_succ hl11
      · rw [kidsL_succ, if_pos hup', List.map_append, List.map_append]
        exact RowsAt.snoc (List.mem_append_right _ (.head _)) hdv13 (hW.mono fun q hq => List.mem_append_left _ hq)
    · rename (intsN up).getD _ _ ≠ _ => hup
      rw [e1, intsN_getD] at hup
      refine hRE _ _ ⟨cc, h12, _, _, rfl, hc2, ?_, ?_⟩
      · rw [List.append_nil]
        exact Nat.le_succ_of_le hl11
      · rw [kidsL_succ, if_neg (fun q => hup (by rw [q])), List.append_nil]
        exact hW
end Mine
end
section
open PySem PySem.Spec PySem.Calls PyProof.Rows PySem.W
set_option Elab.async false
set_option maxRecDepth 100000
set_option maxHeartbeats 8000000
set_option pp.deepTerms false
set_option pp.maxSteps 2500
namespace Mine
local macro_rules | `(tactic| walk_at $_) => Lean.Macro.throwUnsupported
theorem myread_off : True := by
  w_top off
  trivial
local macro_rules | `(tactic| walk_at "exec Raise some none") => `(tactic| (k_here; refine Raise_own (C := 76) rfl ?_))
local macro_rules | `(tactic| walk_at $k) => Mine.stopAt k ["call ref", "pyIter ref", "exec While", "subscriptTail", "subscriptTail Name UnaryOp ref int", "compareOp NotEq ref ref", "compareOp Eq ref ref", "call builtin:list.append", "call builtin:list.pop"]
theorem read_tell (w : World) (rs : List PySem.Str) (ds : List Nat) (hr : ∀ k, k < rs.length → IsRow (rs.getD k PySem.Str.empty) (ds.getD k 0)) (h1 : 1 ≤ rs.length) (hz : rs.length ≤ 100000) :
    TellR w 60 228 76 (fun news vs => ∃ ra rv nr, vs = [.ref ra] ∧ (ra, listOf rv.toArray nr) ∈ news ∧ StrsAre rv rs)
      (fun tl r => ∃ UP uv nu U pile, r = .ref UP ∧ (UP, listOf uv.toArray nu) ∈ tl ∧ IntsAre uv (intsN U) ∧ rdSt ds (rs.length - 1) = some (U, pile))
      (fun tl D => ∃ k U pile UP uv nu oD tk tl', 1 ≤ k ∧ k < rs.length ∧ rdSt ds (k - 1) = some (U, pile) ∧ popD ds (ds.getD k 0) pile = [] ∧ (UP, listOf uv.toArray nu) ∈ tl ∧ IntsAre uv (intsN U) ∧ (D, oD) ∈ tl ∧
        Ns1O oD (fun y => if y = "line" then some (.str (rs.getD k PySem.Str.empty) tl') else if y = "msg" then some (.ref UP) else if y = "lineno" then some (.int (k : Int) tk) else none)) := by
  have hfill : PySem.Challenge.rw_wa0025_01 = PySem.Challenge.rw_wa0025_01 ∧ hd.heap_1 = hd.heap_1 := by k_fill; exact ⟨rfl, rfl⟩
  unfold TellR
  intro prog p loose mean mg mb dp un gd cn cs ad ccd cl outer A₀ base h₀ L m news s vs Q E B F X N T hk hR hdp hun hret hraise
  obtain ⟨sH, sG, sD, sT, sO⟩ := s
  dsimp only at F N hret hraise
  (refine hide fun PQ kQ => ?_; obtain ⟨ra, rv, nr, rfl, hra, hrv⟩ := hR; refine kQ ?_; clear kQ PQ)
  refine wpAny_call ?_
  k_dflt ktn_open
  rename_i g5 L5 h5 FG5 F5a N5a B5 X5 T5
  have hrl : rv.length = rs.length := by simpa using hrv.length
  have hrv' := Stop.e hrv
  replace N5a := News.dup N5a hra
  k_steps
  rename_i hlk UP ha o1 hb tka PL hc o2 h6 F6 N6 t6
  refine Stop.e ?_
  rw [show Int.toNat 0 = 0 from rfl]
  refine Tell.use B5 F6 X5 N6 T5 rfl (ws_tell w _ _ (hr 0 h1)) ⟨_, rfl⟩ (by show dp + 1 + 20 < recursionLimit; omega) (by show un + 3 + 8 * 20 < cLine; omega) ?_
  (intro r tl h7 tk7 F7 N7 hlt7 hQ31; refine hide fun PQ kQ => ?_; obtain ⟨x0, rfl, hx0⟩ := hQ31; refine kQ ?_; clear kQ PQ)
  clear F6 N6
  replace N7 : News g5 L5 h7 ((PL, listOf #[.int 0 tka] 0) :: (UP, listOf #[.int 0 _] 0) :: (ra, listOf rv.toArray nr) :: (tl ++ news)) := fun q hq => N7 q (mid3 hq)
  k_steps
  rename_i tkb LD hb3 o3 hc3 F8a N8a h8 tk8 t8 u8 v8 R8 F8 N8 K8
  refine Stop.e ?_
  have oLD : PL < LD ∧ UP < LD ∧ ra < LD ∧ AllLt LD (tl ++ news) := o3
  refine' for_range (σ := RdC) (n := rs.length - 1) (· = g5)
    (fun c => (LD, listOf c.lv.toArray c.ln) :: (PL, listOf c.pv.toArray c.pn) :: (UP, listOf c.uv.toArray c.un) :: (ra, listOf rv.toArray nr) :: (c.wn ++ news))
    (fun c => [("rows", .ref ra), ("up", .ref UP), ("pile", .ref PL), ("leads", .ref LD)])
    (fun i c => RdOk w.params ds UP PL LD i c) ⟨[0], [0], [_], [_], [_], 0, 0, 0, tl⟩ R8 (by first | exact small_1 (by omega) | exact small_one (by decide) (by decide) (by omega) (by omega)) (by first | exact size_1 (by omega) | (rw [rangeSize_nat]; omega)) rfl rfl rfl rfl F8 N8 (by (repeat' (first | exact Says.nil | refine Says.cons rfl ?_))) ?start ?turn ?done ?hE
  case hE => passes_own
  case start =>
    have hul := o1
    refine ⟨rfl, .cons 0 _ .nil, .cons 0 _ .nil, rfl, fun j hj => ?_, fun p hp => ?_⟩
    · obtain rfl : j = 0 := by omega
      exact ⟨x0, rfl, hx0⟩
    · exact ⟨hlt7 _ (.tail _ (.head _)) p hp, hlt7 _ (.head _) p hp, Nat.ne_of_lt (allLt_all o3.2.2.2 p (List.mem_append_left _ hp))⟩
  case done =>
    rintro c h₁ hp tk u hP rfl F9 N9
    dsimp only [kstB] at F9 ⊢
    k_steps
    rename Fr h₀ L _ m => kF
    rename News h₀ L _ _ => kN
    refine hret _ ((UP, listOf c.uv.toArray c.un) :: c.wn) _ _ kF (fun q hq => kN q (rd_ret hq)) (fun q hq p hp => ?_) ⟨UP, _, _, c.up, c.pile, rfl, .head _, hP.uI, hP.st⟩
    have hqu := allLt_all o1.2 q hq
    rcases List.mem_cons.mp hp with rfl | hp
    · exact hqu
    · exact Nat.lt_trans hqu (hP.off p hp).1
  case turn =>
    rintro i c h₁ hp tk t it o u hi hP rfl F9 N9 hne
    dsimp only [kstB] at F9
    refine gen_Q fun QQ kQQ => ?_
    clear F8 N8 F8a N8a
    k_steps
    refine Stop.e ?_
    have e0 : (1 + (i : Int)).toNat = i + 1 := toNat_one_add i
    refine KTb.item_list (News.isList N9 (.tail _ (.tail _ (.tail _ (.tail _ (.head _)))))) (Stop.i hrv') (by omega) (by omega) (by omega) (fun t10 _ => ?_)
    rw [e0]
    k_steps
    refine Stop.e ?_
    refine Tell.use B5 F9 X5 N9 T5 rfl (ws_tell w _ _ (hr (i + 1) (by omega))) ⟨_, rfl⟩ (by show dp + 1 + 20 < recursionLimit; omega) (by show un + 3 + 8 * 20 < cLine; omega) ?_
    (intro r tl2 h10 tk10 F10 N10 hlt10 hQ72; refine hide fun PQ kQ => ?_; obtain ⟨x1, rfl, hx1⟩ := hQ72; refine kQ ?_; clear kQ PQ)
    clear F9 N9
    replace N10 := News.to N10 rd_turn
    have nAll : ∀ q ∈ (ra, listOf rv.toArray nr) :: ((c.wn ++ tl2) ++ news), q.1 ≠ PL ∧ q.1 ≠ UP ∧ q.1 ≠ LD := by
      intro q hq
      rcases List.mem_cons.mp hq with rfl | hq
      · exact ⟨Nat.ne_of_lt o2.2.1, Nat.ne_of_lt o1.1, Nat.ne_of_lt oLD.2.2.1⟩
      rcases List.mem_append.mp hq with hq | hq
      · rcases List.mem_append.mp hq with hq | hq
        · have := hP.off q hq
          exact ⟨Nat.ne_of_gt this.2.1, Nat.ne_of_gt this.1, this.2.2⟩
        · exact ⟨Nat.ne_of_gt (hlt10 _ (.tail _ (.tail _ (.head _))) q hq), Nat.ne_of_gt (hlt10 _ (.tail _ (.tail _ (.tail _ (.head _)))) q hq), Nat.ne_of_gt (hlt10 _ (.tail _ (.head _)) q hq)⟩
      · exact ⟨Nat.ne_of_lt (allLt_all o2.2.2 q hq), Nat.ne_of_lt (allLt_all o1.2 q hq), Nat.ne_of_lt (allLt_all oLD.2.2.2 q (List.mem_append_right _ hq))⟩
    have nUP : UP ≠ PL := Nat.ne_of_lt o2.1
    have nPLD : PL ≠ LD := Nat.ne_of_lt oLD.1
    have nULD : UP ≠ LD := Nat.ne_of_lt oLD.2.1
    have nitL : LD ≠ it := hne (LD, listOf c.lv.toArray c.ln) (.head _)
    have nitP : PL ≠ it := hne (PL, listOf c.pv.toArray c.pn) (.tail _ (.head _))
    have nitU : UP ≠ it := hne (UP, listOf c.uv.toArray c.un) (.tail _ (.tail _ (.head _)))
    k_steps
    rename Fr h₁ L5 _ _ => F11
    rename News h₁ L5 _ _ => N11
    refine Stop.e ?_
    refine wpAny_mono (Q := fun fl s' => Stop (fl = .next ∧ Turned (· = h₁) L5
        (fun z : List Nat × List Value × Nat => (it, o) :: (LD, listOf c.lv.toArray c.ln) :: (PL, listOf z.2.1.toArray z.2.2) :: (UP, listOf c.uv.toArray c.un) :: (ra, listOf rv.toArray nr) :: ((c.wn ++ tl2) ++ news))
        (fun _ => [("rows", .ref ra), ("up", .ref UP), ("pile", .ref PL), ("leads", .ref LD), ("lead", .ref x1), ("k", .int (1 + (i : Int)) t)]) (fun z => z.1 = popD ds (ds.getD (i + 1) 0) c.pile ∧ IntsAre z.2.1 (intsN z.1.reverse)) [] ⟨sH, sG, sD, sT, sO⟩ s'))
      (while_inv (σ := List Nat × List Value × Nat) (· = h₁)
        (fun z => (it, o) :: (LD, listOf c.lv.toArray c.ln) :: (PL, listOf z.2.1.toArray z.2.2) :: (UP, listOf c.uv.toArray c.un) :: (ra, listOf rv.toArray nr) :: ((c.wn ++ tl2) ++ news))
        (fun _ => [("rows", .ref ra), ("up", .ref UP), ("pile", .ref PL), ("leads", .ref LD), ("lead", .ref x1), ("k", .int (1 + (i : Int)) t)])
        (fun z => popD ds (ds.getD (i + 1) 0) z.1 = popD ds (ds.getD (i + 1) 0) c.pile ∧ IntsAre z.2.1 (intsN z.1.reverse) ∧ (∀ y ∈ z.1, y ≤ i) ∧ z.1.length ≤ i + 1) (fun z => z.1.length) (c.pile, c.pv, c.pn) rfl F11 N11 (by (repeat' (first | exact Says.nil | refine Says.cons rfl ?_))) ⟨rfl, hP.pI, (rdSt_pile hP.st).2, rdSt_len hP.st⟩ ?wturn ?wE) ?aft (fun _ _ e => e)
    case wE => passes_own
    case wturn =>
      rintro ⟨pile, pv, pn⟩ h₂ hp2 tk2 u2 QB QX ⟨hq1, hq2, hq3, hq5⟩ rfl F12 N12 hQB hQX
      dsimp only [kstB] at F12 N12 hq1 hq2 hq3 hq5
      clear F11 N11
      k_steps
      rename_i l13 h13 F13 N13 o13
      refine Stop.e ?_
      refine ke_ne_ints (News.isList N13 (.tail _ (.tail _ (.tail _ (.head _))))) (News.isList (items := ([] : List Value).toArray) N13 (.head _)) hq2 .nil (by show un + 3 + 64 < cLine; omega) ?_
      have nAll2 : ∀ q ∈ (UP, listOf c.uv.toArray c.un) :: (ra, listOf rv.toArray nr) :: ((c.wn ++ tl2) ++ news), q.1 ≠ PL := fun q hq => by
        rcases List.mem_cons.mp hq with rfl | hq
        · exact nUP
        · exact (nAll q hq).1
      cases pile with
      | nil =>
        rw [show (!decide (intsN ([] : List Nat).reverse = [])) = false from rfl]
        k_steps
        exact hQX _ (Stop.e ⟨rfl, ⟨[], pv, pn⟩, _, _, _, _, rfl, rfl, F13, News.tail N13, (fun _ hp => nomatch hp), (by (repeat' (first | exact Says.nil | refine Says.cons rfl ?_))), hq1, hq2⟩)
      | cons y pile =>
        rw [show (!decide (intsN (y :: pile).reverse = [])) = true from by simp [intsN]]
        (refine hide fun PQ kQ => ?_; obtain ⟨ty, hpy, hpl, hpd⟩ := pile_top hq2; refine kQ ?_; clear kQ PQ)
        (refine hide fun PQ kQ => ?_; obtain ⟨xy, hxy, hwy⟩ := hP.at_ y (hq3 y (.head _)); refine kQ ?_; clear kQ PQ)
        (refine hide fun PQ kQ => ?_; obtain ⟨dy, yraw, ynorm, k1, k2, k3, k4, k5, tt1, tt2, ep, hy1, hy2⟩ := id hwy; refine kQ ?_; clear kQ PQ)
        simp only [wsEntries] at hy2
        have my2 := rd_in (rest := [(l13, listOf ([] : List Value).toArray 0), (it, o), (LD, listOf c.lv.toArray c.ln), (PL, listOf pv.toArray pn), (UP, listOf c.uv.toArray c.un), (ra, listOf rv.toArray nr)]) (tl := tl2) (news := news) hy2
        have my1 := rd_in (rest := [(l13, listOf ([] : List Value).toArray 0), (it, o), (LD, listOf c.lv.toArray c.ln), (PL, listOf pv.toArray pn), (UP, listOf c.uv.toArray c.un), (ra, listOf rv.toArray nr)]) (tl := tl2) (news := news) hy1
        replace N13 := News.dup (News.dup N13 my2) (List.mem_cons_of_mem _ my1)
        clear my1 my2
        have hyi := hq3 y (.head _)
        k_steps
        refine Stop.e ?_
        refine kde_neg (News.isList N13 (.tail _ (.tail _ (.tail _ (.tail _ (.tail _ (.head _))))))) (by decide) (by decide) (j := pile.length) (by rw [hpl]; exact seqIdx_last _) hpy ?_
        k_steps
        refine Stop.e ?_
        refine item_litK (News.isList N13 (.tail _ (.tail _ (.tail _ (.tail _ (.head _)))))) (by omega) (by omega) (by rw [Int.toNat_natCast]; exact hxy) ?_
        k_steps
        refine Stop.e ?_
        refine Tell.use B5 F13 X5 N13 T5 rfl (less_tell w xy x1 (ds.getD y 0 : Nat) (ds.getD (i + 1) 0 : Nat)) ⟨rfl, hwy.mono fun q hq => .tail _ (.tail _ (rd_in (rest := [(l13, listOf ([] : List Value).toArray 0), (it, o), (LD, listOf c.lv.toArray c.ln), (PL, listOf pv.toArray pn), (UP, listOf c.uv.toArray c.un), (ra, listOf rv.toArray nr)]) hq)), hx1.mono fun q hq => .tail _ (.tail _ (rd_in2 (rest := [(l13, listOf ([] : List Value).toArray 0), (it, o), (LD, listOf c.lv.toArray c.ln), (PL, listOf pv.toArray pn), (UP, listOf c.uv.toArray c.un), (ra, listOf rv.toArray nr)]) hq))⟩ (by show dp + 1 + 20 < recursionLimit; omega) (by show un + 3 + 8 * 20 < cLine; omega) ?_
        rintro r tl h14 tk14 F14 N14 _ ⟨rfl, rfl⟩
        clear F13 N13
        replace N14 := News.tail (News.tail (News.tail N14))
        by_cases hlt : ds.getD y 0 < ds.getD (i + 1) 0
        · rw [show decide (((ds.getD y 0 : Nat) : Int) < ((ds.getD (i + 1) 0 : Nat) : Int)) = true from decide_eq_true (by omega)]
          dsimp only
          k_steps
          exact hQX _ (Stop.e ⟨rfl, ⟨y :: pile, pv, pn⟩, _, _, _, _, rfl, rfl, F14, N14, (fun _ hp => nomatch hp), (by (repeat' (first | exact Says.nil | refine Says.cons rfl ?_))), (by rw [← hq1]; unfold popD; rw [if_pos hlt]), hq2⟩)
        · rw [show decide (((ds.getD y 0 : Nat) : Int) < ((ds.getD (i + 1) 0 : Nat) : Int)) = false from decide_eq_false (by omega)]
          dsimp only
          k_steps
          refine Stop.e ?_
          refine kpa_pop F14 N14 (.tail (Ne.symm nitP) (.tail (Ne.symm nPLD) (.head nAll2))) hq2 (by omega) (by rw [sizeLine_eq, hpl]; rw [List.length_cons] at hq5; omega) (fun h15 t15 F15 N15 _ => ?_)
          dsimp only
          k_steps
          rename Fr h₂ L5 _ _ => F16
          rename News h₂ L5 _ _ => N16
          have hq4 : popD ds (ds.getD (i + 1) 0) pile = popD ds (ds.getD (i + 1) 0) c.pile := by
            rw [← hq1]
            show _ = if ds.getD y 0 < ds.getD (i + 1) 0 then y :: pile else popD ds (ds.getD (i + 1) 0) pile
            rw [if_neg hlt]
          refine hQB _ _ ?_
          refine' TurnPost.next (pile, pv.dropLast, pn + 1) rfl F16 N16 (fun _ hp => nomatch hp) (by (repeat' (first | exact Says.nil | refine Says.cons rfl ?_))) ⟨⟨hq4, hpd, fun z hz => hq3 z (.tail _ hz), Nat.le_of_succ_le hq5⟩, Nat.lt_succ_self _⟩
    case aft =>
      rintro fl s' hst
      (refine hide fun PQ kQ => ?_; obtain ⟨rfl, ⟨pile, pv, pn⟩, g12, m12, h12, tk12, rfl, rfl, F12, N12, _, hs12, hp1, hp2⟩ := Stop.i hst; refine kQ ?_; clear kQ PQ)
      rw [kstB_over hs12.all] at F12
      dsimp only [kstB] at F12 N12 hp1 hp2 ⊢
      clear F11 N11
      replace N12 : News g12 L5 h12 ((it, o) :: (LD, listOf c.lv.toArray c.ln) :: (PL, listOf pv.toArray pn) :: (UP, listOf c.uv.toArray c.un) :: (ra, listOf rv.toArray nr) :: ((c.wn ++ tl2) ++ news)) := N12
      k_steps
      rename_i l16 h16 F16 N16 o16
      refine Stop.e ?_
      refine ke_eq_ints (News.isList N16 (.tail _ (.tail _ (.tail _ (.head _))))) (News.isList (items := ([] : List Value).toArray) N16 (.head _)) hp2 .nil (by show un + 3 + 64 < cLine; omega) ?_
      cases pile with
      | nil =>
        rw [show decide (intsN ([] : List Nat).reverse = []) = true from rfl]
        k_steps
        refine Stop.e ?_
        refine KTb.item_list (News.isList N16 (.tail _ (.tail _ (.tail _ (.tail _ (.tail _ (.head _))))))) (Stop.i hrv') (by omega) (by omega) (by omega) (fun t17 _ => ?_)
        rw [e0]
        k_steps
        refine Stop.e ?_
        refine Tell.use B5 F16 X5 N16 T5 rfl (exc76_tell w _ _ _) rfl (by show dp + 1 + 20 < recursionLimit; omega) (by show un + 3 + 8 * 20 < cLine; omega) ?_
        (intro r tl18 h18 tk18 F18 N18 hlt18 hQ183; refine hide fun PQ kQ => ?_; obtain ⟨e, D, oe, oD, t', ot, rfl, rfl, EO, nD, hte, heD⟩ := hQ183; refine kQ ?_; clear kQ PQ)
        have hnl : ∀ q ∈ news, q ∈ (l16, listOf ([] : List Value).toArray 0) :: (it, o) :: (LD, listOf c.lv.toArray c.ln) :: (PL, listOf pv.toArray pn) :: (UP, listOf c.uv.toArray c.un) :: (ra, listOf rv.toArray nr) :: ((c.wn ++ tl2) ++ news) := fun q hq => by simp [hq]
        have hUm : (UP, listOf c.uv.toArray c.un) ∈ (l16, listOf ([] : List Value).toArray 0) :: (it, o) :: (LD, listOf c.lv.toArray c.ln) :: (PL, listOf pv.toArray pn) :: (UP, listOf c.uv.toArray c.un) :: (ra, listOf rv.toArray nr) :: ((c.wn ++ tl2) ++ news) := .tail _ (.tail _ (.tail _ (.tail _ (.head _))))
        refine ⟨e, oe, some D, rfl, ⟨75, 52, _, (ecls76 X5).keeps F18.keep⟩, (N18 _ (.head _)).1, EO, ?_⟩
        refine leave_raiseD B5 EO F18 N18 ?_ (fun h19 R19 U19 => ?_) (by rfl)
        · intro p hp
          rcases List.mem_cons.mp hp with rfl | hp
          · exact Nat.ne_of_gt heD
          rcases List.mem_cons.mp hp with rfl | hp
          · exact Nat.ne_of_lt hte
          · exact Nat.ne_of_lt (hlt18 p hp _ (.head _))
        · refine hraise _ e D [(D, oD), (t', ot), (UP, listOf c.uv.toArray c.un)] h19 _ FG5 (R19.sub fun q hq => ?_) U19 (fun q hq p hp => ?_) (fun q hq => hlt18 q (hnl q hq) _ (.head _)) ⟨i + 1, c.up, c.pile, UP, _, _, oD, t, t17, by omega, by omega, hP.st, hp1.symm, .tail _ (.tail _ (.head _)), hP.uI, .head _, ?_⟩
          · simp only [List.mem_cons, List.mem_append, List.not_mem_nil, or_false] at hq ⊢
            rcases hq with (rfl | rfl | rfl) | hq <;> simp [*]
          · rcases List.mem_cons.mp hp with rfl | hp
            · exact hlt18 q (hnl q hq) _ (.tail _ (.head _))
            rcases List.mem_cons.mp hp with rfl | hp
            · exact hlt18 q (hnl q hq) _ (.tail _ (.tail _ (.head _)))
            · rw [List.mem_singleton.mp hp]
              exact allLt_all o1.2 q hq
          · rw [show (((i + 1 : Nat) : Int)) = 1 + (i : Int) by omega]
            exact nD
      | cons y pile =>
        rw [show decide (intsN (y :: pile).reverse = []) = false from by simp [intsN]]
        (refine hide fun PQ kQ => ?_; obtain ⟨ty, hpy, hpl, hpd⟩ := pile_top hp2; refine kQ ?_; clear kQ PQ)
        k_steps
        refine Stop.e ?_
        refine kde_neg (News.isList N16 (.tail _ (.tail _ (.tail _ (.head _))))) (by decide) (by decide) (j := pile.length) (by rw [hpl]; exact seqIdx_last _) hpy ?_
        k_steps
        refine Stop.e ?_
        have hul : c.uv.length = i + 1 := by
          have := hP.uI.length
          rw [intsN_length, (rdSt_pile hP.st).1] at this
          exact this
        have hpl2 := rdSt_len hP.st
        have hpl3 := @popD_len ds (ds.getD (i + 1) 0) c.pile
        rw [← hp1, List.length_cons] at hpl3
        replace N16 := News.tail N16
        refine append_L (D := UP) (vs := c.uv) F16 N16 (.tail (Ne.symm nitU) (.tail (Ne.symm nULD) (.tail (Ne.symm nUP) (.head fun q hq => (nAll q hq).2.1)))) (fun h20 F20 N20 => ?_) (by omega)
        clear F16 N16
        dsimp only
        k_steps
        refine Stop.e ?_
        rename Fr g12 L5 _ _ => F21
        rename News g12 L5 _ _ => N21
        refine append_L (D := PL) (vs := pv) F21 N21 (.tail (Ne.symm nitP) (.tail (Ne.symm nPLD) (.head fun q hq => (List.mem_cons.mp hq).elim (fun z => by rw [z]; exact nUP) fun z => (nAll q z).1))) (fun h22 F22 N22 => ?_) (by omega)
        clear F21 N21
        dsimp only
        k_steps
        refine Stop.e ?_
        rename Fr g12 L5 _ _ => F23
        rename News g12 L5 _ _ => N23
        refine append_L (D := LD) (vs := c.lv) F23 N23 (.tail (Ne.symm nitL) (.head fun q hq => (List.mem_cons.mp hq).elim (fun z => by rw [z]; exact nPLD) fun hq => (List.mem_cons.mp hq).elim (fun z => by rw [z]; exact nULD) fun z => (nAll q z).2.2)) (fun h24 F24 N24 => ?_) (by rw [hP.ll]; omega)
        clear F23 N23
        dsimp only
        k_steps
        rename Fr g12 L5 _ _ => F25
        rename News g12 L5 _ _ => N25
        refine kQQ _ _ ?_
        refine' TurnPost.next (⟨c.up ++ [y], (i + 1) :: y :: pile, c.uv ++ [.int (y : Int) ty], pv ++ [.int (1 + (i : Int)) t], c.lv ++ [.ref x1], c.un + 1, pn + 1, c.ln + 1, c.wn ++ tl2⟩ : RdC) rfl F25 N25 ?off (by (repeat' (first | exact Says.nil | refine Says.cons rfl ?_))) ?ok
        case off =>
          intro p hp q hq
          rw [List.mem_singleton.mp hp]
          rcases List.mem_cons.mp hq with rfl | hq
          · exact nitL
          rcases List.mem_cons.mp hq with rfl | hq
          · exact nitP
          rcases List.mem_cons.mp hq with rfl | hq
          · exact nitU
          rcases List.mem_cons.mp hq with rfl | hq
          · exact hne (ra, listOf rv.toArray nr) (.tail _ (.tail _ (.tail _ (.head _))))
          rcases List.mem_append.mp hq with hq | hq
          · rcases List.mem_append.mp hq with hq | hq
            · exact hne q (.tail _ (.tail _ (.tail _ (.tail _ (List.mem_append_left _ hq)))))
            · exact Nat.ne_of_gt (hlt10 _ (.head _) q hq)
          · exact hne q (.tail _ (.tail _ (.tail _ (.tail _ (List.mem_append_right _ hq)))))
        case ok =>
          have e2 : (1 + (i : Int)) = ((i + 1 : Nat) : Int) := by omega
          refine ⟨?_, ?_, ?_, ?_, fun j hj => ?_, fun p hp => ?_⟩
          · rw [rdSt_succ hP.st, ← hp1]
          · show IntsAre _ (intsN (c.up ++ [y]))
            rw [intsN_snoc]
            exact ints_snoc hP.uI
          · show IntsAre _ (intsN ((i + 1) :: y :: pile).reverse)
            rw [List.reverse_cons, intsN_snoc, ← e2]
            exact ints_snoc hp2
          · show (c.lv ++ [Value.ref x1]).length = _
            rw [List.length_append, hP.ll]
            rfl
          · by_cases hji : j ≤ i
            · (refine hide fun PQ kQ => ?_; obtain ⟨x, hx, hw⟩ := hP.at_ j hji; refine kQ ?_; clear kQ PQ)
              exact ⟨x, by show (c.lv ++ [Value.ref x1])[j]? = _; rw [List.getElem?_append_left (by rw [hP.ll]; omega)]; exact hx, hw.mono fun q hq => List.mem_append_left _ hq⟩
            · obtain rfl : j = i + 1 := by omega
              exact ⟨x1, by show (c.lv ++ [Value.ref x1])[i + 1]? = _; rw [List.getElem?_append_right (by rw [hP.ll]; omega), hP.ll, Nat.sub_self]; rfl, hx1.mono fun q hq => List.mem_append_right _ hq⟩
          · rcases List.mem_append.mp hp with hp | hp
            · exact hP.off p hp
            · exact ⟨hlt10 _ (.tail _ (.tail _ (.tail _ (.head _)))) p hp, hlt10 _ (.tail _ (.tail _ (.head _))) p hp, Nat.ne_of_gt (hlt10 _ (.tail _ (.head _)) p hp)⟩
end Mine
end
section
open PySem PySem.Spec PySem.Calls PyProof.Rows PySem.W
set_option Elab.async false
set_option maxRecDepth 100000
set_option maxHeartbeats 8000000
set_option pp.deepTerms false
set_option pp.maxSteps 2500
namespace Mine
theorem myget_off : True := by
  w_top off
  trivial
noncomputable def TellM (w : World) (room : Nat) (f : Addr) (Rel : List (Addr × Obj) → List Value → Prop) (Out : List (Addr × Obj) → Value → Prop) : Prop :=
  ∀ (prog : Program) (p : Program) (loose : List PySem.Str) (mean : PySem.ExcName → Option Value) (mg mb : PySem.Str → Option Value)
    (dp un : Nat) (gd : Option (List Code)) (cn : PySem.Str) (cs : Scope) (a : Addr) (ccd : Value) (cl : List (PySem.Str × Addr)) (outer : List Env) (A₀ : Around) (base h₀ : Heap) (L : Addr) (m : PySem.Str → Option Value) (news : List (Addr × Obj)) (s : Shared) (vs : List Value)
    (Q E : Value → Shared → Prop) (hx : Value),
    Below A₀ base outer h₀ → Fr h₀ L s.heap m → (hd.heap_1 w.params).In h₀ → News h₀ L s.heap news → Top p loose mean mg mb h₀ → cs.kind = .function → Rel news vs → dp + room < recursionLimit → un + 8 * room < cLine →
    (∀ r tl h' tk', Fr h₀ L h' m → News h₀ L h' (tl ++ news) → (∀ q ∈ news, ∀ p ∈ tl, q.1 < p.1) → Out tl r → Q r { s with heap := h', toks := tk' }) →
    wpAny (model prog w) ((ktrTop dp un gd cn cs L a ccd cl outer).mark (some hx)) (call (.ref f) vs) Q E s
theorem TellM.use {w : World} {room : Nat} {f : Addr} {Rel : List (Addr × Obj) → List Value → Prop} {Out : List (Addr × Obj) → Value → Prop} {prog : Program} {p : Program} {loose : List PySem.Str} {mean : PySem.ExcName → Option Value} {mg mb : PySem.Str → Option Value}
    {dp un : Nat} {gd : Option (List Code)} {cn : PySem.Str} {cs : Scope} {a : Addr} {ccd : Value} {cl : List (PySem.Str × Addr)} {outer : List Env} {A₀ : Around} {base h₀ : Heap} {L : Addr} {m : PySem.Str → Option Value} {news : List (Addr × Obj)} {s : Shared} {vs : List Value} {Q E : Value → Shared → Prop} {hx : Value}
    (B : Below A₀ base outer h₀) (F : Fr h₀ L s.heap m) (X : (hd.heap_1 w.params).In h₀) (N : News h₀ L s.heap news) (T : Top p loose mean mg mb h₀) (hk : cs.kind = .function) (C : TellM w room f Rel Out) (R : Rel news vs) (hdp : dp + room < recursionLimit) (hun : un + 8 * room < cLine)
    (ret : ∀ r tl h' tk', Fr h₀ L h' m → News h₀ L h' (tl ++ news) → (∀ q ∈ news, ∀ p ∈ tl, q.1 < p.1) → Out tl r → Q r { s with heap := h', toks := tk' }) :
    wpAny (model prog w) ((ktrTop dp un gd cn cs L a ccd cl outer).mark (some hx)) (call (.ref f) vs) Q E s := by
  unfold TellM at C
  exact C prog p loose mean mg mb dp un gd cn cs a ccd cl outer A₀ base h₀ L m news s vs Q E hx B F X N T hk R hdp hun ret
local macro_rules | `(tactic| walk_at $k) => Mine.stopAt k ["call ref", "getAttr ref"]
theorem get59_tell (w : World) (v : Value) (hv : handedOut v = pure v) : TellM w 10 59 (fun news vs => ∃ e oe D oD mA, vs = [.ref e] ∧ (e, oe) ∈ news ∧ oe.cls = .ref 76 ∧ oe.dict = some D ∧ (∃ ws, oe.data = .fields ws) ∧ (D, oD) ∈ news ∧ Ns1O oD mA ∧ mA "lineno" = some v) (fun tl r => tl = [] ∧ r = v) := by
  have hfill : PySem.Challenge.rw_wa0025_01 = PySem.Challenge.rw_wa0025_01 ∧ hd.heap_1 = hd.heap_1 := by k_fill; exact ⟨rfl, rfl⟩
  unfold TellM
  intro prog p loose mean mg mb dp un gd cn cs ad ccd cl outer A₀ base h₀ L m news s vs Q E hx B F X N T hk hR hdp hun hret
  (refine hide fun PQ kQ => ?_; obtain ⟨e, oe, D, oD, mA, rfl, he, hc, hod, hws, hD, nD, hm⟩ := hR; refine kQ ?_; clear kQ PQ)
  refine wpAny_call ?_
  k_dflt (refine' code_def ?k1 ?k2 ?k3 ?k4 ?k5 ?kA ?kF ?kK ?k6 ?k7 ?k8 ?k9 ?kB ?_ ?c2 ?c3 ?c4 ?c5; (case kA => exact rfl); (case kF => exact rfl); (case kK => first | assumption | exact rfl); (case k1 => k_asm); (case k2 => k_asm); (case k3 => k_asm); (case k4 => k_asm); (case k5 => k_asm); (case k6 => k_is); (case k7 => k_is); (case k8 => (show dp < recursionLimit; omega)); (case k9 => first | exact BindsTo.of_eq rfl | exact binds_K (by k_in) rfl (by k_is) rfl rfl rfl); (case c5 => decide); (case kB => exact locs rfl); (case c2 => exact rfl); (case c3 => exact rfl); (case c4 => exact rfl); k_whole; intro g4 L4 h4 FG4 F4 N4 B4 X4 T4; (try dsimp only); (try k_fold))
  k_steps
  refine Stop.e ?_
  refine getE F4 (ecls76 X4) (N4 _ he).1 hc hod hws (N4 _ hD).1 nD (ns_none_of X4 (ecls76 X4).ns rfl) (by rw [typeLookup_type, builtinLookup_eq_fast]; kernel_rfl) hm hv ?_
  k_steps
  rename Fr h₀ L _ m => kF
  rename News h₀ L _ _ => kN
  exact hret _ [] _ _ kF kN (fun _ _ _ hp => nomatch hp) ⟨rfl, rfl⟩
theorem get66_tell (w : World) (v : Value) (hv : handedOut v = pure v) : TellM w 10 66 (fun news vs => ∃ e oe D oD mA, vs = [.ref e] ∧ (e, oe) ∈ news ∧ oe.cls = .ref 76 ∧ oe.dict = some D ∧ (∃ ws, oe.data = .fields ws) ∧ (D, oD) ∈ news ∧ Ns1O oD mA ∧ mA "msg" = some v) (fun tl r => tl = [] ∧ r = v) := by
  have hfill : PySem.Challenge.rw_wa0025_01 = PySem.Challenge.rw_wa0025_01 ∧ hd.heap_1 = hd.heap_1 := by k_fill; exact ⟨rfl, rfl⟩
  unfold TellM
  intro prog p loose mean mg mb dp un gd cn cs ad ccd cl outer A₀ base h₀ L m news s vs Q E hx B F X N T hk hR hdp hun hret
  (refine hide fun PQ kQ => ?_; obtain ⟨e, oe, D, oD, mA, rfl, he, hc, hod, hws, hD, nD, hm⟩ := hR; refine kQ ?_; clear kQ PQ)
  refine wpAny_call ?_
  k_dflt (refine' code_def ?k1 ?k2 ?k3 ?k4 ?k5 ?kA ?kF ?kK ?k6 ?k7 ?k8 ?k9 ?kB ?_ ?c2 ?c3 ?c4 ?c5; (case kA => exact rfl); (case kF => exact rfl); (case kK => first | assumption | exact rfl); (case k1 => k_asm); (case k2 => k_asm); (case k3 => k_asm); (case k4 => k_asm); (case k5 => k_asm); (case k6 => k_is); (case k7 => k_is); (case k8 => (show dp < recursionLimit; omega)); (case k9 => first | exact BindsTo.of_eq rfl | exact binds_K (by k_in) rfl (by k_is) rfl rfl rfl); (case c5 => decide); (case kB => exact locs rfl); (case c2 => exact rfl); (case c3 => exact rfl); (case c4 => exact rfl); k_whole; intro g4 L4 h4 FG4 F4 N4 B4 X4 T4; (try dsimp only); (try k_fold))
  k_steps
  refine Stop.e ?_
  refine getE F4 (ecls76 X4) (N4 _ he).1 hc hod hws (N4 _ hD).1 nD (ns_none_of X4 (ecls76 X4).ns rfl) (by rw [typeLookup_type, builtinLookup_eq_fast]; kernel_rfl) hm hv ?_
  k_steps
  rename Fr h₀ L _ m => kF
  rename News h₀ L _ _ => kN
  exact hret _ [] _ _ kF kN (fun _ _ _ hp => nomatch hp) ⟨rfl, rfl⟩
theorem get73_tell (w : World) (v : Value) (hv : handedOut v = pure v) : TellM w 10 73 (fun news vs => ∃ e oe D oD mA, vs = [.ref e] ∧ (e, oe) ∈ news ∧ oe.cls = .ref 76 ∧ oe.dict = some D ∧ (∃ ws, oe.data = .fields ws) ∧ (D, oD) ∈ news ∧ Ns1O oD mA ∧ mA "line" = some v) (fun tl r => tl = [] ∧ r = v) := by
  have hfill : PySem.Challenge.rw_wa0025_01 = PySem.Challenge.rw_wa0025_01 ∧ hd.heap_1 = hd.heap_1 := by k_fill; exact ⟨rfl, rfl⟩
  unfold TellM
  intro prog p loose mean mg mb dp un gd cn cs ad ccd cl outer A₀ base h₀ L m news s vs Q E hx B F X N T hk hR hdp hun hret
  (refine hide fun PQ kQ => ?_; obtain ⟨e, oe, D, oD, mA, rfl, he, hc, hod, hws, hD, nD, hm⟩ := hR; refine kQ ?_; clear kQ PQ)
  refine wpAny_call ?_
  k_dflt (refine' code_def ?k1 ?k2 ?k3 ?k4 ?k5 ?kA ?kF ?kK ?k6 ?k7 ?k8 ?k9 ?kB ?_ ?c2 ?c3 ?c4 ?c5; (case kA => exact rfl); (case kF => exact rfl); (case kK => first | assumption | exact rfl); (case k1 => k_asm); (case k2 => k_asm); (case k3 => k_asm); (case k4 => k_asm); (case k5 => k_asm); (case k6 => k_is); (case k7 => k_is); (case k8 => (show dp < recursionLimit; omega)); (case k9 => first | exact BindsTo.of_eq rfl | exact binds_K (by k_in) rfl (by k_is) rfl rfl rfl); (case c5 => decide); (case kB => exact locs rfl); (case c2 => exact rfl); (case c3 => exact rfl); (case c4 => exact rfl); k_whole; intro g4 L4 h4 FG4 F4 N4 B4 X4 T4; (try dsimp only); (try k_fold))
  k_steps
  refine Stop.e ?_
  refine getE F4 (ecls76 X4) (N4 _ he).1 hc hod hws (N4 _ hD).1 nD (ns_none_of X4 (ecls76 X4).ns rfl) (by rw [typeLookup_type, builtinLookup_eq_fast]; kernel_rfl) hm hv ?_
  k_steps
  rename Fr h₀ L _ m => kF
  rename News h₀ L _ _ => kN
  exact hret _ [] _ _ kF kN (fun _ _ _ hp => nomatch hp) ⟨rfl, rfl⟩
end Mine
end
section
open PySem PySem.Spec PySem.Calls PyProof.Rows PySem.W
set_option Elab.async false
set_option maxRecDepth 100000
set_option maxHeartbeats 8000000
set_option pp.deepTerms false
set_option pp.maxSteps 2500
namespace Mine
local macro_rules | `(tactic| walk_at $_) => Lean.Macro.throwUnsupported
theorem myfirst_off : True := by
  w_top off
  trivial
local macro_rules | `(tactic| walk_at $k) => Mine.stopAt k ["call ref", "getAttr ref", "getMethod ref"]
theorem first_in {α : Type} {q a b : α} {tl news : List α} (h : q ∈ a :: tl ++ news) : q ∈ a :: (tl ++ b :: news) := by
  simp only [List.mem_cons, List.mem_append] at h ⊢
  rcases h with (rfl | h) | h <;> simp [*]
theorem first_in2 {α : Type} {q a b c : α} {tl news : List α} (h : q ∈ a :: tl ++ news) : q ∈ a :: ([] ++ ([] ++ ([] ++ c :: (tl ++ b :: news)))) := by
  simp only [List.mem_cons, List.mem_append, List.nil_append] at h ⊢
  rcases h with (rfl | h) | h <;> simp [*]
noncomputable def FirstR (rs : List PySem.Str) (ds : List Nat) (k : Nat) (U : List Nat) (line : PySem.Str) : Prop :=
  (k = rs.length ∧ line = nilS ∧ ∃ pile, rdSt ds (rs.length - 1) = some (U, pile)) ∨
  (1 ≤ k ∧ k < rs.length ∧ line = rs.getD k PySem.Str.empty ∧ ∃ pile, rdSt ds (k - 1) = some (U, pile) ∧ popD ds (ds.getD k 0) pile = [])
theorem first_tell (w : World) (rs : List PySem.Str) (ds : List Nat) (hr : ∀ k, k < rs.length → IsRow (rs.getD k PySem.Str.empty) (ds.getD k 0)) (h1 : 1 ≤ rs.length) (hz : rs.length ≤ 100000) :
    TellS w 80 235 (fun news vs => ∃ ra rv nr, vs = [.ref ra] ∧ (ra, listOf rv.toArray nr) ∈ news ∧ StrsAre rv rs)
      (fun tl r => ∃ T k tk UP uv nu U line t1 nt, r = .ref T ∧ (T, { cls := .type "tuple", data := .seq #[.int (k : Int) tk, .ref UP, .str line t1] nt }) ∈ tl ∧ (UP, listOf uv.toArray nu) ∈ tl ∧ IntsAre uv (intsN U) ∧ FirstR rs ds k U line) := by
  have hfill : PySem.Challenge.rw_wa0025_01 = PySem.Challenge.rw_wa0025_01 ∧ hd.heap_1 = hd.heap_1 := by k_fill; exact ⟨rfl, rfl⟩
  unfold TellS
  intro prog p loose mean mg mb dp un gd cn cs ad ccd cl outer A₀ base h₀ L m news s vs Q E B F X N T hk XB TB D0 hR hdp hun hret
  obtain ⟨sH, sG, sD, sT, sO⟩ := s
  dsimp only at F N hret
  (refine hide fun PQ kQ => ?_; obtain ⟨ra, rv, nr, rfl, hra, hrv⟩ := hR; refine kQ ?_; clear kQ PQ)
  refine wpAny_call ?_
  k_dflt open_k0
  rename_i g5 L5 h5 FG5 F5 N5 B5 X5 T5 D5
  have hrl : rv.length = rs.length := by simpa using hrv.length
  have hrv' := Stop.e hrv
  replace N5 := News.dup N5 hra
  k_steps
  refine Stop.e ?_
  refine TellR.use B5 F5 X5 N5 T5 rfl (read_tell w rs ds hr h1 hz) ⟨ra, rv, nr, rfl, .head _, Stop.i hrv'⟩ (by show dp + 1 + 60 < recursionLimit; omega) (by show un + 3 + 8 * 60 < cLine; omega) ?ret ?raise
  case ret =>
    (intro r tl h' tk' F6 N6 hlt hQ30; refine hide fun PQ kQ => ?_; obtain ⟨UP, uv, nu, U, pile, rfl, hU, hUI, hst⟩ := hQ30; refine kQ ?_; clear kQ PQ)
    dsimp only
    k_steps
    rename_i D8 h8 F8 N8 l8
    refine Stop.e (.go g5 L5 _ _ KtsTurn.refl F8 N8 fun h0' T1 kF kN kB kX kT kD => ?_)
    refine hret _ ((D8, _) :: tl) _ _ h0' kB kF kX (fun q hq => kN q (first_in hq)) kT kD T1 (fun q hq p hp => ?_) ⟨D8, rs.length, _, UP, uv, nu, U, nilS, _, _, rfl, by rw [← hrl]; exact .head _, .tail _ hU, hUI, .inl ⟨rfl, rfl, pile, hst⟩⟩
    rcases List.mem_cons.mp hp with rfl | hp
    · exact l8 q (List.mem_append_right _ (.tail _ hq))
    · exact hlt q (.tail _ hq) p hp
  case raise =>
    (intro g e D tl h' tk' FG6 R6 U6 hlt hlte hQ40; refine hide fun PQ kQ => ?_; obtain ⟨k, U, pile, UP, uv, nu, oD, tk, t1, hk1, hk2, hst, hpop, hU, hUI, hD, nD⟩ := hQ40; refine kQ ?_; clear kQ PQ)
    dsimp only
    refine caughtD R6 FG6 B5 U6 XB TB D5 (fun h X => ecls76 X) rfl (fun h7 g7 tk7 oe T7 F7 N7 hoc hod hoe B7 X7 P7 D7 => ?_) (by rfl) (by rfl) (by rfl) (by decide)
    clear F5 N5 X5 T5 D5 B5
    have hDm : (D, oD) ∈ (e, oe) :: (tl ++ (ra, listOf rv.toArray nr) :: news) := .tail _ (List.mem_append_left _ hD)
    k_steps
    refine Stop.e ?_
    refine getE_method F7 (ecls76 X7) (N7 _ (.head _)).1 hoc hod (N7 _ hDm).1 nD (nsSome_of X7 (ecls76 X7).ns rfl) (X7 59 _ rfl) rfl (y := none) (by rw [typeLookup_type, builtinLookup_eq_fast]; kernel_rfl) rfl ?_
    k_steps
    refine Stop.e ?_
    refine TellM.use B7 F7 X7 N7 P7 rfl (get59_tell w (.int (k : Int) tk) rfl) ⟨e, oe, D, oD, _, rfl, .head _, hoc, hod, hoe, hDm, nD, rfl⟩ (by show dp + 1 + 10 < recursionLimit; omega) (by show un + 3 + 8 * 10 < cLine; omega) ?_
    rintro r59 tl59 h59 tk59 F59 N59 _ ⟨rfl, rfl⟩
    clear F7 N7
    k_steps
    refine Stop.e ?_
    refine getE_method F59 (ecls76 X7) (N59 _ (.head _)).1 hoc hod (N59 _ hDm).1 nD (nsSome_of X7 (ecls76 X7).ns rfl) (X7 66 _ rfl) rfl (y := none) (by rw [typeLookup_type, builtinLookup_eq_fast]; kernel_rfl) rfl ?_
    k_steps
    refine Stop.e ?_
    refine TellM.use B7 F59 X7 N59 P7 rfl (get66_tell w (.ref UP) rfl) ⟨e, oe, D, oD, _, rfl, .head _, hoc, hod, hoe, hDm, nD, rfl⟩ (by show dp + 1 + 10 < recursionLimit; omega) (by show un + 3 + 8 * 10 < cLine; omega) ?_
    rintro r66 tl66 h66 tk66 F66 N66 _ ⟨rfl, rfl⟩
    clear F59 N59
    k_steps
    refine Stop.e ?_
    refine getE_method F66 (ecls76 X7) (N66 _ (.head _)).1 hoc hod (N66 _ hDm).1 nD (nsSome_of X7 (ecls76 X7).ns rfl) (X7 73 _ rfl) rfl (y := none) (by rw [typeLookup_type, builtinLookup_eq_fast]; kernel_rfl) rfl ?_
    k_steps
    refine Stop.e ?_
    refine TellM.use B7 F66 X7 N66 P7 rfl (get73_tell w (.str (rs.getD k PySem.Str.empty) t1) rfl) ⟨e, oe, D, oD, _, rfl, .head _, hoc, hod, hoe, hDm, nD, rfl⟩ (by show dp + 1 + 10 < recursionLimit; omega) (by show un + 3 + 8 * 10 < cLine; omega) ?_
    rintro r73 tl73 h73 tk73 F73 N73 _ ⟨rfl, rfl⟩
    clear F66 N66
    k_steps
    rename_i D9 h9a F9a N9a l9 h9 v9 F9 N9
    refine Stop.e (.go g7 L5 _ _ T7 F9 N9 fun h0' T1 kF kN kB kX kT kD => ?_)
    refine hret _ ((D9, _) :: tl) _ _ h0' kB kF kX (fun q hq => kN q (first_in2 hq)) kT kD T1 (fun q hq p hp => ?_) ⟨D9, k, _, UP, uv, nu, U, _, _, _, rfl, .head _, .tail _ hU, hUI, .inr ⟨hk1, hk2, rfl, pile, hst, hpop⟩⟩
    rcases List.mem_cons.mp hp with rfl | hp
    · exact l9 q (by simp [hq])
    · exact hlt q (.tail _ hq) p hp
end Mine
end
section
open PySem PySem.Spec PySem.Calls PyProof.Rows PySem.W
set_option Elab.async false
set_option maxRecDepth 100000
set_option maxHeartbeats 8000000
set_option pp.deepTerms false
set_option pp.maxSteps 2500
namespace Mine
theorem myways_off : True := by
  w_top off
  trivial
local macro_rules | `(tactic| walk_at $k) => Mine.stopAt k ["call ref", "pyIter ref", "eval ListComp Name cons", "eval ListComp Name", "exec Assign ListComp", "subscriptTail", "compareOp NotIn", "compareOp NotIn int ref", "binaryOp Add ref ref"]
theorem ways_rel {news : List (Addr × Obj)} {up others : List Nat} {marks signs : List PySem.Str} {ua ma oa sa : Addr} {us ms os ss : List Value} {n1 n2 n3 n4 : Nat} (h1 : (ua, listOf us.toArray n1) ∈ news) (h2 : (ma, listOf ms.toArray n2) ∈ news) (h3 : (oa, listOf os.toArray n3) ∈ news) (h4 : (sa, listOf ss.toArray n4) ∈ news) (hu : IntsAre us (intsN up)) (hm : StrsAre ms marks) (ho : IntsAre os (intsN others)) (hs : StrsAre ss signs) :
    ∃ ua' ma' oa' sa' us ms os ss n1 n2 n3 n4, [Value.ref ua, .ref ma, .ref oa, .ref sa] = [.ref ua', .ref ma', .ref oa', .ref sa'] ∧ (ua', listOf us.toArray n1) ∈ news ∧ (ma', listOf ms.toArray n2) ∈ news ∧ (oa', listOf os.toArray n3) ∈ news ∧ (sa', listOf ss.toArray n4) ∈ news ∧ IntsAre us (intsN up) ∧ StrsAre ms marks ∧ IntsAre os (intsN others) ∧ StrsAre ss signs := ⟨_, _, _, _, _, _, _, _, _, _, _, _, rfl, h1, h2, h3, h4, hu, hm, ho, hs⟩
theorem ways_tell (w : World) (up others : List Nat) (marks signs : List PySem.Str) (hu : ∀ k, 1 ≤ k → k < up.length → up.getD k 0 < k) (hn1 : 1 ≤ up.length) (hn6 : up.length ≤ 6) (ho1 : 1 ≤ others.length) (ho6 : others.length ≤ 6) (hm : marks.length = up.length) (hs : signs.length = others.length) :
    Tell w 60 240 (fun news vs => ∃ ua ma oa sa us ms os ss n1 n2 n3 n4, vs = [.ref ua, .ref ma, .ref oa, .ref sa] ∧ (ua, listOf us.toArray n1) ∈ news ∧ (ma, listOf ms.toArray n2) ∈ news ∧ (oa, listOf os.toArray n3) ∈ news ∧ (sa, listOf ss.toArray n4) ∈ news ∧
        IntsAre us (intsN up) ∧ StrsAre ms marks ∧ IntsAre os (intsN others) ∧ StrsAre ss signs)
      (fun tl r => tl = [] ∧ ∃ t, r = .int ((waysL PySem.Str.empty up marks others signs (up.length - 1)).length : Int) t) := by
  have hfill : PySem.Challenge.rw_wa0025_01 = PySem.Challenge.rw_wa0025_01 ∧ hd.heap_1 = hd.heap_1 := by k_fill; exact ⟨rfl, rfl⟩
  unfold Tell
  intro prog p loose mean mg mb dp un gd cn cs ad ccd cl outer A₀ base h₀ L m news s vs Q E B F X N T hk hR hdp hun hret
  obtain ⟨sH, sG, sD, sT, sO⟩ := s
  dsimp only at F N hret
  (refine hide fun PQ kQ => ?_; obtain ⟨ua, ma, oa, sa, us, ms, os, ss, n1, n2, n3, n4, rfl, hua, hma, hoa, hsa, hus, hms, hos, hss⟩ := hR; refine kQ ?_; clear kQ PQ)
  refine wpAny_call ?_
  k_dflt (refine' code_defC ?k1 ?k2 ?k3 ?k4 ?k5 ?kA ?kF ?kK ?k6 ?k7 ?k8 ?k9 ?kB ?kD ?_ ?c2 ?c3 ?c4; (case kA => exact rfl); (case kF => exact rfl); (case kK => first | assumption | exact rfl); (case k1 => k_asm); (case k2 => k_asm); (case k3 => k_asm); (case k4 => k_asm); (case k5 => k_asm); (case k6 => k_is); (case k7 => k_is); (case k8 => ktr_room); (case k9 => first | exact BindsTo.of_eq rfl | exact binds_K (by k_in) rfl (by k_is) rfl rfl rfl); (case kB => exact rfl); (case kD => decide +kernel); (case c2 => exact rfl); (case c3 => exact rfl); (case c4 => exact rfl); k_whole)
  intro g5 L5 h5 tk5 cells5 FG5 F5 N5 Y5 B5 X5 T5 l5
  refine gen_E PassesOwn.leaving fun EE hEE => ?_
  (refine hide fun PQ kQ => ?_; obtain ⟨o1, o2, o3, o4, o5, rfl, d1, d2, d3, d4, d5⟩ := kc_five Y5; refine kQ ?_; clear kQ PQ)
  clear Y5
  replace d1 : o1.data = .cell none := d1
  replace d2 : o2.data = .cell (some (.ref sa)) := d2
  replace d3 : o3.data = .cell (some (.ref oa)) := d3
  replace d4 : o4.data = .cell (some (.ref ma)) := d4
  replace d5 : o5.data = .cell (some (.ref ua)) := d5
  simp only [List.cons_append, List.nil_append] at N5
  have F6 : Fr g5 L5 h5 (fun _ => none) := F5
  clear F5
  have e4 : News g5 L5 h5 ((ua, listOf us.toArray n1) :: (ma, listOf ms.toArray n2) :: (oa, listOf os.toArray n3) :: (sa, listOf ss.toArray n4) :: (L5 + 1 + 1 + 1 + 1 + 1, o1) :: (L5 + 1 + 1 + 1 + 1, o2) :: (L5 + 1 + 1 + 1, o3) :: (L5 + 1 + 1, o4) :: (L5 + 1, o5) :: news) :=
    News.dup (News.dup (News.dup (News.dup N5 (wy_in hsa)) (.tail _ (wy_in hoa))) (.tail _ (.tail _ (wy_in hma)))) (.tail _ (.tail _ (.tail _ (wy_in hua))))
  clear N5
  have hul : us.length = up.length := by simpa [intsN] using hus.length
  have hol : os.length = others.length := by simpa [intsN] using hos.length
  have hml : ms.length = marks.length := by simpa using hms.length
  have hsl : ss.length = signs.length := by simpa using hss.length
  have hus' := Stop.e hus
  have hms' := Stop.e hms
  have hos' := Stop.e hos
  have hss' := Stop.e hss
  clear hms hos hss hus
  k_steps
  rename_i W0 h6a l6 WL h6b l7 h6c F6a N6a h6 tk6 t6 u6 v6 R6 F6 N6 K6
  refine Stop.e ?_
  have nck : ∀ q ∈ (ua, listOf us.toArray n1) :: (ma, listOf ms.toArray n2) :: (oa, listOf os.toArray n3) :: (sa, listOf ss.toArray n4) :: (L5 + 1 + 1 + 1 + 1, o2) :: (L5 + 1 + 1 + 1, o3) :: (L5 + 1 + 1, o4) :: (L5 + 1, o5) :: news, q.1 < L5 + 1 + 1 + 1 + 1 + 1 := by
    intro q hq
    have hlt : ∀ p ∈ news, p.1 < L5 + 1 + 1 + 1 + 1 + 1 := fun p hp => Nat.lt_succ_of_lt (Nat.lt_succ_of_lt (Nat.lt_succ_of_lt (Nat.lt_succ_of_lt (Nat.lt_succ_of_lt (l5 p hp)))))
    simp only [List.mem_cons] at hq
    rcases hq with rfl | rfl | rfl | rfl | rfl | rfl | rfl | rfl | hq
    · exact hlt _ hua
    · exact hlt _ hma
    · exact hlt _ hoa
    · exact hlt _ hsa
    · exact Nat.lt_succ_self _
    · exact Nat.lt_succ_of_lt (Nat.lt_succ_self _)
    · exact Nat.lt_succ_of_lt (Nat.lt_succ_of_lt (Nat.lt_succ_self _))
    · exact Nat.lt_succ_of_lt (Nat.lt_succ_of_lt (Nat.lt_succ_of_lt (Nat.lt_succ_self _)))
    · exact hlt _ hq
  refine' for_rangeT (σ := WyC) (n := up.length - 1) (· = g5)
    (fun c => (L5 + 1 + 1 + 1 + 1 + 1, c.ok) :: (c.wa, listOf c.its.toArray c.nn) :: (ua, listOf us.toArray n1) :: (ma, listOf ms.toArray n2) :: (oa, listOf os.toArray n3) :: (sa, listOf ss.toArray n4) :: (L5 + 1 + 1 + 1 + 1, o2) :: (L5 + 1 + 1 + 1, o3) :: (L5 + 1 + 1, o4) :: (L5 + 1, o5) :: (c.made ++ news))
    (fun c => [("ways", .ref c.wa)])
    (fun i c => WyOk (L5 + 1 + 1 + 1 + 1 + 1) (waysL PySem.Str.empty up marks others signs i) c) ⟨WL, [.ref W0], 0, o1, [(W0, listOf #[.int 0 tk5] 0)]⟩ R6 (by first | exact small_1 (by omega) | exact small_one (by decide) (by decide) (by omega) (by omega)) (by first | exact size_1 (by omega) | (rw [rangeSize_nat]; omega)) rfl rfl F6 (News.to N6 wy_start) (by (repeat' (first | exact Says.nil | refine Says.cons rfl ?_))) ?start ?turn ?done ?hE
  case hE => passes_own
  case start =>
    refine ⟨.cons (.head _) (.cons 0 _ .nil) .nil, fun p hp => ?_, Ne.symm (Nat.ne_of_lt l7.2.2.2.2.2.1), _, d1⟩
    rw [List.mem_singleton.mp hp]
    exact Nat.ne_of_gt l6.2.2.2.2.1
  case done =>
    rintro c h₁ hp tk u hP rfl F9 N9
    dsimp only [kstB] at F9 ⊢
    have hwl : c.its.length = (waysL PySem.Str.empty up marks others signs (up.length - 1)).length := hP.at_.length
    have hwb : c.its.length ≤ 3125 := by
      rw [hwl]
      exact ways_bound ho6 (by omega)
    k_steps
    rename Fr h₀ L _ m => kF
    rename News h₀ L _ _ => kN
    exact hret _ [] _ _ kF (fun q hq => kN q (by simp [show q ∈ news from hq])) (fun _ _ _ h => nomatch h) ⟨rfl, _, by rw [hwl]⟩
  case turn =>
    rintro i c h₁ hp tk t it o u hi hP rfl F9 N9 hne
    dsimp only [kstB] at F9
    clear F6 N6 F6a N6a R6 K6
    have nrest : ∀ q ∈ (c.wa, listOf c.its.toArray c.nn) :: (ua, listOf us.toArray n1) :: (ma, listOf ms.toArray n2) :: (oa, listOf os.toArray n3) :: (sa, listOf ss.toArray n4) :: (L5 + 1 + 1 + 1 + 1, o2) :: (L5 + 1 + 1 + 1, o3) :: (L5 + 1 + 1, o4) :: (L5 + 1, o5) :: (c.made ++ news), q.1 ≠ L5 + 1 + 1 + 1 + 1 + 1 := by
      intro q hq
      rcases List.mem_cons.mp hq with rfl | hq
      · exact hP.wk
      rcases wy_rest hq with hq | hq
      · exact hP.off q hq
      · exact Nat.ne_of_lt (nck q hq)
    obtain ⟨v0, hv0⟩ := hP.cell
    refine wpAny_assign_Name (storeX_C F9 N9 rfl (.tail (Ne.symm (hne _ (.head _))) (.head nrest)) hv0 (fun h10 ok' F10 N10 d10 => ?_))
    dsimp only at N10 ⊢
    refine gen_Q fun QQ kQQ => ?_
    clear F9 N9
    k_steps
    refine execCompAssign (cl := [("up", L5 + 1), ("signs", L5 + 1 + 1 + 1 + 1), ("others", L5 + 1 + 1 + 1), ("marks", L5 + 1 + 1), ("k", L5 + 1 + 1 + 1 + 1 + 1)]) ?sw (fun _ => rfl) ?clo rfl (by decide) ?_
    case sw => rfl
    case clo => rfl
    k_steps
    refine Stop.e ?_
    have hwl : c.its.length = (waysL PySem.Str.empty up marks others signs i).length := hP.at_.length
    have hwb : c.its.length ≤ 3125 := by
      rw [hwl]
      exact ways_bound ho6 (by omega)
    refine comp2_list (σ := List (Addr × Obj)) (vs := c.its) (nn₀ := c.nn) (fun cc => cc ++ ((it, o) :: (L5 + 1 + 1 + 1 + 1 + 1, ok') :: (c.wa, listOf c.its.toArray c.nn) :: (ua, listOf us.toArray n1) :: (ma, listOf ms.toArray n2) :: (oa, listOf os.toArray n3) :: (sa, listOf ss.toArray n4) :: (L5 + 1 + 1 + 1 + 1, o2) :: (L5 + 1 + 1 + 1, o3) :: (L5 + 1 + 1, o4) :: (L5 + 1, o5) :: (c.made ++ news)))
      (fun j its cc => WaysAt cc its (((waysL PySem.Str.empty up marks others signs i).take j).flatMap fun way => stepW PySem.Str.empty up marks others signs (i + 1) way (others.length - 1)) ∧ ∀ p ∈ cc, p.1 ≠ L5 + 1 + 1 + 1 + 1 + 1 ∧ p.1 ≠ it) [] (fun cc => List.mem_append_right _ (.tail _ (.tail _ (.head _)))) rfl (by decide) rfl rfl rfl (fun _ _ => rfl) F10 N10 ⟨.nil, fun _ h => nomatch h⟩ ?cturn ?cdone
    case cdone =>
      rintro cc h11 tk11 D C its nn oC u11 ⟨hW, hoff⟩ F11 hnC N11 hCD off11
      refine compPost_store F11 hnC N11 (fun p hp => ?_) rfl rfl rfl (fun h12 F12 N12 => ?_)
      · rcases List.mem_cons.mp hp with rfl | hp
        · exact Ne.symm hCD
        · exact (off11 p hp).1
      dsimp only
      k_steps
      rename Fr h₁ L5 _ _ => F13
      rename News h₁ L5 _ _ => N13
      have hD1 : D ≠ it := Ne.symm (off11 (it, o) (List.mem_append_right _ (.head _))).2
      have hD2 : D ≠ L5 + 1 + 1 + 1 + 1 + 1 := Ne.symm (off11 (L5 + 1 + 1 + 1 + 1 + 1, ok') (List.mem_append_right _ (.tail _ (.head _)))).2
      refine kQQ _ _ ?_
      refine' TurnPost.next (⟨D, its, nn, ok', cc⟩ : WyC) rfl F13 (News.to N13 wy_fin) ?off (by (repeat' (first | exact Says.nil | refine Says.cons rfl ?_))) ⟨?wat, fun p hp => (hoff p hp).1, hD2, _, d10⟩
      case wat =>
        rw [hwl, List.take_length] at hW
        exact hW
      case off =>
        intro p hp q hq
        rw [List.mem_singleton.mp hp]
        rcases List.mem_cons.mp hq with rfl | hq
        · exact hne (L5 + 1 + 1 + 1 + 1 + 1, c.ok) (.head _)
        rcases List.mem_cons.mp hq with rfl | hq
        · exact hD1
        rcases wy_rest hq with hq | hq
        · exact (hoff q hq).2
        · exact hne q (.tail _ (.tail _ (wy_rest2 hq)))
    case cturn =>
      rintro j cc h11 tk11 v C D I oI its nn u11 E' E'' hv ⟨hW, hoff⟩ hc
      (refine hide fun PQ kQ => ?_; obtain ⟨aw, wv, nw, way, rfl, hway, hwm, hwi⟩ := hP.at_.at hv; refine kQ ?_; clear kQ PQ)
      (refine hide fun PQ kQ => ?_; obtain ⟨oC, hnC, N11⟩ := hc.N; refine kQ ?_; clear kQ PQ)
      have F11 := hc.F
      have hfront : ∀ q ∈ wyFront (L5 + 1) ok' o2 o3 o4 o5 (ua, listOf us.toArray n1) (ma, listOf ms.toArray n2) (oa, listOf os.toArray n3) (sa, listOf ss.toArray n4) (aw, listOf wv.toArray nw), q ∈ cc ++ ((it, o) :: (L5 + 1 + 1 + 1 + 1 + 1, ok') :: (c.wa, listOf c.its.toArray c.nn) :: (ua, listOf us.toArray n1) :: (ma, listOf ms.toArray n2) :: (oa, listOf os.toArray n3) :: (sa, listOf ss.toArray n4) :: (L5 + 1 + 1 + 1 + 1, o2) :: (L5 + 1 + 1 + 1, o3) :: (L5 + 1 + 1, o4) :: (L5 + 1, o5) :: (c.made ++ news)) := wy_front hwm
      have N12 := News.pre N11 (fun q hq => List.mem_cons_of_mem _ (List.mem_cons_of_mem _ (List.mem_cons_of_mem _ (hfront q hq))))
      unfold wyFront at N12
      simp only [List.cons_append, List.nil_append] at N12
      clear N10 F10
      k_steps
      rename_i tk12 F11a N11a h14 tk14 t14 u14 v14 R14 F14 N14 K14
      refine Stop.e ?_
      have hwayl : way.length = i + 1 := waysL_way i way (List.mem_of_getElem? hway)
      have hpre : ((List.take j (waysL PySem.Str.empty up marks others signs i)).flatMap fun way => stepW PySem.Str.empty up marks others signs (i + 1) way (others.length - 1)).length ≤ 3125 * 5 := by
        refine Nat.le_trans (flatMap_bound (b := 5) fun x _ => Nat.le_trans stepW_length (by omega)) (Nat.mul_le_mul_right _ ?_)
        rw [List.length_take]
        exact Nat.le_trans (Nat.min_le_right _ _) (ways_bound ho6 (by omega))
      clear F11a N11a F14 N14 N11
      refine compIn_range (σ := List (Addr × Obj)) (n := others.length - 1) (fun cc => cc ++ ((it, o) :: (L5 + 1 + 1 + 1 + 1 + 1, ok') :: (c.wa, listOf c.its.toArray c.nn) :: (ua, listOf us.toArray n1) :: (ma, listOf ms.toArray n2) :: (oa, listOf os.toArray n3) :: (sa, listOf ss.toArray n4) :: (L5 + 1 + 1 + 1 + 1, o2) :: (L5 + 1 + 1 + 1, o3) :: (L5 + 1 + 1, o4) :: (L5 + 1, o5) :: (c.made ++ news)))
        (fun y its cc => WaysAt cc its ((((waysL PySem.Str.empty up marks others signs i).take j).flatMap fun way => stepW PySem.Str.empty up marks others signs (i + 1) way (others.length - 1)) ++ stepW PySem.Str.empty up marks others signs (i + 1) way y) ∧ y ≤ 5 ∧ ∀ p ∈ cc, p.1 ≠ L5 + 1 + 1 + 1 + 1 + 1 ∧ p.1 ≠ it ∧ p.1 ≠ I) cc rfl rfl R14 (by first | exact small_1 (by omega) | exact small_one (by decide) (by decide) (by omega) (by omega)) (by first | exact size_1 (by omega) | (rw [rangeSize_nat]; omega)) rfl rfl rfl rfl (hc.keeps K14) ⟨by rw [show stepW PySem.Str.empty up marks others signs (i + 1) way 0 = [] from rfl, List.append_nil]; exact hW, by omega, fun p hp => ⟨(hoff p hp).1, (hoff p hp).2, (hc.off p (List.mem_append_left _ hp)).2.2⟩⟩ ?len ?keep ?yturn ?ydone
      case len =>
        (intro y its2 cc2 hQ161; refine hide fun PQ kQ => ?_; obtain ⟨hW2, hy5, _⟩ := hQ161; refine kQ ?_; clear kQ PQ)
        have h1 := hW2.length
        have h2 := @stepW_length _ _ PySem.Str.empty up marks others signs (i + 1) y way
        rw [List.length_append] at h1
        omega
      case keep =>
        rintro y its2 cc2 ⟨_, _, hoff2⟩ q hq
        rcases List.mem_append.mp hq with hq | hq
        · exact (hoff2 q hq).2.2
        · exact (hc.off q (List.mem_append_right _ hq)).2.2
      case ydone =>
        rintro cc2 h15 tk15 its2 nn2 u15 ⟨hW2, _, hoff2⟩ hc2
        exact ⟨cc2, h15, tk15, its2, nn2, u15, rfl, hc2, by rw [flatMap_take hway]; exact hW2, fun p hp => ⟨(hoff2 p hp).1, (hoff2 p hp).2.1⟩⟩
      case yturn =>
        rintro y cc2 h15 tk15 t15 I2 oI2 its2 nn2 u15 E3 hy ⟨hW2, hy5, hoff2⟩ hc2 hu2
        (refine hide fun PQ kQ => ?_; obtain ⟨oC2, hnC2, N15⟩ := hc2.N; refine kQ ?_; clear kQ PQ)
        have F15 := hc2.F
        have e15 : (fun z => if z = PySem.Str.ofString "y" then some (Value.int (1 + (y : Int)) t15) else u15 z) = (fun z => if z = PySem.Str.ofString "y" then some (Value.int (1 + (y : Int)) t15) else if z = PySem.Str.ofString "way" then some (Value.ref aw) else u11 z) := by
          funext z
          split
          · rfl
          · rename_i hz
            exact hu2 z hz
        have hu3 : ∀ z, z ≠ PySem.Str.ofString "y" → (fun z => if z = PySem.Str.ofString "y" then some (Value.int (1 + (y : Int)) t15) else u15 z) z = (fun y => if y = PySem.Str.ofString "way" then some (Value.ref aw) else u11 y) z := fun z hz => (if_neg hz).trans (hu2 z hz)
        have hnC3 := hnC2
        rw [e15] at hnC3
        have hfront2 := wy_front (cc := cc2) (L := L5 + 1) (ok := ok') (o2 := o2) (o3 := o3) (o4 := o4) (o5 := o5) (a := (ua, listOf us.toArray n1)) (b := (ma, listOf ms.toArray n2)) (c := (oa, listOf os.toArray n3)) (d := (sa, listOf ss.toArray n4)) (it := (it, o)) (wl := (c.wa, listOf c.its.toArray c.nn)) (news := news) hwm
        have N16 := News.pre (f := (C, oC2) :: wyFront (L5 + 1) ok' o2 o3 o4 o5 (ua, listOf us.toArray n1) (ma, listOf ms.toArray n2) (oa, listOf os.toArray n3) (sa, listOf ss.toArray n4) (aw, listOf wv.toArray nw)) N15 (fun q hq => (List.mem_cons.mp hq).elim (fun z => by rw [z]; exact .head _) fun hq => .tail _ (.tail _ (.tail _ (.tail _ (hfront2 q hq)))))
        unfold wyFront at N16
        simp only [List.cons_append, List.nil_append] at N16
        refine compTests_one ?_
        have hwil : wv.length = i + 1 := by
          have := hwi.length
          rw [intsN_length, hwayl] at this
          exact this
        have e1 : (1 + (y : Int)).toNat = 1 + y := by omega
        have e2 : (1 + (i : Int)).toNat = i + 1 := toNat_one_add i
        have hup := hu (i + 1) (by omega) (by omega)
        k_steps
        refine Stop.e ?_
        refine item_anyK (News.isList N16 (.tail _ (.tail _ (.tail _ (.tail _ (.head _)))))) (Stop.i hos') (by omega) (by rw [intsN_length]; omega) (by omega) (fun ta => ?_)
        rw [e1, intsN_getD]
        k_steps
        refine Stop.e ?_
        refine item_anyK (News.isList N16 (.tail _ (.tail _ (.head _)))) (Stop.i hus') (by omega) (by rw [intsN_length]; omega) (by omega) (fun tb => ?_)
        rw [e2, intsN_getD]
        k_steps
        refine Stop.e ?_
        refine item_anyK (News.isList N16 (.tail _ (.head _))) hwi (by omega) (by rw [intsN_length]; omega) (by omega) (fun tc => ?_)
        rw [Int.toNat_natCast, intsN_getD]
        k_steps
        · rename _ = _ => hA
          refine Stop.e ?_
          refine KTb.item_list (News.isList N16 (.tail _ (.tail _ (.tail _ (.tail _ (.tail _ (.head _))))))) (Stop.i hss') (by omega) (by omega) (by omega) (fun td _ => ?_)
          rw [e1]
          k_steps
          refine Stop.e ?_
          refine KTb.item_list (News.isList N16 (.tail _ (.tail _ (.tail _ (.head _))))) (Stop.i hms') (by omega) (by omega) (by omega) (fun te _ => ?_)
          rw [e2]
          k_steps
          · rename (_ == _) = true => hB
            have hB' := eq_of_beq hB
            refine Stop.e ?_
            refine notin_list_ints (News.isList N16 (.tail _ (.head _))) hwi ?_
            rw [any_intsN]
            by_cases hM : (1 + y) ∈ way
            · rw [decide_eq_true hM]
              k_steps
              refine Stop.e ⟨cc2, h15, _, _, rfl, hc2, hu3, ?_, by omega, hoff2⟩
              rw [stepW_succ, if_neg (fun q => q.2.2 hM), List.append_nil]
              exact hW2
            · rw [decide_eq_false hM]
              k_steps
              rename_i l17 h17 F17 N17 o17
              refine Stop.e ?_
              refine kmk_add_ints F17 N17 (News.isList N17 (.tail _ (.tail _ (.head _)))) (News.isList (items := ([.int (1 + (y : Int)) t15] : List Value).toArray) N17 (.head _)) hwi (.cons _ _ .nil) (fun W uw h18 F18 N18 hlt18 hus18 => ?_) (by rw [intsN_length, sizeLine_eq, hwayl]; simp only [List.length_cons, List.length_nil]; omega)
              have hWn : ∀ q ∈ (C, oC2) :: (D, listOf its2.toArray nn2) :: (I2, oI2) :: (I, oI) :: (cc2 ++ ((it, o) :: (L5 + 1 + 1 + 1 + 1 + 1, ok') :: (c.wa, listOf c.its.toArray c.nn) :: (ua, listOf us.toArray n1) :: (ma, listOf ms.toArray n2) :: (oa, listOf os.toArray n3) :: (sa, listOf ss.toArray n4) :: (L5 + 1 + 1 + 1 + 1, o2) :: (L5 + 1 + 1 + 1, o3) :: (L5 + 1 + 1, o4) :: (L5 + 1, o5) :: (c.made ++ news))), q.1 ≠ W ∧ q ∈ (W, listOf uw.toArray 0) :: (l17, listOf ([.int (1 + (y : Int)) t15] : List Value).toArray 0) :: (C, oC2) :: (aw, listOf wv.toArray nw) :: (ua, listOf us.toArray n1) :: (ma, listOf ms.toArray n2) :: (oa, listOf os.toArray n3) :: (sa, listOf ss.toArray n4) :: (L5 + 1 + 1 + 1 + 1 + 1, ok') :: (L5 + 1 + 1 + 1 + 1, o2) :: (L5 + 1 + 1 + 1, o3) :: (L5 + 1 + 1, o4) :: (L5 + 1, o5) :: (C, oC2) :: (D, listOf its2.toArray nn2) :: (I2, oI2) :: (I, oI) :: (cc2 ++ ((it, o) :: (L5 + 1 + 1 + 1 + 1 + 1, ok') :: (c.wa, listOf c.its.toArray c.nn) :: (ua, listOf us.toArray n1) :: (ma, listOf ms.toArray n2) :: (oa, listOf os.toArray n3) :: (sa, listOf ss.toArray n4) :: (L5 + 1 + 1 + 1 + 1, o2) :: (L5 + 1 + 1 + 1, o3) :: (L5 + 1 + 1, o4) :: (L5 + 1, o5) :: (c.made ++ news))) := by
                intro q hq
                exact ⟨Nat.ne_of_lt (hlt18 q (wy_deep hq)), .tail _ (wy_deep hq)⟩
              have hc3 : CompAt h₁ L5 (fun z => if z = PySem.Str.ofString "ways" then some (Value.ref c.wa) else u z) C D I2 oI2 its2 nn2 ((I, oI) :: ((cc2 ++ [(W, listOf uw.toArray 0)]) ++ ((it, o) :: (L5 + 1 + 1 + 1 + 1 + 1, ok') :: (c.wa, listOf c.its.toArray c.nn) :: (ua, listOf us.toArray n1) :: (ma, listOf ms.toArray n2) :: (oa, listOf os.toArray n3) :: (sa, listOf ss.toArray n4) :: (L5 + 1 + 1 + 1 + 1, o2) :: (L5 + 1 + 1 + 1, o3) :: (L5 + 1 + 1, o4) :: (L5 + 1, o5) :: (c.made ++ news)))) (fun z => if z = PySem.Str.ofString "y" then some (Value.int (1 + (y : Int)) t15) else u15 z) h18 := by
                refine ⟨F18, ⟨oC2, hnC2, fun q hq => N18 q ?_⟩, hc2.cd, hc2.ci, hc2.di, fun q hq => ?_⟩
                · rcases wy_split (x := (W, listOf uw.toArray 0)) hq with rfl | hq
                  · exact .head _
                  · exact (hWn q hq).2
                · rcases wy_split2 (x := (W, listOf uw.toArray 0)) hq with rfl | hq
                  · exact ⟨Ne.symm (hWn (C, oC2) (.head _)).1, Ne.symm (hWn (D, listOf its2.toArray nn2) (.tail _ (.head _))).1, Ne.symm (hWn (I2, oI2) (.tail _ (.tail _ (.head _)))).1⟩
                  · exact hc2.off q hq
              refine Stop.e ⟨cc2 ++ [(W, listOf uw.toArray 0)], h18, _, _, rfl, hc3, hu3, ?_, by omega, fun q hq => ?_⟩
              · rw [stepW_succ, if_pos ⟨by omega, hB', hM⟩, ← List.append_assoc]
                refine WaysAt.snoc (nn := 0) (List.mem_append_right _ (.head _)) ?_ (hW2.mono fun q hq => List.mem_append_left _ hq)
                rw [intsN_snoc]
                rw [show (((1 + y : Nat) : Int)) = 1 + (y : Int) by omega]
                exact hus18
              · rcases List.mem_append.mp hq with hq | hq
                · exact hoff2 q hq
                · rw [List.mem_singleton.mp hq]
                  exact ⟨Ne.symm (hWn (L5 + 1 + 1 + 1 + 1 + 1, ok') (.tail _ (.tail _ (.tail _ (.tail _ (List.mem_append_right _ (.tail _ (.head _)))))))).1, Ne.symm (hWn (it, o) (.tail _ (.tail _ (.tail _ (.tail _ (List.mem_append_right _ (.head _))))))).1, Ne.symm (hWn (I, oI) (.tail _ (.tail _ (.tail _ (.head _))))).1⟩
          · rename (_ == _) = false => hB
            refine Stop.e ⟨cc2, h15, _, _, rfl, hc2, hu3, ?_, by omega, hoff2⟩
            rw [stepW_succ, if_neg (fun q => by rw [q.2.1] at hB; simp at hB), List.append_nil]
            exact hW2
        · rename _ ≠ _ => hA
          refine Stop.e ⟨cc2, h15, _, _, rfl, hc2, hu3, ?_, by omega, hoff2⟩
          rw [stepW_succ, if_neg (fun q => hA (by rw [q.1])), List.append_nil]
          exact hW2
end Mine
end
section
open PySem PySem.Spec PySem.Calls PyProof.Rows PySem.W
set_option Elab.async false
set_option maxRecDepth 100000
set_option maxHeartbeats 4000000
namespace Mine
structure Iso (n : Nat) (up ms vp ks : List Nat) (φ ψ : Nat → Nat) : Prop where
  lu : up.length = n
  lv : vp.length = n
  lt : ∀ k, k < n → φ k < n ∧ ψ (φ k) = k
  tl : ∀ k, k < n → ψ k < n ∧ φ (ψ k) = k
  z : φ 0 = 0
  up : ∀ k, 1 ≤ k → k < n → vp.getD (φ k) 0 = φ (up.getD k 0) ∧ up.getD k 0 < n
  mks : ∀ k, k < n → ks.getD (φ k) 0 = ms.getD k 0
theorem Iso.pos {n : Nat} {up ms vp ks : List Nat} {φ ψ : Nat → Nat} (I : Iso n up ms vp ks φ ψ) {k : Nat} (h1 : 1 ≤ k) (h2 : k < n) : 1 ≤ φ k := by
  refine Nat.pos_of_ne_zero fun q => ?_
  have a := (I.lt k h2).2
  have b := (I.lt 0 (by omega)).2
  rw [I.z] at b
  rw [q, b] at a
  omega
theorem Iso.symm {n : Nat} {up ms vp ks : List Nat} {φ ψ : Nat → Nat} (I : Iso n up ms vp ks φ ψ) (hn : 1 ≤ n) : Iso n vp ks up ms ψ φ := by
  have hz : ψ 0 = 0 := by
    have := (I.lt 0 hn).2
    rwa [I.z] at this
  have hpos : ∀ k, 1 ≤ k → k < n → 1 ≤ ψ k := fun k h1 h2 => by
    refine Nat.pos_of_ne_zero fun q => ?_
    have a := (I.tl k h2).2
    rw [q, I.z] at a
    omega
  refine ⟨I.lv, I.lu, I.tl, I.lt, hz, fun k h1 h2 => ?_, fun k h2 => ?_⟩
  · obtain ⟨a1, a2⟩ := I.tl k h2
    obtain ⟨b1, b2⟩ := I.up (ψ k) (hpos k h1 h2) a1
    rw [a2] at b1
    obtain ⟨c1, c2⟩ := I.lt _ b2
    rw [b1]
    exact ⟨c2.symm, c1⟩
  · obtain ⟨a1, a2⟩ := I.tl k h2
    have := I.mks (ψ k) a1
    rw [a2] at this
    exact this.symm
theorem Iso.trans {n : Nat} {up ms vp ks wp ls : List Nat} {φ ψ φ' ψ' : Nat → Nat} (I : Iso n up ms vp ks φ ψ) (J : Iso n vp ks wp ls φ' ψ') : Iso n up ms wp ls (fun k => φ' (φ k)) (fun k => ψ (ψ' k)) := by
  refine ⟨I.lu, J.lv, fun k h => ?_, fun k h => ?_, ?_, fun k h1 h2 => ?_, fun k h => ?_⟩
  · obtain ⟨a1, a2⟩ := I.lt k h
    obtain ⟨b1, b2⟩ := J.lt _ a1
    exact ⟨b1, by show ψ (ψ' (φ' (φ k))) = k; rw [b2, a2]⟩
  · obtain ⟨a1, a2⟩ := J.tl k h
    obtain ⟨b1, b2⟩ := I.tl _ a1
    exact ⟨b1, by show φ' (φ (ψ (ψ' k))) = k; rw [b2, a2]⟩
  · show φ' (φ 0) = 0
    rw [I.z, J.z]
  · obtain ⟨a1, a2⟩ := I.up k h1 h2
    obtain ⟨b1, _⟩ := J.up (φ k) (I.pos h1 h2) (I.lt k h2).1
    exact ⟨by rw [b1, a1], a2⟩
  · have := J.mks (φ k) (I.lt k h).1
    rw [this, I.mks k h]
theorem kidsL_eq {P : Nat → List Nat × Nat} {up : List Nat} {h : Nat} : ∀ i, kidsL P up h i = ((List.range' 1 i).filter fun k => decide (up.getD k 0 = h)).map P
  | 0 => rfl
  | i + 1 => by
    rw [kidsL_succ, List.range'_concat, List.filter_append, List.map_append, ← kidsL_eq i, Nat.one_mul, Nat.add_comm 1 i]
    by_cases hu : up.getD (i + 1) 0 = h
    · rw [if_pos hu, List.filter_cons_of_pos (by simpa using hu)]
      rfl
    · rw [if_neg hu, List.filter_cons_of_neg (by simpa using hu)]
      simp
theorem page_iso {n : Nat} {up ms vp ks : List Nat} {φ ψ : Nat → Nat} (I : Iso n up ms vp ks φ ψ) (hn : 1 ≤ n) : ∀ f h, h < n → pageN vp ks f (φ h) = pageN up ms f h
  | 0, _, _ => rfl
  | f + 1, h, hh => by
    have ih := page_iso I hn f
    have hperm : ((List.range' 1 (n - 1)).filter fun k => decide (vp.getD k 0 = φ h)).Perm (((List.range' 1 (n - 1)).filter fun k => decide (up.getD k 0 = h)).map φ) := by
      refine (List.perm_ext_iff_of_nodup ?_ ?_).mpr fun y => ?_
      · exact List.Nodup.sublist List.filter_sublist List.nodup_range'
      · refine List.pairwise_map.mpr ?_
        refine List.Pairwise.imp_of_mem ?_ (List.Nodup.sublist List.filter_sublist List.nodup_range')
        intro a b ha hb hab q
        rw [List.mem_filter, List.mem_range'_1] at ha hb
        have a2 := (I.lt a (by omega)).2
        have b2 := (I.lt b (by omega)).2
        rw [q, b2] at a2
        exact hab a2.symm
      · rw [List.mem_filter, List.mem_range'_1, decide_eq_true_eq, List.mem_map]
        constructor
        · (intro hQ84; refine hide fun PQ kQ => ?_; obtain ⟨⟨h1, h2⟩, h3⟩ := hQ84; refine kQ ?_; clear kQ PQ)
          have J := I.symm hn
          obtain ⟨a1, a2⟩ := I.tl y (by omega)
          refine ⟨ψ y, ?_, a2⟩
          rw [List.mem_filter, List.mem_range'_1, decide_eq_true_eq]
          refine ⟨⟨J.pos h1 (by omega), by omega⟩, ?_⟩
          rw [(J.up y h1 (by omega)).1, h3, (I.lt h hh).2]
        · (intro hQ91; refine hide fun PQ kQ => ?_; obtain ⟨k, hk, rfl⟩ := hQ91; refine kQ ?_; clear kQ PQ)
          rw [List.mem_filter, List.mem_range'_1, decide_eq_true_eq] at hk
          have b := I.lt k (by omega)
          refine ⟨⟨I.pos hk.1.1 (by omega), by omega⟩, ?_⟩
          rw [(I.up k hk.1.1 (by omega)).1, hk.2]
    have hkids : kidsN (pageN vp ks f) vp (φ h) (vp.length - 1) = kidsN (pageN up ms f) up h (up.length - 1) := by
      rw [kidsN_fold, kidsN_fold, kidsL_eq, kidsL_eq, I.lu, I.lv]
      have h1 := (hperm.map (pageN vp ks f)).foldl_eq' (f := stepK) (fun x _ y _ z => stepK_comm z x y) ([], 1)
      rw [h1, List.map_map]
      congr 1
      refine List.map_congr_left fun k hk => ?_
      rw [List.mem_filter, List.mem_range'_1] at hk
      exact ih k (by omega)
    unfold pageN
    rw [hkids, I.mks h hh]
end Mine
end
section
open PySem PySem.Spec PySem.Calls PyProof.Rows PySem.W
set_option Elab.async false
set_option maxRecDepth 100000
set_option maxHeartbeats 4000000
namespace Mine
theorem markOk_sgn (ms : List Nat) : ∀ h, MarkOk ((ms.map sgnS).getD h rS) := by
  intro h
  rw [List.getD_eq_getElem?_getD, List.getElem?_map]
  cases ms[h]? with
  | none => exact ⟨114, rfl, by decide, by decide, by decide, by decide⟩
  | some m =>
    refine ⟨sgn m, rfl, ?_⟩
    have h1 := sgn_pos m
    have h2 : 90 < sgn m := by
      unfold sgn
      split
      · omega
      split
      · omega
      split <;> omega
    omega
theorem idx_cons {od : List Nat} {k : Nat} (h : k ∈ od) : (0 :: od).getD (1 + od.idxOf k) 0 = k := by
  rw [Nat.add_comm, List.getD_eq_getElem?_getD, List.getElem?_cons_succ, List.getElem?_eq_getElem (List.idxOf_lt_length_iff.mpr h)]
  exact List.getElem_idxOf _
theorem others_getD {hg od : List Nat} {j : Nat} (hj : 1 ≤ j) (hj2 : j < od.length + 1) : (othersOf hg od).getD j 0 = if hg.getD ((0 :: od).getD j 0) 0 = 0 then 0 else 1 + od.idxOf (hg.getD ((0 :: od).getD j 0) 0) := by
  obtain ⟨i, rfl⟩ : ∃ i, j = i + 1 := ⟨j - 1, by omega⟩
  have hi : i < od.length := by omega
  unfold othersOf
  rw [List.getD_eq_getElem?_getD, List.getElem?_cons_succ, List.getElem?_map, List.getElem?_eq_getElem hi]
  rw [List.getD_eq_getElem?_getD (l := 0 :: od), List.getElem?_cons_succ, List.getElem?_eq_getElem hi]
  rfl
theorem lw_front {α : Type} {a b c d e f g : α} {tl : List α} (ha : a ∈ tl) (hb : b ∈ tl) (hc : c ∈ tl) (hd : d ∈ tl) (he : e ∈ tl) : ∀ q, q ∈ [a, b, c, d, e, f, g] → q ∈ tl ++ [f, g] := by
  repeat' (first | exact sub_nil | refine sub_cons ?_ ?_ | refine sub_app ?_ ?_ | (intro q hq; (repeat (first | assumption | exact .head _ | exact List.mem_append_left _ (by assumption) | refine List.Mem.tail _ ?_ | refine List.mem_append_right _ ?_))))
  all_goals (repeat (first | assumption | exact .head _ | exact List.mem_append_left _ (by assumption) | refine List.Mem.tail _ ?_ | refine List.mem_append_right _ ?_))
theorem rk_lt {n a b : Nat} (h : a < b) (hb : b < n) : n - 1 - b < n - 1 - a := Nat.sub_lt_sub_left (Nat.lt_of_lt_of_le h (Nat.le_sub_one_of_lt hb)) h
theorem rank_up {n : Nat} {up : List Nat} (h : UpOk n up) (k : Nat) (h1 : 1 ≤ k) (h2 : k < up.length) : n - 1 - k < n - 1 - up.getD k 0 := rk_lt (h.lt k h1 (h.len ▸ h2)) (h.len ▸ h2)
theorem rank_other {n : Nat} {hg od ot : List Nat} (hl : ot.length = n) (hj : ∀ j, 1 ≤ j → j < n → (0 :: od).getD (ot.getD j 0) 0 = hg.getD ((0 :: od).getD j 0) 0 ∧ ot.getD j 0 < n ∧ 1 ≤ (0 :: od).getD j 0 ∧ (0 :: od).getD j 0 < n) (hh : UpOk n hg) (j : Nat) (h1 : 1 ≤ j) (h2 : j < ot.length) : n - 1 - (0 :: od).getD j 0 < n - 1 - (0 :: od).getD (ot.getD j 0) 0 := by
  have h := hj j h1 (hl ▸ h2)
  rw [h.1]
  exact rk_lt (hh.lt _ h.2.2.1 h.2.2.2) h.2.2.2
theorem others_up {n : Nat} {hg od : List Nat} (hn : 1 ≤ n) (hh : UpOk n hg) (ho : od.Perm (List.range' 1 (n - 1))) :
    (othersOf hg od).length = n ∧ ∀ j, 1 ≤ j → j < n → (0 :: od).getD ((othersOf hg od).getD j 0) 0 = hg.getD ((0 :: od).getD j 0) 0 ∧ (othersOf hg od).getD j 0 < n ∧ 1 ≤ (0 :: od).getD j 0 ∧ (0 :: od).getD j 0 < n := by
  have hl : od.length = n - 1 := by rw [ho.length_eq, List.length_range']
  refine ⟨by simp [othersOf, hl]; omega, fun j h1 h2 => ?_⟩
  have hj : (0 :: od).getD j 0 ∈ od := by
    obtain ⟨i, rfl⟩ : ∃ i, j = i + 1 := ⟨j - 1, by omega⟩
    rw [List.getD_eq_getElem?_getD, List.getElem?_cons_succ, List.getElem?_eq_getElem (by omega)]
    exact List.getElem_mem _
  have hr := ho.mem_iff.mp hj
  rw [List.mem_range'_1] at hr
  have hlt := hh.lt _ hr.1 (by omega)
  rw [others_getD h1 (by omega)]
  by_cases h0 : hg.getD ((0 :: od).getD j 0) 0 = 0
  · rw [if_pos h0, h0]
    exact ⟨rfl, by omega, hr.1, by omega⟩
  · rw [if_neg h0]
    have hm : hg.getD ((0 :: od).getD j 0) 0 ∈ od := ho.mem_iff.mpr (List.mem_range'_1.mpr ⟨by omega, by omega⟩)
    refine ⟨idx_cons hm, ?_, hr.1, by omega⟩
    have := List.idxOf_lt_length_iff.mpr hm
    omega
theorem signs_len {n : Nat} {ms od : List Nat} (hn : 1 ≤ n) (ho : od.Perm (List.range' 1 (n - 1))) : (signsOf ms od).length = n := by
  have hl : od.length = n - 1 := by rw [ho.length_eq, List.length_range']
  simp [signsOf, hl]
  omega
theorem page_tot {up ms : List Nat} {wd : Nat} (hw1 : 1 ≤ wd) (hw2 : wd ≤ 2) (hm : ms.length = up.length) (h4 : ∀ m ∈ ms, m < 4) (hn : up.length ≤ 6) : tot ((pageN up ms 6 0).1.map (rowOf 0 wd)) ≤ 44922 := by
  have h1 := (page_bound (w := wd) (markOk_sgn ms) hn hw2 6 0).1
  rw [pageS_N hw1 hm h4] at h1
  exact Nat.le_trans h1 (Cb_le 6 (Nat.le_refl _))
theorem rowOf_no10 (lead w c : Nat) : 10 ∉ (rowOf lead w c).cps.toList := by
  have := sgn_pos (c % 4)
  simp [rowOf, List.mem_replicate]
  omega
theorem rowsOk_map (w : Nat) (l : List Nat) : RowsOk (l.map (rowOf 0 w)) := fun r hr => by
  (refine hide fun PQ kQ => ?_; obtain ⟨c, _, rfl⟩ := List.mem_map.mp hr; refine kQ ?_; clear kQ PQ)
  exact rowOf_no10 0 w c
theorem MsOk.lt4 {n : Nat} {ms : List Nat} (h : MsOk n ms) : ∀ m ∈ ms, m < 4 := fun m hm => by
  (refine hide fun PQ kQ => ?_; obtain ⟨k, hk, rfl⟩ := List.getElem_of_mem hm; refine kQ ?_; clear kQ PQ)
  have e : ms.getD k 0 = ms[k] := by rw [List.getD_eq_getElem?_getD, List.getElem?_eq_getElem hk]; rfl
  by_cases h0 : k = 0
  · subst h0
    have := h.zero
    omega
  · have := h.one k (by omega) (by rw [← h.len]; exact hk)
    omega
theorem signs_lt4 {n : Nat} {ms od : List Nat} (h : MsOk n ms) : ∀ m ∈ signsOf ms od, m < 4 := fun m hm => by
  unfold signsOf at hm
  rcases List.mem_cons.mp hm with rfl | hm
  · decide
  · (refine hide fun PQ kQ => ?_; obtain ⟨k, _, rfl⟩ := List.mem_map.mp hm; refine kQ ?_; clear kQ PQ)
    rw [List.getD_eq_getElem?_getD]
    cases e : ms[k]? with
    | none => decide
    | some x => exact h.lt4 x (List.mem_of_getElem? e)
theorem strs_take {vs : List Value} {ys : List PySem.Str} (h : StrsAre vs ys) : ∀ k, StrsAre (vs.take k) (ys.take k) := by
  induction h with
  | nil => intro k; simp; exact .nil
  | cons x t _ ih =>
    intro k
    cases k with
    | zero => exact .nil
    | succ k => exact .cons x t (ih k)
theorem strs_drop {vs : List Value} {ys : List PySem.Str} (h : StrsAre vs ys) : ∀ k, StrsAre (vs.drop k) (ys.drop k) := by
  induction h with
  | nil => intro k; simp; exact .nil
  | cons x t r ih =>
    intro k
    cases k with
    | zero => exact .cons x t r
    | succ k => exact ih k
theorem tot_len : ∀ l : List PySem.Str, l.length ≤ tot l
  | [] => Nat.le_refl _
  | r :: l => by
    have := tot_len l
    rw [tot_cons, List.length_cons]
    omega
theorem lw_drop1 {α : Type} {a b c d e f g t1 t2 t3 t4 : α} : ∀ q, q ∈ [a, b, c, d, e, f, g] → q ∈ [a, t1, t2, t3, t4, b, c, d, e, f, g] := by
  repeat' (first | exact sub_nil | refine sub_cons ?_ ?_ | refine sub_app ?_ ?_ | (intro q hq; (repeat (first | assumption | exact .head _ | exact List.mem_append_left _ (by assumption) | refine List.Mem.tail _ ?_ | refine List.mem_append_right _ ?_))))
  all_goals (repeat (first | assumption | exact .head _ | exact List.mem_append_left _ (by assumption) | refine List.Mem.tail _ ?_ | refine List.mem_append_right _ ?_))
theorem lw_in5 {α : Type} {q b c d e f g t1 t2 t3 t4 : α} (hq : q ∈ [b, c, d, e, f, g]) : q ∈ [t1, t2, t3, t4, b, c, d, e, f, g] := .tail _ (.tail _ (.tail _ (.tail _ hq)))
theorem strs_append {vs ws : List Value} {a b : List PySem.Str} (h : StrsAre vs a) (h2 : StrsAre ws b) : StrsAre (vs ++ ws) (a ++ b) := by
  induction h with
  | nil => exact h2
  | cons x t _ ih => exact .cons x t ih
theorem carried_strs {vs : List Value} {ss : List PySem.Str} (h : StrsAre vs ss) : CarriedAll vs (ss.map PyData.str) := by
  induction h with
  | nil => exact .nil
  | cons x t _ ih => exact .cons (.str x t) ih
theorem depth_strs : ∀ ss : List PySem.Str, PyData.depthAll (ss.map PyData.str) = 0
  | [] => rfl
  | _ :: r => by simp [PyData.depthAll, PyData.depth, depth_strs r]
theorem canLay_strs : ∀ {ss : List PySem.Str}, (∀ x ∈ ss, PyData.strOk x = true) → PyData.canLayAll0 (ss.map PyData.str) = true
  | [], _ => rfl
  | x :: r, h => by
    have h1 := h x (.head _)
    have h2 := canLay_strs (ss := r) fun y hy => h y (.tail _ hy)
    simp [PyData.canLayAll0, PyData.canLay0, h1, h2]
theorem shaped_strs {ss : List PySem.Str} (h : ∀ x ∈ ss, PyData.strOk x = true) : PySem.SeqAt.shaped (.list (ss.map PyData.str)) = true := by
  simp [PySem.SeqAt.shaped, PyData.canLay0, PyData.depth, canLay_strs h, depth_strs]
theorem same_strs : ∀ a b : List PySem.Str, PySem.Spec.sameAll (a.map PyData.str) (b.map PyData.str) = decide (a = b)
  | [], [] => by simp [PySem.Spec.sameAll]
  | [], _ :: _ => by simp [PySem.Spec.sameAll]
  | _ :: _, [] => by simp [PySem.Spec.sameAll]
  | a :: r, b :: t => by
    simp only [List.map_cons, PySem.Spec.sameAll, PySem.Spec.same, same_strs r t]
    by_cases h : a = b <;> by_cases h' : r = t <;> simp [h, h']
section
variable {prog : Program} {w : World} {A : Around} {E : Value → Shared → Prop} {s : Shared} {a b : Addr} {xs ys : List Value} {ns ms : List PySem.Str} {Q : Value → Shared → Prop}
theorem ne_strs (ha : s.heap.IsList a xs.toArray) (hb : s.heap.IsList b ys.toArray) (hi : StrsAre xs ns) (hj : StrsAre ys ms) (o1 : ∀ x ∈ ns, PyData.strOk x = true) (o2 : ∀ x ∈ ms, PyData.strOk x = true) (hu : A.units + 64 < cLine) (h : Q (.bool (!decide (ns = ms))) s) :
    wpAny (model prog w) A (compareOp .NotEq (.ref a) (.ref b)) Q E s :=
  ne_dataH_same (reads_newData ha (carried_strs hi)) (reads_newData hb (carried_strs hj)) (shaped_strs o1) (shaped_strs o2) hu (PySem.SeqAt.noMix_of_shape (.list .str) rfl _ _ (list_map_has fun _ => rfl) (list_map_has fun _ => rfl)) (by
    show Q (.bool (!PySem.Spec.same (.list (ns.map PyData.str)) (.list (ms.map PyData.str)))) s
    simp only [PySem.Spec.same]
    rw [same_strs]
    exact h)
end
theorem rowOf_ok (lead w c : Nat) : PyData.strOk (rowOf lead w c) = true := by
  have := sgn_pos (c % 4)
  unfold PyData.strOk rowOf
  simp [List.mem_replicate]
  omega
theorem lw_tup {α : Type} {a b : α} {tl r : List α} (ha : a ∈ tl) (hb : b ∈ tl) : ∀ q, q ∈ a :: b :: r → q ∈ tl ++ r := by
  intro q hq
  simp only [List.mem_cons, List.mem_append] at hq ⊢
  rcases hq with rfl | rfl | hq <;> simp [*]
abbrev tupOf (vs : List Value) (n : Nat) : Obj := { cls := .type "tuple", data := .seq vs.toArray n }
section
variable {prog : Program} {w : World} {A : Around} {E : Value → Shared → Prop} {s : Shared} {h₀ : Heap} {L a b : Addr} {news : List (Addr × Obj)} {Q : Value → Shared → Prop}
theorem ne_pair {n : Int} {x : PySem.Str} {t1 t2 t3 t4 : Tok} {k1 k2 : Nat} (N : News h₀ L s.heap news) (ha : (a, tupOf [.int n t1, .str x t2] k1) ∈ news) (hb : (b, tupOf [.int n t3, .str x t4] k2) ∈ news) (ho : PyData.strOk x = true) (hu : A.units + 64 < cLine) (h : Q (.bool false) s) :
    wpAny (model prog w) A (compareOp .NotEq (.ref a) (.ref b)) Q E s := by
  have ra : Reads s.heap (.ref a) (.tuple [.int n, .str x]) [] := reads_tuple_at (News.get N ha) rfl rfl (ReadsAll.cons (Reads.int _ _) (ReadsAll.cons (Reads.str _ _) ReadsAll.nil))
  have rb : Reads s.heap (.ref b) (.tuple [.int n, .str x]) [] := reads_tuple_at (News.get N hb) rfl rfl (ReadsAll.cons (Reads.int _ _) (ReadsAll.cons (Reads.str _ _) ReadsAll.nil))
  have hs : PySem.SeqAt.shaped (.tuple [.int n, .str x]) = true := by
    simp [PySem.SeqAt.shaped, PyData.canLay0, PyData.canLayAll0, PyData.depth, PyData.depthAll, ho]
  refine ne_dataH ra rb hs hs hu ?_
  have e : PyData.eqv (.tuple [.int n, .str x]) (.tuple [.int n, .str x]) = true := by
    simp [PyData.eqv, PyData.eqvAll]
  rw [e]
  exact h
end
theorem kms_from {l : List Value} {n : Nat} (h : n ≤ l.length) : kms_pick l (some (n : Int)) none = l.drop n := by
  unfold kms_pick
  have e1 : kms_lo (some (n : Int)) l.length = n := by
    unfold kms_lo
    dsimp only
    rw [if_neg (by omega), Int.toNat_natCast]
    omega
  have e2 : kms_hi none l.length = l.length := rfl
  rw [e1, e2]
  refine List.take_of_length_le ?_
  rw [List.length_drop]
  exact Nat.le_refl _
theorem kms_upto {l : List Value} {n : Nat} (h : n ≤ l.length) : kms_pick l none (some (n : Int)) = l.take n := by
  unfold kms_pick
  have e1 : kms_lo none l.length = 0 := rfl
  have e2 : kms_hi (some (n : Int)) l.length = n := by
    unfold kms_hi
    dsimp only
    rw [if_neg (by omega), Int.toNat_natCast]
    omega
  rw [e1, e2, List.drop_zero, Nat.sub_zero]
theorem lw_tup2 {α : Type} {a b c : α} {tl r : List α} (ha : a ∈ tl) (hb : b ∈ tl) : ∀ q, q ∈ a :: b :: r → q ∈ tl ++ c :: r := by
  intro q hq
  simp only [List.mem_cons, List.mem_append] at hq ⊢
  rcases hq with rfl | rfl | hq <;> simp [*]
end Mine
end
section
open PySem PySem.Spec PySem.Calls PyProof.Rows PySem.W
set_option Elab.async false
set_option maxRecDepth 100000
set_option maxHeartbeats 4000000
namespace Mine
structure PgOk (C : List Nat) : Prop where
  ne : 1 ≤ C.length
  hd : C.getD 0 0 = 0
  tl : ∀ k, 1 ≤ k → k < C.length → 4 ≤ C.getD k 0
noncomputable def leads (w : Nat) (C : List Nat) : List Nat := C.map fun c => w * (c / 4)
theorem leads_getD (w : Nat) (C : List Nat) (k : Nat) : (leads w C).getD k 0 = w * (C.getD k 0 / 4) := by
  unfold leads
  rw [List.getD_eq_getElem?_getD, List.getD_eq_getElem?_getD, List.getElem?_map]
  cases C[k]? <;> simp
theorem popD_congr {ds es : List Nat} {d k : Nat} : ∀ {p : List Nat}, (∀ t ∈ p, t ≤ k) → (∀ t, t ≤ k → ds.getD t 0 = es.getD t 0) → popD ds d p = popD es d p
  | [], _, _ => rfl
  | t :: r, hp, h => by
    unfold popD
    rw [h t (hp t (.head _)), popD_congr (p := r) (fun z hz => hp z (.tail _ hz)) h]
theorem rdSt_congr {ds es : List Nat} : ∀ {k : Nat}, (∀ t, t ≤ k → ds.getD t 0 = es.getD t 0) → rdSt ds k = rdSt es k
  | 0, _ => rfl
  | k + 1, h => by
    have ih := rdSt_congr (k := k) (ds := ds) (es := es) fun t ht => h t (by omega)
    unfold rdSt
    rw [ih]
    cases e : rdSt es k with
    | none => rfl
    | some x =>
      obtain ⟨up, pile⟩ := x
      have hp := (rdSt_pile e).2
      dsimp only
      rw [h (k + 1) (Nat.le_refl _), popD_congr hp fun t ht => h t (by omega)]
theorem popD_scale {w : Nat} (hw : 1 ≤ w) {C : List Nat} {c : Nat} : ∀ {p : List Nat}, popD (leads w C) (w * (c / 4)) p = popD (leads 1 C) (c / 4) p
  | [] => rfl
  | t :: r => by
    unfold popD
    rw [leads_getD, leads_getD, Nat.one_mul, popD_scale hw]
    by_cases h : C.getD t 0 / 4 < c / 4
    · rw [if_pos (Nat.mul_lt_mul_of_pos_left h (by omega)), if_pos h]
    · rw [if_neg (fun q => h (Nat.lt_of_mul_lt_mul_left q)), if_neg h]
theorem rdSt_scale {w : Nat} (hw : 1 ≤ w) {C : List Nat} : ∀ k, rdSt (leads w C) k = rdSt (leads 1 C) k
  | 0 => rfl
  | k + 1 => by
    unfold rdSt
    rw [rdSt_scale hw k]
    cases rdSt (leads 1 C) k with
    | none => rfl
    | some x =>
      obtain ⟨up, pile⟩ := x
      dsimp only
      rw [leads_getD, leads_getD, Nat.one_mul, popD_scale hw]
theorem popD_zero {ds : List Nat} : ∀ p : List Nat, popD ds 0 p = []
  | [] => rfl
  | t :: r => by
    unfold popD
    rw [if_neg (Nat.not_lt_zero _), popD_zero r]
theorem popD_bottom {ds : List Nat} {d : Nat} (h0 : ds.getD 0 0 < d) : ∀ {p : List Nat}, 0 ∈ p → popD ds d p ≠ [] ∧ 0 ∈ popD ds d p
  | [], h => by cases h
  | t :: r, h => by
    unfold popD
    by_cases ht : ds.getD t 0 < d
    · rw [if_pos ht]
      exact ⟨by simp, h⟩
    · rw [if_neg ht]
      rcases List.mem_cons.mp h with rfl | h
      · exact absurd h0 ht
      · exact popD_bottom h0 h
theorem rdSt_page {w : Nat} (hw : 1 ≤ w) {C : List Nat} (hC : PgOk C) : ∀ k, k < C.length → ∃ up pile, rdSt (leads w C) k = some (up, pile) ∧ 0 ∈ pile
  | 0, _ => ⟨[0], [0], rfl, .head _⟩
  | k + 1, hk => by
    (refine hide fun PQ kQ => ?_; obtain ⟨up, pile, h1, h2⟩ := rdSt_page hw hC k (by omega); refine kQ ?_; clear kQ PQ)
    have h3 := hC.tl (k + 1) (by omega) hk
    have h4 : (leads w C).getD 0 0 < (leads w C).getD (k + 1) 0 := by
      rw [leads_getD, leads_getD, hC.hd]
      have : 1 ≤ C.getD (k + 1) 0 / 4 := by omega
      have := Nat.mul_le_mul hw this
      omega
    obtain ⟨a, b⟩ := popD_bottom h4 h2
    rw [rdSt_succ h1]
    cases e : popD (leads w C) ((leads w C).getD (k + 1) 0) pile with
    | nil => exact absurd e a
    | cons t r =>
      rw [e] at b
      exact ⟨_, _, rfl, .tail _ b⟩
theorem rdSt_none {ds : List Nat} {k : Nat} (h : rdSt ds k = none) : ∀ j, rdSt ds (k + j) = none
  | 0 => h
  | j + 1 => by
    have := rdSt_none h j
    show rdSt ds ((k + j) + 1) = none
    unfold rdSt
    rw [this]
theorem getD_append_l {α : Type} {d : α} {a b : List α} {k : Nat} (h : k < a.length) : (a ++ b).getD k d = a.getD k d := by
  rw [List.getD_eq_getElem?_getD, List.getElem?_append_left h, ← List.getD_eq_getElem?_getD]
theorem getD_append_r {α : Type} {d : α} {a b : List α} {k : Nat} : (a ++ b).getD (a.length + k) d = b.getD k d := by
  rw [List.getD_eq_getElem?_getD, List.getElem?_append_right (by omega), Nat.add_sub_cancel_left, ← List.getD_eq_getElem?_getD]
theorem map_rowOf_getD {w : Nat} {C : List Nat} {k : Nat} (h : k < C.length) : (C.map (rowOf 0 w)).getD k PySem.Str.empty = rowOf 0 w (C.getD k 0) := by
  rw [List.getD_eq_getElem?_getD, List.getD_eq_getElem?_getD, List.getElem?_map, List.getElem?_eq_getElem h]
  rfl
theorem isRow_map {w : Nat} {C : List Nat} : ∀ k, k < (C.map (rowOf 0 w)).length → IsRow ((C.map (rowOf 0 w)).getD k PySem.Str.empty) ((leads w C).getD k 0) := by
  intro k hk
  rw [List.length_map] at hk
  rw [map_rowOf_getD hk, leads_getD]
  have h1 := sgn_pos (C.getD k 0 % 4)
  refine ⟨sgn (C.getD k 0 % 4), ?_, by omega, by omega, h1.2⟩
  unfold rowOf
  rw [Nat.zero_add]
theorem first_two {w : Nat} (hw : 1 ≤ w) {C D : List Nat} (hC : PgOk C) (hD : PgOk D) {k : Nat} {U : List Nat} {line : PySem.Str} (h : FirstR ((C ++ D).map (rowOf 0 w)) (leads w (C ++ D)) k U line) :
    k = C.length ∧ line = sgnS 0 ∧ ∃ pile, rdSt (leads 1 C) (C.length - 1) = some (U, pile) := by
  have hne := hC.ne
  have hnd := hD.ne
  have hcg : ∀ j, j < C.length → rdSt (leads w (C ++ D)) j = rdSt (leads w C) j := fun j hj => rdSt_congr fun t ht => by
    rw [leads_getD, leads_getD, getD_append_l (by omega)]
  (refine hide fun PQ kQ => ?_; obtain ⟨up, pile, h1, _⟩ := rdSt_page hw hC (C.length - 1) (by omega); refine kQ ?_; clear kQ PQ)
  have hroot : (C ++ D).getD C.length 0 = 0 := by
    have := @getD_append_r Nat 0 C D 0
    rw [Nat.add_zero] at this
    rw [this, hD.hd]
  have hnone : rdSt (leads w (C ++ D)) C.length = none := by
    obtain ⟨n, hn⟩ : ∃ n, C.length = n + 1 := ⟨C.length - 1, by omega⟩
    have h2 := hcg n (by omega)
    rw [show C.length - 1 = n by omega] at h1
    rw [h1] at h2
    rw [hn, rdSt_succ h2, leads_getD, ← hn, hroot, Nat.zero_div, Nat.mul_zero, popD_zero]
  rcases h with ⟨rfl, _, pl, hst⟩ | ⟨hk1, hk2, rfl, pl, hst, hpop⟩
  · rw [List.length_map, List.length_append] at hst
    have := rdSt_none hnone (D.length - 1)
    rw [show C.length + (D.length - 1) = C.length + D.length - 1 by omega, hst] at this
    cases this
  · rw [List.length_map, List.length_append] at hk2
    by_cases hlt : k < C.length
    · (refine hide fun PQ kQ => ?_; obtain ⟨up', pile', h2, h3⟩ := rdSt_page hw hC k hlt; refine kQ ?_; clear kQ PQ)
      obtain ⟨m, rfl⟩ : ∃ m, k = m + 1 := ⟨k - 1, by omega⟩
      rw [Nat.add_sub_cancel] at hst
      rw [← hcg _ hlt, rdSt_succ hst, hpop] at h2
      cases h2
    · by_cases hgt : C.length < k
      · have := rdSt_none hnone (k - 1 - C.length)
        rw [show C.length + (k - 1 - C.length) = k - 1 by omega, hst] at this
        cases this
      · have hk : k = C.length := by omega
        subst hk
        refine ⟨rfl, ?_, pl, ?_⟩
        · rw [map_rowOf_getD (by rw [List.length_append]; omega), hroot]
          exact rowOf_root (by decide)
        · rw [← rdSt_scale hw, ← hcg _ (by omega)]
          exact hst
theorem first_one {w : Nat} (hw : 1 ≤ w) {D : List Nat} (hD : PgOk D) {k : Nat} {U : List Nat} {line : PySem.Str} (h : FirstR (D.map (rowOf 0 w)) (leads w D) k U line) :
    line = nilS ∧ ∃ pile, rdSt (leads 1 D) (D.length - 1) = some (U, pile) := by
  have hnd := hD.ne
  rcases h with ⟨_, rfl, pl, hst⟩ | ⟨hk1, hk2, rfl, pl, hst, hpop⟩
  · rw [List.length_map, rdSt_scale hw] at hst
    exact ⟨rfl, pl, hst⟩
  · rw [List.length_map] at hk2
    (refine hide fun PQ kQ => ?_; obtain ⟨up', pile', h2, h3⟩ := rdSt_page hw hD k hk2; refine kQ ?_; clear kQ PQ)
    obtain ⟨m, rfl⟩ : ∃ m, k = m + 1 := ⟨k - 1, by omega⟩
    rw [Nat.add_sub_cancel] at hst
    rw [rdSt_succ hst, hpop] at h2
    cases h2
theorem pgOk_page {up ms : List Nat} (h0 : ms.getD 0 0 = 0) (f : Nat) : PgOk (pageN up ms (f + 1) 0).1 := by
  unfold pageN
  refine ⟨by simp, by simpa using h0, fun k h1 h2 => ?_⟩
  obtain ⟨m, rfl⟩ : ∃ m, k = m + 1 := ⟨k - 1, by omega⟩
  rw [List.length_cons] at h2
  dsimp only
  rw [List.getD_eq_getElem?_getD, List.getElem?_cons_succ, List.getElem?_eq_getElem (by omega), List.getElem_map]
  show 4 ≤ _ + 4
  omega
end Mine
end
section
open PySem PySem.Spec PySem.Calls PyProof.Rows PySem.W
set_option Elab.async false
set_option maxRecDepth 1000000
set_option maxHeartbeats 4000000
namespace Mine
structure WayOk {α : Type} (d : α) (up : List Nat) (marks : List α) (others : List Nat) (signs : List α) (k : Nat) (f : List Nat) : Prop where
  len : f.length = k + 1
  z : f.getD 0 0 = 0
  pos : ∀ j, 1 ≤ j → j ≤ k → 1 ≤ f.getD j 0 ∧ f.getD j 0 < others.length
  up : ∀ j, 1 ≤ j → j ≤ k → others.getD (f.getD j 0) 0 = f.getD (up.getD j 0) 0
  mr : ∀ j, 1 ≤ j → j ≤ k → signs.getD (f.getD j 0) d = marks.getD j d
  nd : f.Nodup
theorem mem_waysL {α : Type} [DecidableEq α] {d : α} {up : List Nat} {marks : List α} {others : List Nat} {signs : List α} : ∀ {k : Nat} {f : List Nat}, (∀ j, 1 ≤ j → j ≤ k → up.getD j 0 < j) → (f ∈ waysL d up marks others signs k ↔ WayOk d up marks others signs k f)
  | 0, f, _ => by
    constructor
    · intro h
      have : f = [0] := by simpa [waysL] using h
      subst this
      exact ⟨rfl, rfl, fun j _ _ => by omega, fun j _ _ => by omega, fun j _ _ => by omega, by simp⟩
    · intro h
      match f, h.len, h.z with
      | [a], _, hz =>
        have : a = 0 := hz
        subst this
        simp [waysL]
  | k + 1, f, hup => by
    have ih : ∀ g, g ∈ waysL d up marks others signs k ↔ WayOk d up marks others signs k g := fun g => mem_waysL fun j a b => hup j a (by omega)
    have hu := hup (k + 1) (by omega) (Nat.le_refl _)
    unfold waysL
    rw [List.mem_flatMap]
    constructor
    · (intro hQ33; refine hide fun PQ kQ => ?_; obtain ⟨way, hw, hf⟩ := hQ33; refine kQ ?_; clear kQ PQ)
      have W := (ih way).mp hw
      unfold stepW at hf
      rw [List.mem_map] at hf
      (refine hide fun PQ kQ => ?_; obtain ⟨y, hy, rfl⟩ := hf; refine kQ ?_; clear kQ PQ)
      rw [List.mem_filter, List.mem_range'_1, Bool.and_eq_true, Bool.and_eq_true, decide_eq_true_eq, decide_eq_true_eq, decide_eq_true_eq] at hy
      (refine hide fun PQ kQ => ?_; obtain ⟨⟨y1, y2⟩, ⟨y3, y4⟩, y5⟩ := hy; refine kQ ?_; clear kQ PQ)
      have el : ∀ j, j ≤ k → (way ++ [y]).getD j 0 = way.getD j 0 := fun j hj => getD_append_l (by rw [W.len]; omega)
      have er : (way ++ [y]).getD (k + 1) 0 = y := by
        have := @getD_append_r Nat 0 way [y] 0
        rw [W.len, Nat.add_zero] at this
        exact this
      refine ⟨by rw [List.length_append, W.len]; rfl, by rw [el 0 (by omega)]; exact W.z, fun j a b => ?_, fun j a b => ?_, fun j a b => ?_, ?_⟩
      · by_cases hj : j = k + 1
        · subst hj
          rw [er]
          omega
        · rw [el j (by omega)]
          exact W.pos j a (by omega)
      · by_cases hj : j = k + 1
        · subst hj
          rw [er, el _ (by omega), y3]
        · rw [el j (by omega), el _ (by have := hup j a b; omega)]
          exact W.up j a (by omega)
      · by_cases hj : j = k + 1
        · subst hj
          rw [er, y4]
        · rw [el j (by omega)]
          exact W.mr j a (by omega)
      · rw [List.nodup_append]
        refine ⟨W.nd, by simp, fun a ha b hb => ?_⟩
        rw [List.mem_singleton] at hb
        subst hb
        exact fun q => y5 (q ▸ ha)
    · intro W
      have hne : f ≠ [] := fun q => by have := W.len; rw [q] at this; cases this
      obtain ⟨way, y, rfl⟩ : ∃ way y, f = way ++ [y] := ⟨f.dropLast, f.getLast hne, (List.dropLast_concat_getLast hne).symm⟩
      have hl : way.length = k + 1 := by
        have := W.len
        rw [List.length_append] at this
        simpa using this
      have el : ∀ j, j ≤ k → (way ++ [y]).getD j 0 = way.getD j 0 := fun j hj => getD_append_l (by rw [hl]; omega)
      have er : (way ++ [y]).getD (k + 1) 0 = y := by
        have := @getD_append_r Nat 0 way [y] 0
        rw [hl, Nat.add_zero] at this
        exact this
      have hnd := List.nodup_append.mp W.nd
      refine ⟨way, (ih way).mpr ⟨hl, ?_, fun j a b => ?_, fun j a b => ?_, fun j a b => ?_, hnd.1⟩, ?_⟩
      · rw [← el 0 (by omega)]; exact W.z
      · rw [← el j b]; exact W.pos j a (by omega)
      · rw [← el j b, ← el (up.getD j 0) (by have := hup j a (by omega); omega)]; exact W.up j a (by omega)
      · rw [← el j b]; exact W.mr j a (by omega)
      · unfold stepW
        rw [List.mem_map]
        refine ⟨y, ?_, rfl⟩
        rw [List.mem_filter, List.mem_range'_1, Bool.and_eq_true, Bool.and_eq_true, decide_eq_true_eq, decide_eq_true_eq, decide_eq_true_eq]
        have a1 := W.pos (k + 1) (by omega) (Nat.le_refl _)
        have a2 := W.up (k + 1) (by omega) (Nat.le_refl _)
        have a3 := W.mr (k + 1) (by omega) (Nat.le_refl _)
        rw [er] at a1 a2 a3
        rw [el _ (by omega)] at a2
        exact ⟨⟨a1.1, by omega⟩, ⟨a2, a3⟩, fun q => hnd.2.2 y q y (.head _) rfl⟩
theorem nodup_waysL {α : Type} [DecidableEq α] {d : α} {up : List Nat} {marks : List α} {others : List Nat} {signs : List α} : ∀ k, (waysL d up marks others signs k).Nodup
  | 0 => by simp [waysL]
  | k + 1 => by
    unfold waysL List.Nodup
    rw [List.pairwise_flatMap]
    refine ⟨fun way _ => ?_, ?_⟩
    · unfold stepW
      rw [List.pairwise_map]
      refine List.Pairwise.imp ?_ (List.Nodup.sublist List.filter_sublist List.nodup_range')
      intro a b hab q
      have := List.append_cancel_left q
      simp at this
      exact hab this
    · refine List.Pairwise.imp ?_ (@nodup_waysL α _ d up marks others signs k)
      intro a b hab x hx y hy q
      unfold stepW at hx hy
      (refine hide fun PQ kQ => ?_; obtain ⟨u, _, rfl⟩ := List.mem_map.mp hx; refine kQ ?_; clear kQ PQ)
      (refine hide fun PQ kQ => ?_; obtain ⟨v, _, rfl⟩ := List.mem_map.mp hy; refine kQ ?_; clear kQ PQ)
      have := congrArg List.dropLast q
      rw [List.dropLast_concat, List.dropLast_concat] at this
      exact hab this
theorem wayOk_lt {α : Type} {d : α} {up : List Nat} {marks : List α} {others : List Nat} {signs : List α} {k : Nat} {f : List Nat} (W : WayOk d up marks others signs k f) (hn : 1 ≤ others.length) : ∀ j, j ≤ k → f.getD j 0 < others.length := fun j hj => by
  by_cases h0 : j = 0
  · subst h0
    rw [W.z]
    exact hn
  · exact (W.pos j (by omega) hj).2
theorem getD_map_lt {α β : Type} {f : α → β} {d : β} {e : α} {l : List α} {j : Nat} (h : j < l.length) : (l.map f).getD j d = f (l.getD j e) := by
  rw [List.getD_eq_getElem?_getD, List.getD_eq_getElem?_getD, List.getElem?_map, List.getElem?_eq_getElem h]
  rfl
theorem mem_getD {l : List Nat} {x : Nat} (h : x ∈ l) : ∃ j, j < l.length ∧ l.getD j 0 = x := by
  (refine hide fun PQ kQ => ?_; obtain ⟨j, hj, rfl⟩ := List.getElem_of_mem h; refine kQ ?_; clear kQ PQ)
  exact ⟨j, hj, by rw [List.getD_eq_getElem?_getD, List.getElem?_eq_getElem hj]; rfl⟩
theorem wayOk_mem_lt {α : Type} {d : α} {up : List Nat} {marks : List α} {others : List Nat} {signs : List α} {k : Nat} {f : List Nat} (W : WayOk d up marks others signs k f) (hn : 1 ≤ others.length) : ∀ x ∈ f, x < others.length := fun x hx => by
  (refine hide fun PQ kQ => ?_; obtain ⟨j, hj, rfl⟩ := mem_getD hx; refine kQ ?_; clear kQ PQ)
  exact wayOk_lt W hn j (by have := W.len; omega)
theorem nodup_map_on {φ ψ : Nat → Nat} : ∀ {f : List Nat}, f.Nodup → (∀ x ∈ f, ψ (φ x) = x) → (f.map φ).Nodup
  | [], _, _ => by simp
  | a :: r, h, hi => by
    rw [List.nodup_cons] at h
    rw [List.map_cons, List.nodup_cons]
    refine ⟨fun q => ?_, nodup_map_on h.2 fun x hx => hi x (.tail _ hx)⟩
    (refine hide fun PQ kQ => ?_; obtain ⟨b, hb, e⟩ := List.mem_map.mp q; refine kQ ?_; clear kQ PQ)
    have h1 := hi b (.tail _ hb)
    have h2 := hi a (.head _)
    rw [e, h2] at h1
    exact h.1 (h1 ▸ hb)
theorem wayOk_iso {n k : Nat} {up mks vp ks wp ls : List Nat} {φ ψ : Nat → Nat} {f : List Nat} (I : Iso n vp ks wp ls φ ψ) (hn : 1 ≤ n) (hup : ∀ j, 1 ≤ j → j ≤ k → up.getD j 0 < j) (W : WayOk 0 up mks vp ks k f) : WayOk 0 up mks wp ls k (f.map φ) := by
  have lt : ∀ j, j ≤ k → f.getD j 0 < n := fun j hj => by
    have := wayOk_lt W (by rw [I.lu]; exact hn) j hj
    rwa [I.lu] at this
  have e : ∀ j, j ≤ k → (f.map φ).getD j 0 = φ (f.getD j 0) := fun j hj => getD_map_lt (by rw [W.len]; omega)
  refine ⟨by rw [List.length_map, W.len], by rw [e 0 (by omega), W.z, I.z], fun j a b => ?_, fun j a b => ?_, fun j a b => ?_, ?_⟩
  · rw [e j b, I.lv]
    exact ⟨I.pos (W.pos j a b).1 (lt j b), (I.lt _ (lt j b)).1⟩
  · rw [e j b, (I.up _ (W.pos j a b).1 (lt j b)).1, W.up j a b, e _ (by have := hup j a b; omega)]
  · rw [e j b, I.mks _ (lt j b), W.mr j a b]
  · refine nodup_map_on (ψ := ψ) W.nd fun x hx => ?_
    have := wayOk_mem_lt W (by rw [I.lu]; exact hn) x hx
    rw [I.lu] at this
    exact (I.lt x this).2
theorem ways_iso_len {n k : Nat} {up mks vp ks wp ls : List Nat} {φ ψ : Nat → Nat} (I : Iso n vp ks wp ls φ ψ) (hn : 1 ≤ n) (hup : ∀ j, 1 ≤ j → j ≤ k → up.getD j 0 < j) : (waysL 0 up mks wp ls k).length = (waysL 0 up mks vp ks k).length := by
  have hp : (waysL 0 up mks wp ls k).Perm ((waysL 0 up mks vp ks k).map fun f => f.map φ) := by
    have back : ∀ f, WayOk 0 up mks vp ks k f → (f.map φ).map ψ = f := fun f W => by
      rw [List.map_map]
      refine (List.map_congr_left fun x hx => ?_).trans (List.map_id _)
      have := wayOk_mem_lt W (by rw [I.lu]; exact hn) x hx
      rw [I.lu] at this
      exact (I.lt x this).2
    refine (List.perm_ext_iff_of_nodup (nodup_waysL k) ?_).mpr fun g => ?_
    · refine List.pairwise_map.mpr (List.Pairwise.imp_of_mem ?_ (nodup_waysL k))
      intro a b ha hb hab q
      have h1 := back a ((mem_waysL hup).mp ha)
      have h2 := back b ((mem_waysL hup).mp hb)
      rw [q, h2] at h1
      exact hab h1.symm
    · rw [mem_waysL hup, List.mem_map]
      constructor
      · intro W
        have J := I.symm hn
        refine ⟨g.map ψ, (mem_waysL hup).mpr (wayOk_iso J hn hup W), ?_⟩
        rw [List.map_map]
        refine (List.map_congr_left fun x hx => ?_).trans (List.map_id _)
        have := wayOk_mem_lt W (by rw [I.lv]; exact hn) x hx
        rw [I.lv] at this
        exact (I.tl x this).2
      · (intro hQ181; refine hide fun PQ kQ => ?_; obtain ⟨f, hf, rfl⟩ := hQ181; refine kQ ?_; clear kQ PQ)
        exact wayOk_iso I hn hup ((mem_waysL hup).mp hf)
  rw [hp.length_eq, List.length_map]
theorem pigeon : ∀ (n : Nat) (l : List Nat), l.Nodup → (∀ x ∈ l, x < n) → l.length ≤ n
  | 0, [], _, _ => Nat.le_refl _
  | 0, a :: _, _, h => absurd (h a (.head _)) (Nat.not_lt_zero _)
  | n + 1, l, hnd, h => by
    have h1 := pigeon n (l.erase n) (hnd.sublist List.erase_sublist) fun x hx => by
      have h2 := h x (List.mem_of_mem_erase hx)
      have h3 : x ≠ n := fun q => by
        rw [q] at hx
        exact (List.Nodup.not_mem_erase hnd) hx
      omega
    rw [List.length_erase] at h1
    split at h1 <;> omega
theorem iso_of_way {n : Nat} {up ms vp ks f : List Nat} (hn : 1 ≤ n) (lu : up.length = n) (lv : vp.length = n) (hup : ∀ j, 1 ≤ j → j ≤ n - 1 → up.getD j 0 < j) (h0 : ks.getD 0 0 = ms.getD 0 0) (W : WayOk 0 up ms vp ks (n - 1) f) : Iso n up ms vp ks (fun k => f.getD k 0) (fun y => f.idxOf y) := by
  have hl : f.length = n := by rw [W.len]; omega
  have lt : ∀ j, j < n → f.getD j 0 < n := fun j hj => by
    have := wayOk_lt W (by rw [lv]; exact hn) j (by omega)
    rwa [lv] at this
  have ge : ∀ j (hj : j < n), f.getD j 0 = f[j]'(by omega) := fun j hj => by
    rw [List.getD_eq_getElem?_getD, List.getElem?_eq_getElem (by omega)]
    rfl
  have hmem : ∀ y, y < n → y ∈ f := fun y hy => by
    refine Decidable.byContradiction fun q => ?_
    have h1 := pigeon n (y :: f) (List.nodup_cons.mpr ⟨q, W.nd⟩) fun x hx => by
      rcases List.mem_cons.mp hx with rfl | hx
      · exact hy
      · have := wayOk_mem_lt W (by rw [lv]; exact hn) x hx
        rwa [lv] at this
    rw [List.length_cons, hl] at h1
    omega
  refine ⟨lu, lv, fun k hk => ⟨lt k hk, ?_⟩, fun y hy => ⟨?_, ?_⟩, W.z, fun k a b => ⟨W.up k a (by omega), by have := hup k a (by omega); omega⟩, fun k hk => ?_⟩
  · show f.idxOf (f.getD k 0) = k
    rw [ge k hk]
    exact W.nd.idxOf_getElem k (by omega)
  · show f.idxOf y < n
    rw [← hl]
    exact List.idxOf_lt_length_iff.mpr (hmem y hy)
  · show f.getD (f.idxOf y) 0 = y
    rw [List.getD_eq_getElem?_getD, List.getElem?_eq_getElem (List.idxOf_lt_length_iff.mpr (hmem y hy))]
    exact List.getElem_idxOf _
  · by_cases hk0 : k = 0
    · subst hk0
      show ks.getD (f.getD 0 0) 0 = _
      rw [W.z, h0]
    · exact W.mr k (by omega) (by omega)
theorem way_of_iso {n : Nat} {up ms vp ks : List Nat} {φ ψ : Nat → Nat} (hn : 1 ≤ n) (hup : ∀ j, 1 ≤ j → j ≤ n - 1 → up.getD j 0 < j) (I : Iso n up ms vp ks φ ψ) : WayOk 0 up ms vp ks (n - 1) ((List.range n).map φ) := by
  have e : ∀ j, j < n → ((List.range n).map φ).getD j 0 = φ j := fun j hj => by
    rw [getD_map_lt (e := 0) (by rw [List.length_range]; exact hj), List.getD_eq_getElem?_getD, List.getElem?_range hj]
    rfl
  refine ⟨by rw [List.length_map, List.length_range]; omega, by rw [e 0 (by omega), I.z], fun j a b => ?_, fun j a b => ?_, fun j a b => ?_, ?_⟩
  · rw [e j (by omega), I.lv]
    exact ⟨I.pos a (by omega), (I.lt j (by omega)).1⟩
  · have := hup j a b
    rw [e j (by omega), e _ (by omega), (I.up j a (by omega)).1]
  · rw [e j (by omega), I.mks j (by omega)]
  · refine nodup_map_on (ψ := ψ) List.nodup_range fun x hx => ?_
    rw [List.mem_range] at hx
    exact (I.lt x hx).2
theorem waysL_marks {α β : Type} [DecidableEq α] [DecidableEq β] {d : α} {e : β} {up : List Nat} {m : List α} {others : List Nat} {s : List α} {m' : List β} {s' : List β} : ∀ k, (∀ j y, 1 ≤ j → j ≤ k → 1 ≤ y → y < others.length → (s.getD y d = m.getD j d ↔ s'.getD y e = m'.getD j e)) → waysL d up m others s k = waysL e up m' others s' k
  | 0, _ => rfl
  | k + 1, h => by
    unfold waysL
    rw [waysL_marks k fun j y a b => h j y a (by omega)]
    congr 1
    funext way
    unfold stepW
    congr 1
    refine List.filter_congr fun y hy => ?_
    rw [List.mem_range'_1] at hy
    have := h (k + 1) y (by omega) (Nat.le_refl _) hy.1 (by omega)
    by_cases q : s.getD y d = m.getD (k + 1) d
    · rw [decide_eq_true q, decide_eq_true (this.mp q)]
    · rw [decide_eq_false q, decide_eq_false (fun r => q (this.mpr r))]
end Mine
end
section
open PySem PySem.Spec PySem.Calls PyProof.Rows PySem.W
set_option Elab.async false
set_option maxRecDepth 1000000
set_option maxHeartbeats 4000000
namespace Mine
noncomputable def okRead (n : Nat) (up ms C : List Nat) (c : Nat) : Option (List Nat × List Nat) → Bool
  | none => false
  | some (U, _) => Nat.beq (waysL 0 U (C.map (· % 4)) up ms (n - 1)).length c
noncomputable def okPg (n : Nat) (up ms : List Nat) : List Nat × Nat → Bool
  | (C, c) => Nat.beq C.length n && Nat.ble 1 c && okRead n up ms C c (rdSt (leads 1 C) (n - 1))
noncomputable def okTree (n : Nat) (up ms : List Nat) : Bool := okPg n up ms (pageN up ms 6 0)
noncomputable def upsN : Nat → List (List Nat)
  | 0 => []
  | 1 => [[0]]
  | n + 2 => (upsN (n + 1)).flatMap fun u => (List.range (n + 1)).map fun y => u ++ [y]
noncomputable def msN : Nat → List (List Nat)
  | 0 => []
  | 1 => [[0]]
  | n + 2 => (msN (n + 1)).flatMap fun u => [u ++ [1], u ++ [2]]
noncomputable def okUps (n : Nat) (us : List (List Nat)) : Bool := us.all fun u => (msN n).all fun m => okTree n u m
noncomputable def isoB (n : Nat) (u r f : List Nat) : Bool :=
  Nat.beq u.length n && Nat.beq r.length n && Nat.beq (f.getD 0 0) 0 &&
  ((List.range n).all fun j => Nat.blt (f.getD j 0) n && Nat.beq (f.idxOf (f.getD j 0)) j && Nat.blt (f.idxOf j) n && Nat.beq (f.getD (f.idxOf j) 0) j) &&
  (List.range' 1 (n - 1)).all fun k => Nat.beq (r.getD (f.getD k 0) 0) (f.getD (u.getD k 0) 0)
noncomputable def rep4 : List (List Nat) := [[0, 0, 0, 0], [0, 0, 0, 1], [0, 0, 1, 1], [0, 0, 1, 2]]
noncomputable def tab4 : List (List Nat × List Nat × List Nat) := [([0, 0, 0, 0], [0, 0, 0, 0], [0, 1, 2, 3]), ([0, 0, 0, 1], [0, 0, 0, 1], [0, 1, 2, 3]), ([0, 0, 0, 2], [0, 0, 0, 1], [0, 2, 1, 3]), ([0, 0, 1, 0], [0, 0, 0, 1], [0, 1, 3, 2]), ([0, 0, 1, 1], [0, 0, 1, 1], [0, 1, 2, 3]), ([0, 0, 1, 2], [0, 0, 1, 2], [0, 1, 2, 3])]
noncomputable def rep5 : List (List Nat) := [[0, 0, 0, 0, 0], [0, 0, 0, 0, 1], [0, 0, 0, 1, 1], [0, 0, 0, 1, 2], [0, 0, 0, 1, 3], [0, 0, 1, 1, 1], [0, 0, 1, 1, 2], [0, 0, 1, 2, 2], [0, 0, 1, 2, 3]]
noncomputable def tab5 : List (List Nat × List Nat × List Nat) := [([0, 0, 0, 0, 0], [0, 0, 0, 0, 0], [0, 1, 2, 3, 4]), ([0, 0, 0, 0, 1], [0, 0, 0, 0, 1], [0, 1, 2, 3, 4]), ([0, 0, 0, 0, 2], [0, 0, 0, 0, 1], [0, 2, 1, 3, 4]), ([0, 0, 0, 0, 3], [0, 0, 0, 0, 1], [0, 2, 3, 1, 4]), ([0, 0, 0, 1, 0], [0, 0, 0, 0, 1], [0, 1, 2, 4, 3]), ([0, 0, 0, 1, 1], [0, 0, 0, 1, 1], [0, 1, 2, 3, 4]), ([0, 0, 0, 1, 2], [0, 0, 0, 1, 2], [0, 1, 2, 3, 4]), ([0, 0, 0, 1, 3], [0, 0, 0, 1, 3], [0, 1, 2, 3, 4]), ([0, 0, 0, 2, 0], [0, 0, 0, 0, 1], [0, 2, 1, 4, 3]), ([0, 0, 0, 2, 1], [0, 0, 0, 1, 2], [0, 1, 2, 4, 3]), ([0, 0, 0, 2, 2], [0, 0, 0, 1, 1], [0, 2, 1, 3, 4]), ([0, 0, 0, 2, 3], [0, 0, 0, 1, 3], [0, 2, 1, 3, 4]), ([0, 0, 1, 0, 0], [0, 0, 0, 0, 1], [0, 1, 4, 2, 3]), ([0, 0, 1, 0, 1], [0, 0, 0, 1, 1], [0, 1, 3, 2, 4]), ([0, 0, 1, 0, 2], [0, 0, 0, 1, 3], [0, 1, 3, 2, 4]), ([0, 0, 1, 0, 3], [0, 0, 0, 1, 2], [0, 1, 3, 2, 4]), ([0, 0, 1, 1, 0], [0, 0, 0, 1, 1], [0, 1, 3, 4, 2]), ([0, 0, 1, 1, 1], [0, 0, 1, 1, 1], [0, 1, 2, 3, 4]), ([0, 0, 1, 1, 2], [0, 0, 1, 1, 2], [0, 1, 2, 3, 4]), ([0, 0, 1, 1, 3], [0, 0, 1, 1, 2], [0, 1, 3, 2, 4]), ([0, 0, 1, 2, 0], [0, 0, 0, 1, 3], [0, 1, 3, 4, 2]), ([0, 0, 1, 2, 1], [0, 0, 1, 1, 2], [0, 1, 2, 4, 3]), ([0, 0, 1, 2, 2], [0, 0, 1, 2, 2], [0, 1, 2, 3, 4]), ([0, 0, 1, 2, 3], [0, 0, 1, 2, 3], [0, 1, 2, 3, 4])]
noncomputable def rep6 : List (List Nat) := [[0, 0, 0, 0, 0, 0], [0, 0, 0, 0, 0, 1], [0, 0, 0, 0, 1, 1], [0, 0, 0, 0, 1, 2], [0, 0, 0, 0, 1, 4], [0, 0, 0, 1, 1, 1], [0, 0, 0, 1, 1, 2], [0, 0, 0, 1, 1, 3], [0, 0, 0, 1, 2, 3], [0, 0, 0, 1, 3, 3], [0, 0, 0, 1, 3, 4], [0, 0, 1, 1, 1, 1], [0, 0, 1, 1, 1, 2], [0, 0, 1, 1, 2, 2], [0, 0, 1, 1, 2, 3], [0, 0, 1, 1, 2, 4], [0, 0, 1, 2, 2, 2], [0, 0, 1, 2, 2, 3], [0, 0, 1, 2, 3, 3], [0, 0, 1, 2, 3, 4]]
noncomputable def tab6 : List (List Nat × List Nat × List Nat) := [([0, 0, 0, 0, 0, 0], [0, 0, 0, 0, 0, 0], [0, 1, 2, 3, 4, 5]), ([0, 0, 0, 0, 0, 1], [0, 0, 0, 0, 0, 1], [0, 1, 2, 3, 4, 5]), ([0, 0, 0, 0, 0, 2], [0, 0, 0, 0, 0, 1], [0, 2, 1, 3, 4, 5]), ([0, 0, 0, 0, 0, 3], [0, 0, 0, 0, 0, 1], [0, 2, 3, 1, 4, 5]), ([0, 0, 0, 0, 0, 4], [0, 0, 0, 0, 0, 1], [0, 2, 3, 4, 1, 5]), ([0, 0, 0, 0, 1, 0], [0, 0, 0, 0, 0, 1], [0, 1, 2, 3, 5, 4]), ([0, 0, 0, 0, 1, 1], [0, 0, 0, 0, 1, 1], [0, 1, 2, 3, 4, 5]), ([0, 0, 0, 0, 1, 2], [0, 0, 0, 0, 1, 2], [0, 1, 2, 3, 4, 5]), ([0, 0, 0, 0, 1, 3], [0, 0, 0, 0, 1, 2], [0, 1, 3, 2, 4, 5]), ([0, 0, 0, 0, 1, 4], [0, 0, 0, 0, 1, 4], [0, 1, 2, 3, 4, 5]), ([0, 0, 0, 0, 2, 0], [0, 0, 0, 0, 0, 1], [0, 2, 1, 3, 5, 4]), ([0, 0, 0, 0, 2, 1], [0, 0, 0, 0, 1, 2], [0, 1, 2, 3, 5, 4]), ([0, 0, 0, 0, 2, 2], [0, 0, 0, 0, 1, 1], [0, 2, 1, 3, 4, 5]), ([0, 0, 0, 0, 2, 3], [0, 0, 0, 0, 1, 2], [0, 3, 1, 2, 4, 5]), ([0, 0, 0, 0, 2, 4], [0, 0, 0, 0, 1, 4], [0, 2, 1, 3, 4, 5]), ([0, 0, 0, 0, 3, 0], [0, 0, 0, 0, 0, 1], [0, 2, 3, 1, 5, 4]), ([0, 0, 0, 0, 3, 1], [0, 0, 0, 0, 1, 2], [0, 1, 3, 2, 5, 4]), ([0, 0, 0, 0, 3, 2], [0, 0, 0, 0, 1, 2], [0, 3, 1, 2, 5, 4]), ([0, 0, 0, 0, 3, 3], [0, 0, 0, 0, 1, 1], [0, 2, 3, 1, 4, 5]), ([0, 0, 0, 0, 3, 4], [0, 0, 0, 0, 1, 4], [0, 2, 3, 1, 4, 5]), ([0, 0, 0, 1, 0, 0], [0, 0, 0, 0, 0, 1], [0, 1, 2, 5, 3, 4]), ([0, 0, 0, 1, 0, 1], [0, 0, 0, 0, 1, 1], [0, 1, 2, 4, 3, 5]), ([0, 0, 0, 1, 0, 2], [0, 0, 0, 0, 1, 2], [0, 1, 2, 4, 3, 5]), ([0, 0, 0, 1, 0, 3], [0, 0, 0, 0, 1, 4], [0, 1, 2, 4, 3, 5]), ([0, 0, 0, 1, 0, 4], [0, 0, 0, 0, 1, 2], [0, 1, 3, 4, 2, 5]), ([0, 0, 0, 1, 1, 0], [0, 0, 0, 0, 1, 1], [0, 1, 2, 4, 5, 3]), ([0, 0, 0, 1, 1, 1], [0, 0, 0, 1, 1, 1], [0, 1, 2, 3, 4, 5]), ([0, 0, 0, 1, 1, 2], [0, 0, 0, 1, 1, 2], [0, 1, 2, 3, 4, 5]), ([0, 0, 0, 1, 1, 3], [0, 0, 0, 1, 1, 3], [0, 1, 2, 3, 4, 5]), ([0, 0, 0, 1, 1, 4], [0, 0, 0, 1, 1, 3], [0, 1, 2, 4, 3, 5]), ([0, 0, 0, 1, 2, 0], [0, 0, 0, 0, 1, 2], [0, 1, 2, 4, 5, 3]), ([0, 0, 0, 1, 2, 1], [0, 0, 0, 1, 1, 2], [0, 1, 2, 3, 5, 4]), ([0, 0, 0, 1, 2, 2], [0, 0, 0, 1, 1, 2], [0, 2, 1, 5, 3, 4]), ([0, 0, 0, 1, 2, 3], [0, 0, 0, 1, 2, 3], [0, 1, 2, 3, 4, 5]), ([0, 0, 0, 1, 2, 4], [0, 0, 0, 1, 2, 3], [0, 2, 1, 4, 3, 5]), ([0, 0, 0, 1, 3, 0], [0, 0, 0, 0, 1, 4], [0, 1, 2, 4, 5, 3]), ([0, 0, 0, 1, 3, 1], [0, 0, 0, 1, 1, 3], [0, 1, 2, 3, 5, 4]), ([0, 0, 0, 1, 3, 2], [0, 0, 0, 1, 2, 3], [0, 1, 2, 3, 5, 4]), ([0, 0, 0, 1, 3, 3], [0, 0, 0, 1, 3, 3], [0, 1, 2, 3, 4, 5]), ([0, 0, 0, 1, 3, 4], [0, 0, 0, 1, 3, 4], [0, 1, 2, 3, 4, 5]), ([0, 0, 0, 2, 0, 0], [0, 0, 0, 0, 0, 1], [0, 2, 1, 5, 3, 4]), ([0, 0, 0, 2, 0, 1], [0, 0, 0, 0, 1, 2], [0, 1, 2, 5, 3, 4]), ([0, 0, 0, 2, 0, 2], [0, 0, 0, 0, 1, 1], [0, 2, 1, 4, 3, 5]), ([0, 0, 0, 2, 0, 3], [0, 0, 0, 0, 1, 4], [0, 2, 1, 4, 3, 5]), ([0, 0, 0, 2, 0, 4], [0, 0, 0, 0, 1, 2], [0, 3, 1, 4, 2, 5]), ([0, 0, 0, 2, 1, 0], [0, 0, 0, 0, 1, 2], [0, 1, 2, 5, 4, 3]), ([0, 0, 0, 2, 1, 1], [0, 0, 0, 1, 1, 2], [0, 1, 2, 5, 3, 4]), ([0, 0, 0, 2, 1, 2], [0, 0, 0, 1, 1, 2], [0, 2, 1, 3, 5, 4]), ([0, 0, 0, 2, 1, 3], [0, 0, 0, 1, 2, 3], [0, 2, 1, 3, 4, 5]), ([0, 0, 0, 2, 1, 4], [0, 0, 0, 1, 2, 3], [0, 1, 2, 4, 3, 5]), ([0, 0, 0, 2, 2, 0], [0, 0, 0, 0, 1, 1], [0, 2, 1, 4, 5, 3]), ([0, 0, 0, 2, 2, 1], [0, 0, 0, 1, 1, 2], [0, 2, 1, 3, 4, 5]), ([0, 0, 0, 2, 2, 2], [0, 0, 0, 1, 1, 1], [0, 2, 1, 3, 4, 5]), ([0, 0, 0, 2, 2, 3], [0, 0, 0, 1, 1, 3], [0, 2, 1, 3, 4, 5]), ([0, 0, 0, 2, 2, 4], [0, 0, 0, 1, 1, 3], [0, 2, 1, 4, 3, 5]), ([0, 0, 0, 2, 3, 0], [0, 0, 0, 0, 1, 4], [0, 2, 1, 4, 5, 3]), ([0, 0, 0, 2, 3, 1], [0, 0, 0, 1, 2, 3], [0, 2, 1, 3, 5, 4]), ([0, 0, 0, 2, 3, 2], [0, 0, 0, 1, 1, 3], [0, 2, 1, 3, 5, 4]), ([0, 0, 0, 2, 3, 3], [0, 0, 0, 1, 3, 3], [0, 2, 1, 3, 4, 5]), ([0, 0, 0, 2, 3, 4], [0, 0, 0, 1, 3, 4], [0, 2, 1, 3, 4, 5]), ([0, 0, 1, 0, 0, 0], [0, 0, 0, 0, 0, 1], [0, 1, 5, 2, 3, 4]), ([0, 0, 1, 0, 0, 1], [0, 0, 0, 0, 1, 1], [0, 1, 4, 2, 3, 5]), ([0, 0, 1, 0, 0, 2], [0, 0, 0, 0, 1, 4], [0, 1, 4, 2, 3, 5]), ([0, 0, 1, 0, 0, 3], [0, 0, 0, 0, 1, 2], [0, 1, 4, 2, 3, 5]), ([0, 0, 1, 0, 0, 4], [0, 0, 0, 0, 1, 2], [0, 1, 4, 3, 2, 5]), ([0, 0, 1, 0, 1, 0], [0, 0, 0, 0, 1, 1], [0, 1, 4, 2, 5, 3]), ([0, 0, 1, 0, 1, 1], [0, 0, 0, 1, 1, 1], [0, 1, 3, 2, 4, 5]), ([0, 0, 1, 0, 1, 2], [0, 0, 0, 1, 1, 3], [0, 1, 3, 2, 4, 5]), ([0, 0, 1, 0, 1, 3], [0, 0, 0, 1, 1, 2], [0, 1, 3, 2, 4, 5]), ([0, 0, 1, 0, 1, 4], [0, 0, 0, 1, 1, 3], [0, 1, 4, 2, 3, 5]), ([0, 0, 1, 0, 2, 0], [0, 0, 0, 0, 1, 4], [0, 1, 4, 2, 5, 3]), ([0, 0, 1, 0, 2, 1], [0, 0, 0, 1, 1, 3], [0, 1, 3, 2, 5, 4]), ([0, 0, 1, 0, 2, 2], [0, 0, 0, 1, 3, 3], [0, 1, 3, 2, 4, 5]), ([0, 0, 1, 0, 2, 3], [0, 0, 0, 1, 2, 3], [0, 1, 3, 2, 5, 4]), ([0, 0, 1, 0, 2, 4], [0, 0, 0, 1, 3, 4], [0, 1, 3, 2, 4, 5]), ([0, 0, 1, 0, 3, 0], [0, 0, 0, 0, 1, 2], [0, 1, 4, 2, 5, 3]), ([0, 0, 1, 0, 3, 1], [0, 0, 0, 1, 1, 2], [0, 1, 3, 2, 5, 4]), ([0, 0, 1, 0, 3, 2], [0, 0, 0, 1, 2, 3], [0, 1, 3, 2, 4, 5]), ([0, 0, 1, 0, 3, 3], [0, 0, 0, 1, 1, 2], [0, 2, 5, 1, 3, 4]), ([0, 0, 1, 0, 3, 4], [0, 0, 0, 1, 2, 3], [0, 2, 4, 1, 3, 5]), ([0, 0, 1, 1, 0, 0], [0, 0, 0, 0, 1, 1], [0, 1, 4, 5, 2, 3]), ([0, 0, 1, 1, 0, 1], [0, 0, 0, 1, 1, 1], [0, 1, 3, 4, 2, 5]), ([0, 0, 1, 1, 0, 2], [0, 0, 0, 1, 1, 3], [0, 1, 3, 4, 2, 5]), ([0, 0, 1, 1, 0, 3], [0, 0, 0, 1, 1, 3], [0, 1, 4, 3, 2, 5]), ([0, 0, 1, 1, 0, 4], [0, 0, 0, 1, 1, 2], [0, 1, 3, 4, 2, 5]), ([0, 0, 1, 1, 1, 0], [0, 0, 0, 1, 1, 1], [0, 1, 3, 4, 5, 2]), ([0, 0, 1, 1, 1, 1], [0, 0, 1, 1, 1, 1], [0, 1, 2, 3, 4, 5]), ([0, 0, 1, 1, 1, 2], [0, 0, 1, 1, 1, 2], [0, 1, 2, 3, 4, 5]), ([0, 0, 1, 1, 1, 3], [0, 0, 1, 1, 1, 2], [0, 1, 3, 2, 4, 5]), ([0, 0, 1, 1, 1, 4], [0, 0, 1, 1, 1, 2], [0, 1, 3, 4, 2, 5]), ([0, 0, 1, 1, 2, 0], [0, 0, 0, 1, 1, 3], [0, 1, 3, 4, 5, 2]), ([0, 0, 1, 1, 2, 1], [0, 0, 1, 1, 1, 2], [0, 1, 2, 3, 5, 4]), ([0, 0, 1, 1, 2, 2], [0, 0, 1, 1, 2, 2], [0, 1, 2, 3, 4, 5]), ([0, 0, 1, 1, 2, 3], [0, 0, 1, 1, 2, 3], [0, 1, 2, 3, 4, 5]), ([0, 0, 1, 1, 2, 4], [0, 0, 1, 1, 2, 4], [0, 1, 2, 3, 4, 5]), ([0, 0, 1, 1, 3, 0], [0, 0, 0, 1, 1, 3], [0, 1, 4, 3, 5, 2]), ([0, 0, 1, 1, 3, 1], [0, 0, 1, 1, 1, 2], [0, 1, 3, 2, 5, 4]), ([0, 0, 1, 1, 3, 2], [0, 0, 1, 1, 2, 3], [0, 1, 2, 3, 5, 4]), ([0, 0, 1, 1, 3, 3], [0, 0, 1, 1, 2, 2], [0, 1, 3, 2, 4, 5]), ([0, 0, 1, 1, 3, 4], [0, 0, 1, 1, 2, 4], [0, 1, 3, 2, 4, 5]), ([0, 0, 1, 2, 0, 0], [0, 0, 0, 0, 1, 4], [0, 1, 4, 5, 2, 3]), ([0, 0, 1, 2, 0, 1], [0, 0, 0, 1, 1, 3], [0, 1, 3, 5, 2, 4]), ([0, 0, 1, 2, 0, 2], [0, 0, 0, 1, 3, 3], [0, 1, 3, 4, 2, 5]), ([0, 0, 1, 2, 0, 3], [0, 0, 0, 1, 3, 4], [0, 1, 3, 4, 2, 5]), ([0, 0, 1, 2, 0, 4], [0, 0, 0, 1, 2, 3], [0, 1, 3, 5, 2, 4]), ([0, 0, 1, 2, 1, 0], [0, 0, 0, 1, 1, 3], [0, 1, 3, 5, 4, 2]), ([0, 0, 1, 2, 1, 1], [0, 0, 1, 1, 1, 2], [0, 1, 2, 5, 3, 4]), ([0, 0, 1, 2, 1, 2], [0, 0, 1, 1, 2, 2], [0, 1, 2, 4, 3, 5]), ([0, 0, 1, 2, 1, 3], [0, 0, 1, 1, 2, 4], [0, 1, 2, 4, 3, 5]), ([0, 0, 1, 2, 1, 4], [0, 0, 1, 1, 2, 3], [0, 1, 2, 4, 3, 5]), ([0, 0, 1, 2, 2, 0], [0, 0, 0, 1, 3, 3], [0, 1, 3, 4, 5, 2]), ([0, 0, 1, 2, 2, 1], [0, 0, 1, 1, 2, 2], [0, 1, 2, 4, 5, 3]), ([0, 0, 1, 2, 2, 2], [0, 0, 1, 2, 2, 2], [0, 1, 2, 3, 4, 5]), ([0, 0, 1, 2, 2, 3], [0, 0, 1, 2, 2, 3], [0, 1, 2, 3, 4, 5]), ([0, 0, 1, 2, 2, 4], [0, 0, 1, 2, 2, 3], [0, 1, 2, 4, 3, 5]), ([0, 0, 1, 2, 3, 0], [0, 0, 0, 1, 3, 4], [0, 1, 3, 4, 5, 2]), ([0, 0, 1, 2, 3, 1], [0, 0, 1, 1, 2, 4], [0, 1, 2, 4, 5, 3]), ([0, 0, 1, 2, 3, 2], [0, 0, 1, 2, 2, 3], [0, 1, 2, 3, 5, 4]), ([0, 0, 1, 2, 3, 3], [0, 0, 1, 2, 3, 3], [0, 1, 2, 3, 4, 5]), ([0, 0, 1, 2, 3, 4], [0, 0, 1, 2, 3, 4], [0, 1, 2, 3, 4, 5])]
noncomputable def tabOk (n : Nat) (tab : List (List Nat × List Nat × List Nat)) (rep : List (List Nat)) : Bool :=
  decide ((tab.map fun t => t.1) = upsN n) && tab.all fun t => isoB n t.1 t.2.1 t.2.2 && decide (t.2.1 ∈ rep)
theorem tab_ok4 : tabOk 4 tab4 rep4 = true := by decide +kernel
theorem tab_ok5 : tabOk 5 tab5 rep5 = true := by decide +kernel
theorem tab_ok6 : tabOk 6 tab6 rep6 = true := by decide +kernel
theorem rep_ok4 : okUps 4 rep4 = true := by decide +kernel
theorem rep_ok5 : okUps 5 rep5 = true := by decide +kernel
theorem ok_split {n : Nat} (k : Nat) {us : List (List Nat)} (h1 : okUps n (us.take k) = true) (h2 : okUps n (us.drop k) = true) : okUps n us = true := by
  rw [← List.take_append_drop k us]
  unfold okUps at *
  rw [List.all_append, h1, h2]
  rfl
theorem rep_ok6a : okUps 6 (rep6.take 4) = true := by decide +kernel
theorem rep_ok6b : okUps 6 ((rep6.drop 4).take 4) = true := by decide +kernel
theorem rep_ok6c : okUps 6 (((rep6.drop 4).drop 4).take 4) = true := by decide +kernel
theorem rep_ok6d : okUps 6 ((((rep6.drop 4).drop 4).drop 4).take 4) = true := by decide +kernel
theorem rep_ok6e : okUps 6 ((((rep6.drop 4).drop 4).drop 4).drop 4) = true := by decide +kernel
theorem rep_ok6 : okUps 6 rep6 = true := ok_split 4 rep_ok6a (ok_split 4 rep_ok6b (ok_split 4 rep_ok6c (ok_split 4 rep_ok6d rep_ok6e)))
theorem getD_snoc {α : Type} {d x : α} {u : List α} {k : Nat} (h : k < u.length) : (u ++ [x]).getD k d = u.getD k d := getD_append_l h
theorem getD_last {α : Type} {d x : α} {u : List α} {n : Nat} (h : u.length = n) : (u ++ [x]).getD n d = x := by
  have := @getD_append_r α d u [x] 0
  rw [h, Nat.add_zero] at this
  exact this
theorem mem_upsN : ∀ {n : Nat} {up : List Nat}, UpOk (n + 1) up → up ∈ upsN (n + 1)
  | 0, up, h => by
    match up, h.len, h.zero with
    | [a], _, hz =>
      have : a = 0 := hz
      subst this
      exact .head _
  | n + 1, up, h => by
    have hne : up ≠ [] := fun q => by have := h.len; rw [q] at this; cases this
    obtain ⟨u, y, rfl⟩ : ∃ u y, up = u ++ [y] := ⟨up.dropLast, up.getLast hne, (List.dropLast_concat_getLast hne).symm⟩
    have hl : u.length = n + 1 := by
      have := h.len
      rw [List.length_append] at this
      simpa using this
    show _ ∈ (upsN (n + 1)).flatMap _
    rw [List.mem_flatMap]
    refine ⟨u, mem_upsN ⟨hl, ?_, fun k a b => ?_⟩, List.mem_map.mpr ⟨y, ?_, rfl⟩⟩
    · rw [← @getD_snoc Nat 0 y u 0 (by omega)]
      exact h.zero
    · rw [← @getD_snoc Nat 0 y u k (by omega)]
      exact h.lt k a (by omega)
    · rw [List.mem_range]
      have := h.lt (n + 1) (by omega) (by omega)
      rwa [getD_last hl] at this
theorem mem_msN : ∀ {n : Nat} {ms : List Nat}, MsOk (n + 1) ms → ms ∈ msN (n + 1)
  | 0, ms, h => by
    match ms, h.len, h.zero with
    | [a], _, hz =>
      have : a = 0 := hz
      subst this
      exact .head _
  | n + 1, ms, h => by
    have hne : ms ≠ [] := fun q => by have := h.len; rw [q] at this; cases this
    obtain ⟨u, y, rfl⟩ : ∃ u y, ms = u ++ [y] := ⟨ms.dropLast, ms.getLast hne, (List.dropLast_concat_getLast hne).symm⟩
    have hl : u.length = n + 1 := by
      have := h.len
      rw [List.length_append] at this
      simpa using this
    show _ ∈ (msN (n + 1)).flatMap _
    rw [List.mem_flatMap]
    refine ⟨u, mem_msN ⟨hl, ?_, fun k a b => ?_⟩, ?_⟩
    · rw [← @getD_snoc Nat 0 y u 0 (by omega)]
      exact h.zero
    · rw [← @getD_snoc Nat 0 y u k (by omega)]
      exact h.one k a (by omega)
    · have := h.one (n + 1) (by omega) (by omega)
      rw [getD_last hl] at this
      rcases this with rfl | rfl
      · exact .head _
      · exact .tail _ (.head _)
theorem rdSt_lt {ds : List Nat} : ∀ {k : Nat} {up pile : List Nat}, rdSt ds k = some (up, pile) → ∀ j, 1 ≤ j → j ≤ k → up.getD j 0 < j
  | 0, _, _, _, j, a, b => by omega
  | k + 1, up, pile, h, j, a, b => by
    unfold rdSt at h
    cases e : rdSt ds k with
    | none => rw [e] at h; cases h
    | some x =>
      obtain ⟨u, p⟩ := x
      rw [e] at h
      dsimp only at h
      have hp := rdSt_pile e
      cases e2 : popD ds (ds.getD (k + 1) 0) p with
      | nil => rw [e2] at h; cases h
      | cons t r =>
        rw [e2] at h
        cases h
        have ht : t ∈ p := popD_sub (ds := ds) (d := ds.getD (k + 1) 0) t (by rw [e2]; exact .head _)
        have htk := hp.2 t ht
        by_cases hj : j = k + 1
        · subst hj
          rw [getD_last hp.1]
          omega
        · rw [getD_snoc (by rw [hp.1]; omega)]
          exact rdSt_lt e j a (by omega)
theorem iso_of_isoB {n : Nat} {u r f ms : List Nat} (h : isoB n u r f = true) (hu : UpOk n u) : Iso n u ms r ((List.range n).map fun j => ms.getD (f.idxOf j) 0) (fun k => f.getD k 0) (fun j => f.idxOf j) := by
  unfold isoB at h
  simp only [Bool.and_eq_true, Nat.beq_eq, List.all_eq_true, List.mem_range, List.mem_range'_1, Nat.blt_eq] at h
  (refine hide fun PQ kQ => ?_; obtain ⟨⟨⟨⟨h1, h2⟩, h3⟩, h4⟩, h5⟩ := h; refine kQ ?_; clear kQ PQ)
  refine ⟨h1, h2, fun k hk => ⟨(h4 k hk).1.1.1, (h4 k hk).1.1.2⟩, fun k hk => ⟨(h4 k hk).1.2, (h4 k hk).2⟩, h3, fun k a b => ⟨h5 k ⟨a, by omega⟩, by have := hu.lt k a b; omega⟩, fun k hk => ?_⟩
  have hk2 := (h4 k hk).1.1
  show ((List.range n).map fun j => ms.getD (f.idxOf j) 0).getD (f.getD k 0) 0 = _
  rw [getD_map_lt (e := 0) (by rw [List.length_range]; exact hk2.1), List.getD_eq_getElem?_getD (l := List.range n), List.getElem?_range hk2.1]
  show ms.getD (f.idxOf (f.getD k 0)) 0 = _
  rw [hk2.2]
theorem tab_use {n : Nat} {tab : List (List Nat × List Nat × List Nat)} {rep : List (List Nat)} (h : tabOk n tab rep = true) (hn : 1 ≤ n) {up : List Nat} (hu : UpOk n up) : ∃ r f, isoB n up r f = true ∧ r ∈ rep := by
  unfold tabOk at h
  rw [Bool.and_eq_true, decide_eq_true_eq, List.all_eq_true] at h
  obtain ⟨m, rfl⟩ : ∃ m, n = m + 1 := ⟨n - 1, by omega⟩
  have hm := mem_upsN hu
  rw [← h.1, List.mem_map] at hm
  (refine hide fun PQ kQ => ?_; obtain ⟨t, ht, rfl⟩ := hm; refine kQ ?_; clear kQ PQ)
  have := h.2 t ht
  rw [Bool.and_eq_true, decide_eq_true_eq] at this
  exact ⟨_, _, this.1, this.2⟩
theorem page_read {n : Nat} {up ms : List Nat} (h4 : 4 ≤ n) (h6 : n ≤ 6) (hu : UpOk n up) (hm : MsOk n ms) :
    (pageN up ms 6 0).1.length = n ∧ 1 ≤ (pageN up ms 6 0).2 ∧ ∃ U pile, rdSt (leads 1 (pageN up ms 6 0).1) (n - 1) = some (U, pile) ∧ (waysL 0 U ((pageN up ms 6 0).1.map (· % 4)) up ms (n - 1)).length = (pageN up ms 6 0).2 := by
  obtain ⟨rep, hrep, r, f, hi, hr⟩ : ∃ rep, okUps n rep = true ∧ ∃ r f, isoB n up r f = true ∧ r ∈ rep := by
    have : n = 4 ∨ n = 5 ∨ n = 6 := by omega
    rcases this with rfl | rfl | rfl
    · exact ⟨rep4, rep_ok4, tab_use tab_ok4 (by decide) hu⟩
    · exact ⟨rep5, rep_ok5, tab_use tab_ok5 (by decide) hu⟩
    · exact ⟨rep6, rep_ok6, tab_use tab_ok6 (by decide) hu⟩
  have I := iso_of_isoB (ms := ms) hi hu
  generalize hks : ((List.range n).map fun j => ms.getD (f.idxOf j) 0) = ks at I
  have hkl : ks.length = n := by rw [← hks, List.length_map, List.length_range]
  have J := I.symm (by omega)
  have hz : (f.idxOf 0) = 0 := J.z
  have hge : ∀ k, k < n → ks.getD k 0 = ms.getD (f.idxOf k) 0 := fun k hk => by
    rw [← hks, getD_map_lt (e := 0) (by rw [List.length_range]; exact hk), List.getD_eq_getElem?_getD (l := List.range n), List.getElem?_range hk]
    rfl
  have hko : MsOk n ks := ⟨hkl, by rw [hge 0 (by omega), hz]; exact hm.zero, fun k a b => by
    rw [hge k b]
    exact hm.one _ (J.pos a b) (J.lt k b).1⟩
  obtain ⟨m, rfl⟩ : ∃ m, n = m + 1 := ⟨n - 1, by omega⟩
  have ht : okTree (m + 1) r ks = true := by
    unfold okUps at hrep
    rw [List.all_eq_true] at hrep
    have := hrep r hr
    rw [List.all_eq_true] at this
    exact this ks (mem_msN hko)
  have hp : pageN r ks 6 0 = pageN up ms 6 0 := by
    have := page_iso I (by omega) 6 0 (by omega)
    rw [I.z] at this
    exact this
  unfold okTree at ht
  rw [hp] at ht
  generalize pageN up ms 6 0 = P at ht
  obtain ⟨C, c⟩ := P
  unfold okPg at ht
  rw [Bool.and_eq_true, Bool.and_eq_true, Nat.beq_eq, Nat.ble_eq] at ht
  (refine hide fun PQ kQ => ?_; obtain ⟨⟨t1, t2⟩, t3⟩ := ht; refine kQ ?_; clear kQ PQ)
  refine ⟨t1, t2, ?_⟩
  unfold okRead at t3
  cases e : rdSt (leads 1 C) (m + 1 - 1) with
  | none => rw [e] at t3; cases t3
  | some x =>
    obtain ⟨U, pile⟩ := x
    rw [e] at t3
    dsimp only at t3
    rw [Nat.beq_eq] at t3
    refine ⟨U, pile, rfl, ?_⟩
    rw [← ways_iso_len I (by omega) fun j a b => rdSt_lt e j a b]
    exact t3
end Mine
end
section
open PySem PySem.Spec PySem.Calls PyProof.Rows PySem.W
set_option Elab.async false
set_option maxRecDepth 100000
set_option maxHeartbeats 4000000
namespace Mine
abbrev T3 := Nat × PySem.Str × PySem.Str
noncomputable def unlL (RW : List PySem.Str) (n : Nat) : Nat → List T3
  | 0 => []
  | k + 1 => unlL RW n k ++ if RW.getD k PySem.Str.empty = RW.getD (k + n) PySem.Str.empty then [] else [(k, RW.getD k PySem.Str.empty, RW.getD (k + n) PySem.Str.empty)]
inductive TupsAt (led : List (Addr × Obj)) : List Value → List T3 → Prop
  | nil : TupsAt led [] []
  | cons {T : Addr} {vs : List Value} {k : Nat} {a b : PySem.Str} {l : List T3} {tk ta tb : Tok} {nt : Nat} : (T, tupOf [.int (k : Int) tk, .str a ta, .str b tb] nt) ∈ led → TupsAt led vs l → TupsAt led (.ref T :: vs) ((k, a, b) :: l)
theorem TupsAt.mono {led led2 : List (Addr × Obj)} {vs : List Value} {l : List T3} (h : TupsAt led vs l) (hm : ∀ q ∈ led, q ∈ led2) : TupsAt led2 vs l := by
  induction h with
  | nil => exact .nil
  | cons hT _ ih => exact .cons (hm _ hT) ih
theorem TupsAt.snoc {led : List (Addr × Obj)} {vs : List Value} {l : List T3} {T : Addr} {k : Nat} {a b : PySem.Str} {tk ta tb : Tok} {nt : Nat} (hT : (T, tupOf [.int (k : Int) tk, .str a ta, .str b tb] nt) ∈ led) (h : TupsAt led vs l) : TupsAt led (vs ++ [.ref T]) (l ++ [(k, a, b)]) := by
  induction h with
  | nil => exact .cons hT .nil
  | cons h' _ ih => exact .cons h' ih
theorem TupsAt.take {led : List (Addr × Obj)} {vs : List Value} {l : List T3} (h : TupsAt led vs l) : ∀ k, TupsAt led (vs.take k) (l.take k) := by
  induction h with
  | nil => intro k; simp; exact .nil
  | cons hT _ ih =>
    intro k
    cases k with
    | zero => exact .nil
    | succ k => exact .cons hT (ih k)
noncomputable def t3D (x : T3) : PyData := .tuple [.int (x.1 : Int), .str x.2.1, .str x.2.2]
theorem TupsAt.reads {led : List (Addr × Obj)} {vs : List Value} {l : List T3} {h : Heap} {h₀ : Heap} {L : Addr} (ht : TupsAt led vs l) (N : News h₀ L h led) : ReadsAll h vs (l.map t3D) [] := by
  induction ht with
  | nil => exact .nil
  | cons hT _ ih => exact readsAll_cons_val (reads_tuple_at (News.get N hT) rfl rfl (ReadsAll.cons (Reads.int _ _) (ReadsAll.cons (Reads.str _ _) (ReadsAll.cons (Reads.str _ _) ReadsAll.nil)))) ih
theorem t3_shaped {l : List T3} (hl : l.length ≤ 1) (ho : ∀ x ∈ l, PyData.strOk x.2.1 = true ∧ PyData.strOk x.2.2 = true) : PySem.SeqAt.shaped (.list (l.map t3D)) = true := by
  cases l with
  | nil => decide +kernel
  | cons x r =>
    have := ho x (.head _)
    cases r with
    | nil => simp [PySem.SeqAt.shaped, PyData.canLay0, PyData.canLayAll0, PyData.depth, PyData.depthAll, t3D, this]
    | cons y r => exact absurd hl (Nat.not_le_of_lt (Nat.succ_lt_succ (Nat.succ_pos _)))
theorem t3_eqv {l : List T3} (hl : l.length ≤ 1) : PyData.eqv (.list (l.map t3D)) (.list (l.map t3D)) = true := by
  cases l with
  | nil => decide +kernel
  | cons x r =>
    cases r with
    | nil => simp [PyData.eqv, PyData.eqvAll, t3D]
    | cons y r => exact absurd hl (Nat.not_le_of_lt (Nat.succ_lt_succ (Nat.succ_pos _)))
section
variable {prog : Program} {w : World} {A : Around} {E : Value → Shared → Prop} {s : Shared} {h₀ : Heap} {L a b : Addr} {news : List (Addr × Obj)} {Q : Value → Shared → Prop}
theorem ne_tups {l : List T3} {xs ys : List Value} {k1 k2 : Nat} (N : News h₀ L s.heap news) (ha : (a, listOf xs.toArray k1) ∈ news) (hb : (b, listOf ys.toArray k2) ∈ news) (hx : TupsAt news xs l) (hy : TupsAt news ys l) (hl : l.length ≤ 1) (ho : ∀ x ∈ l, PyData.strOk x.2.1 = true ∧ PyData.strOk x.2.2 = true) (hu : A.units + 64 < cLine) (h : Q (.bool false) s) :
    wpAny (model prog w) A (compareOp .NotEq (.ref a) (.ref b)) Q E s := by
  have ra : Reads s.heap (.ref a) (.list (l.map t3D)) [a] := reads_list_at (News.get N ha) rfl rfl (hx.reads N)
  have rb : Reads s.heap (.ref b) (.list (l.map t3D)) [b] := reads_list_at (News.get N hb) rfl rfl (hy.reads N)
  have hs := t3_shaped hl ho
  refine ne_dataH ra rb hs hs hu ?_
  rw [t3_eqv hl]
  exact h
end
theorem unl_split {α : Type} {x : α} {a cc : List α} {e : List α} {q : α} (h : q ∈ a ++ ((cc ++ [x]) ++ e)) : q = x ∨ q ∈ a ++ (cc ++ e) := by
  simp only [List.mem_append, List.mem_singleton] at h ⊢
  rcases h with h | (h | h) | h <;> simp [h]
theorem lw_three {α : Type} {a b c d e f g x y z : α} : ∀ q ∈ [d, y, z], q ∈ a :: b :: c :: d :: e :: f :: g :: x :: y :: z :: [] := by
  intro q hq
  simp only [List.mem_cons, List.not_mem_nil, or_false] at hq ⊢
  rcases hq with rfl | rfl | rfl <;> simp
theorem compAt_snoc {h₀ h h' : Heap} {L C D I : Addr} {m u u' : PySem.Str → Option Value} {oI oC : Obj} {its : List Value} {nn : Nat} {cc base f : List (Addr × Obj)} {x : Addr × Obj} (c : CompAt h₀ L m C D I oI its nn (cc ++ base) u h) (F : Fr h₀ L h' m) (hn : NsO oC u') (N : News h₀ L h' (x :: (f ++ ((C, oC) :: (D, listOf its.toArray nn) :: (I, oI) :: (cc ++ base))))) (l : @LT.lt Nat _ C x.1 ∧ @LT.lt Nat _ D x.1 ∧ @LT.lt Nat _ I x.1) : CompAt h₀ L m C D I oI its nn ((cc ++ [x]) ++ base) u' h' := by
  refine ⟨F, ⟨oC, hn, fun q hq => N q ?_⟩, c.cd, c.ci, c.di, fun q hq => ?_⟩
  · simp only [List.mem_cons, List.mem_append, List.not_mem_nil, or_false] at hq ⊢
    rcases hq with h | h | h | (h | h) | h <;> simp [h]
  · rcases unl_split (a := []) hq with rfl | hq
    · exact ⟨Nat.ne_of_gt l.1, Nat.ne_of_gt l.2.1, Nat.ne_of_gt l.2.2⟩
    · exact c.off q hq
theorem mem_parted {α : Type} {p : α} {tl b cc : List α} (hp : p ∈ tl) : ∀ q, q ∈ p :: (b ++ (tl ++ cc)) → q ∈ tl ++ (b ++ cc) := by
  intro q hq
  simp only [List.mem_cons, List.mem_append] at hq ⊢
  rcases hq with h | h | h | h <;> simp [h, hp]
theorem mem_parted2 {α : Type} {p : α} {tl b cc : List α} : ∀ q, q ∈ b ++ cc → q ∈ p :: (b ++ (tl ++ cc)) := by
  intro q hq
  simp only [List.mem_cons, List.mem_append] at hq ⊢
  rcases hq with h | h <;> simp [h]
theorem mem_parted3 {α : Type} {p : α} {tl b cc : List α} : ∀ q, q ∈ tl → q ∈ p :: (b ++ (tl ++ cc)) := by
  intro q hq
  simp [hq]
theorem mem_swap {α : Type} {d : α} {a b : List α} : ∀ q, q ∈ d :: (b ++ a) → q ∈ d :: (a ++ b) := by
  intro q hq
  simp only [List.mem_cons, List.mem_append] at hq ⊢
  rcases hq with h | h | h <;> simp [h]
end Mine
end
section
open PySem PySem.Spec PySem.Calls PyProof.Rows PySem.W
set_option Elab.async false
set_option maxRecDepth 100000
set_option maxHeartbeats 4000000
namespace Mine
theorem second_iso {n : Nat} {hg ms od : List Nat} (hn : 1 ≤ n) (hh : UpOk n hg) (hm : MsOk n ms) (ho : od.Perm (List.range' 1 (n - 1))) :
    Iso n hg ms (othersOf hg od) (signsOf ms od) (fun k => if k = 0 then 0 else 1 + od.idxOf k) (fun j => (0 :: od).getD j 0) := by
  have hl : od.length = n - 1 := by rw [ho.length_eq, List.length_range']
  have hmem : ∀ k, 1 ≤ k → k < n → k ∈ od := fun k a b => ho.mem_iff.mpr (List.mem_range'_1.mpr ⟨a, by omega⟩)
  have hil : ∀ k, 1 ≤ k → k < n → od.idxOf k < od.length := fun k a b => List.idxOf_lt_length_iff.mpr (hmem k a b)
  have hnd : od.Nodup := (List.Perm.nodup_iff ho).mpr List.nodup_range'
  refine ⟨hh.len, (others_up hn hh ho).1, fun k hk => ?_, fun j hj => ?_, rfl, fun k a b => ?_, fun k hk => ?_⟩
  · by_cases h0 : k = 0
    · subst h0
      exact ⟨by show (0 : Nat) < n; omega, rfl⟩
    · have h1 := hil k (by omega) hk
      rw [if_neg h0]
      exact ⟨by omega, idx_cons (hmem k (by omega) hk)⟩
  · by_cases h0 : j = 0
    · subst h0
      exact ⟨by show (0 : Nat) < n; omega, rfl⟩
    · obtain ⟨i, rfl⟩ : ∃ i, j = i + 1 := ⟨j - 1, by omega⟩
      have hi : i < od.length := by omega
      have e : (0 :: od).getD (i + 1) 0 = od[i] := by
        rw [List.getD_eq_getElem?_getD, List.getElem?_cons_succ, List.getElem?_eq_getElem hi]
        rfl
      have hr := List.mem_range'_1.mp (ho.mem_iff.mp (List.getElem_mem hi))
      rw [e]
      refine ⟨by omega, ?_⟩
      rw [if_neg (by omega), hnd.idxOf_getElem i hi]
      omega
  · have h1 := hil k a b
    have hlt := hh.lt k a b
    refine ⟨?_, by omega⟩
    rw [if_neg (show k ≠ 0 by omega), others_getD (by omega) (by omega), idx_cons (hmem k a b)]
  · by_cases h0 : k = 0
    · subst h0
      exact hm.zero.symm
    · have h1 := hil k (by omega) hk
      rw [if_neg h0, Nat.add_comm]
      unfold signsOf
      rw [List.getD_eq_getElem?_getD, List.getElem?_cons_succ, List.getElem?_map, List.getElem?_eq_getElem h1]
      show ms.getD (od[od.idxOf k]) 0 = _
      rw [List.getElem_idxOf]
structure LawOk (n : Nat) (up ms ot sg : List Nat) (P1 P2 : List Nat × Nat) : Prop where
  l1 : P1.1.length = n
  l2 : P2.1.length = n
  r1 : ∀ U pile, rdSt (leads 1 P1.1) (n - 1) = some (U, pile) → (waysL 0 U (P1.1.map (· % 4)) up ms (n - 1)).length = P1.2
  r2 : ∀ U pile, rdSt (leads 1 P2.1) (n - 1) = some (U, pile) → (waysL 0 U (P2.1.map (· % 4)) ot sg (n - 1)).length = P2.2
  same : (waysL 0 up ms ot sg (n - 1)).length ≠ 0 → P1.1 = P2.1
  diff : (waysL 0 up ms ot sg (n - 1)).length = 0 → P1.1 ≠ P2.1
theorem iso_of_ways {n : Nat} {up ms vp ks : List Nat} (hn : 1 ≤ n) (lu : up.length = n) (lv : vp.length = n) (hup : ∀ j, 1 ≤ j → j ≤ n - 1 → up.getD j 0 < j) (h0 : ks.getD 0 0 = ms.getD 0 0) (h : (waysL 0 up ms vp ks (n - 1)).length ≠ 0) : ∃ φ ψ, Iso n up ms vp ks φ ψ := by
  obtain ⟨f, hf⟩ := List.exists_mem_of_length_pos (Nat.pos_of_ne_zero h)
  exact ⟨_, _, iso_of_way hn lu lv hup h0 ((mem_waysL hup).mp hf)⟩
theorem law_ok {n : Nat} {up ms hg od ot sg : List Nat} (h4 : 4 ≤ n) (h6 : n ≤ 6) (hu : UpOk n up) (hm : MsOk n ms) (hh : UpOk n hg) (ho : od.Perm (List.range' 1 (n - 1))) (hot : ot = othersOf hg od) (hsg : sg = signsOf ms od) :
    LawOk n up ms ot sg (pageN up ms 6 0) (pageN ot sg 6 0) := by
  obtain ⟨σ, τ, J⟩ : ∃ σ τ, Iso n hg ms ot sg σ τ := by
    have := second_iso (by omega) hh hm ho
    rw [← hot, ← hsg] at this
    exact ⟨_, _, this⟩
  have hp : pageN ot sg 6 0 = pageN hg ms 6 0 := by
    have := page_iso J (by omega) 6 0 (by omega)
    rw [J.z] at this
    exact this
  (refine hide fun PQ kQ => ?_; obtain ⟨a1, a2, U1, p1, a3, a4⟩ := page_read h4 h6 hu hm; refine kQ ?_; clear kQ PQ)
  (refine hide fun PQ kQ => ?_; obtain ⟨b1, b2, U2, p2, b3, b4⟩ := page_read h4 h6 hh hm; refine kQ ?_; clear kQ PQ)
  rw [← hp] at b1 b2 b3 b4
  have hsg0 : sg.getD 0 0 = 0 := by rw [hsg]; rfl
  have hm0 := hm.zero
  have q1 : PgOk (pageN up ms 6 0).1 := pgOk_page hm0 5
  have q2 : PgOk (pageN ot sg 6 0).1 := pgOk_page hsg0 5
  have hM : ∀ C : List Nat, PgOk C → (C.map (· % 4)).getD 0 0 = 0 := fun C q => by
    rw [getD_map_lt (e := 0) (by have := q.ne; omega), q.hd]
  have c4 : (waysL 0 U2 ((pageN ot sg 6 0).1.map (· % 4)) ot sg (n - 1)).length = (pageN ot sg 6 0).2 := by
    rw [← b4]
    exact ways_iso_len J (by omega) fun j a b => rdSt_lt b3 j a b
  have hup : ∀ j, 1 ≤ j → j ≤ n - 1 → up.getD j 0 < j := fun j a b => hu.lt j a (by omega)
  refine ⟨a1, b1, fun U pile h => ?_, fun U pile h => ?_, fun h => ?_, fun h q => ?_⟩
  · rw [a3] at h
    cases h
    exact a4
  · rw [b3] at h
    cases h
    exact c4
  · (refine hide fun PQ kQ => ?_; obtain ⟨φ, ψ, I⟩ := iso_of_ways (by omega) hu.len J.lv hup (by rw [hsg0, hm0]) h; refine kQ ?_; clear kQ PQ)
    have := page_iso I (by omega) 6 0 (by omega)
    rw [I.z] at this
    rw [this]
  · rw [q] at a3 a4
    rw [b3] at a3
    cases a3
    have lU : U1.length = n := by have := (rdSt_pile b3).1; omega
    obtain ⟨φ1, ψ1, I1⟩ := iso_of_ways (by omega) lU hu.len (fun j a b => rdSt_lt b3 j a b) (hm0.trans (hM _ q2).symm) (by rw [a4]; omega)
    obtain ⟨φ2, ψ2, I2⟩ := iso_of_ways (by omega) lU J.lv (fun j a b => rdSt_lt b3 j a b) (hsg0.trans (hM _ q2).symm) (by rw [c4]; omega)
    have W := way_of_iso (by omega) hup ((I1.symm (by omega)).trans I2)
    have := (mem_waysL hup).mpr W
    rw [List.length_eq_zero_iff] at h
    rw [h] at this
    cases this
theorem sgnS_iff {a b : Nat} (ha : a < 4) (hb : b < 4) : sgnS a = sgnS b ↔ a = b := by
  constructor
  · intro h
    refine sgn_inj ha hb ?_
    have : (sgnS a).cps = (sgnS b).cps := by rw [h]
    simpa [sgnS] using this
  · intro h
    rw [h]
theorem ways_sgn {up M others S : List Nat} {k : Nat} (hM : ∀ m ∈ M, m < 4) (hS : ∀ m ∈ S, m < 4) (hk : k < M.length) (ho : others.length = S.length) :
    waysL PySem.Str.empty up (M.map sgnS) others (S.map sgnS) k = waysL 0 up M others S k := by
  refine waysL_marks k fun j y a b c d => ?_
  rw [getD_map_lt (e := 0) (by omega), getD_map_lt (e := 0) (by omega)]
  refine sgnS_iff ?_ ?_
  · rw [List.getD_eq_getElem?_getD, List.getElem?_eq_getElem (show y < S.length by omega)]
    exact hS _ (List.getElem_mem _)
  · rw [List.getD_eq_getElem?_getD, List.getElem?_eq_getElem (show j < M.length by omega)]
    exact hM _ (List.getElem_mem _)
theorem partOf_self : ∀ (k : Nat) (a : List PySem.Str), partOf k a a = none
  | _, [] => rfl
  | k, x :: r => by
    unfold partOf
    rw [if_pos rfl, partOf_self (k + 1) r]
theorem drop_cons {l : List PySem.Str} {i : Nat} (h : i < l.length) : l.drop i = l.getD i PySem.Str.empty :: l.drop (i + 1) := by
  rw [List.drop_eq_getElem_cons h, List.getD_eq_getElem?_getD, List.getElem?_eq_getElem h]
  rfl
theorem partOf_unl {R1 R2 : List PySem.Str} {n : Nat} (h1 : R1.length = n) (h2 : R2.length = n) : ∀ i, i ≤ n →
    partOf 0 (R1 ++ [nilS]) (R2 ++ [nilS]) = match unlL (R1 ++ R2) n i with
      | [] => partOf i (R1.drop i ++ [nilS]) (R2.drop i ++ [nilS])
      | x :: _ => some x
  | 0, _ => rfl
  | i + 1, hi => by
    have ih := partOf_unl h1 h2 i (by omega)
    rw [ih]
    have e1 : (R1 ++ R2).getD i PySem.Str.empty = R1.getD i PySem.Str.empty := getD_append_l (by omega)
    have e2 : (R1 ++ R2).getD (i + n) PySem.Str.empty = R2.getD i PySem.Str.empty := by
      rw [Nat.add_comm, ← h1]
      exact getD_append_r
    have eu : unlL (R1 ++ R2) n (i + 1) = unlL (R1 ++ R2) n i ++ if R1.getD i PySem.Str.empty = R2.getD i PySem.Str.empty then [] else [(i, R1.getD i PySem.Str.empty, R2.getD i PySem.Str.empty)] := by
      rw [← e1, ← e2]
      rfl
    rw [eu]
    cases unlL (R1 ++ R2) n i with
    | cons x r => rfl
    | nil =>
      rw [List.nil_append]
      dsimp only
      rw [drop_cons (show i < R1.length by omega), drop_cons (show i < R2.length by omega)]
      by_cases h : R1.getD i PySem.Str.empty = R2.getD i PySem.Str.empty
      · rw [if_pos h]
        dsimp only
        rw [List.cons_append, List.cons_append]
        conv => lhs; unfold partOf
        rw [if_pos h]
      · rw [if_neg h]
        dsimp only
        rw [List.cons_append, List.cons_append]
        conv => lhs; unfold partOf
        rw [if_neg h]
theorem parted_unl {R1 R2 : List PySem.Str} {n : Nat} (h1 : R1.length = n) (h2 : R2.length = n) : (partOf 0 (R1 ++ [nilS]) (R2 ++ [nilS])).toList = (unlL (R1 ++ R2) n n).take 1 := by
  rw [partOf_unl h1 h2 n (Nat.le_refl _)]
  cases unlL (R1 ++ R2) n n with
  | cons x r => rfl
  | nil =>
    dsimp only
    rw [List.drop_of_length_le (by omega), List.drop_of_length_le (by omega), partOf_self]
    rfl
theorem unlL_ok {RW : List PySem.Str} {n : Nat} (h : ∀ x ∈ RW, PyData.strOk x = true) : ∀ k, ∀ x ∈ unlL RW n k, PyData.strOk x.2.1 = true ∧ PyData.strOk x.2.2 = true
  | 0, x, hx => by cases hx
  | k + 1, x, hx => by
    have hg : ∀ j, PyData.strOk (RW.getD j PySem.Str.empty) = true := fun j => by
      rw [List.getD_eq_getElem?_getD]
      cases e : RW[j]? with
      | none => decide +kernel
      | some y => exact h y (List.mem_of_getElem? e)
    unfold unlL at hx
    rcases List.mem_append.mp hx with hx | hx
    · exact unlL_ok h k x hx
    · split at hx
      · cases hx
      · rw [List.mem_singleton.mp hx]
        exact ⟨hg _, hg _⟩
end Mine
end
section
open PySem PySem.Spec PySem.Calls PyProof.Rows PySem.W
set_option Elab.async false
set_option maxRecDepth 100000
set_option maxHeartbeats 4000000
namespace Mine
theorem rowOf_len (w c : Nat) : (rowOf 0 w c).length = w * (c / 4) + 1 := by
  unfold rowOf PySem.Str.length
  simp
theorem rowOf_last (w c : Nat) : Txt.item (rowOf 0 w c) (-1) = sgnS (c % 4) := by
  have hl := rowOf_len w c
  have e : seqIndex? (-1) (rowOf 0 w c).length = some (w * (c / 4)) := by
    rw [hl]
    unfold seqIndex?
    have h1 : (if (-1 : Int) < 0 then (-1 : Int) + ((w * (c / 4) + 1 : Nat) : Int) else -1) = ((w * (c / 4) : Nat) : Int) := by
      rw [if_pos (by decide)]
      omega
    simp only [h1]
    generalize w * (c / 4) = k
    rw [if_pos (by simp; omega)]
    rfl
  unfold Txt.item Txt.charAt
  rw [e]
  unfold rowOf sgnS
  simp
theorem strs_getI {vs : List Value} {f : Nat → PySem.Str} : ∀ {cs : List Nat}, StrsAre vs (cs.map f) → ∀ {i : Nat} {v : Value}, vs[i]? = some v → ∃ c t, cs[i]? = some c ∧ v = .str (f c) t := by
  intro cs
  induction cs generalizing vs with
  | nil =>
    intro h i v hv
    cases h
    simp at hv
  | cons c r ih =>
    intro h i v hv
    cases h with
    | cons x t h' =>
      cases i with
      | zero =>
        refine ⟨c, t, rfl, ?_⟩
        simpa using hv.symm
      | succ i => exact ih h' (by simpa using hv)
theorem strs_snocM {vs : List Value} {cs : List Nat} {f : Nat → PySem.Str} {i c : Nat} {t : Tok} (h : StrsAre vs ((cs.take i).map f)) (hc : cs[i]? = some c) : StrsAre (vs ++ [.str (f c) t]) ((cs.take (i + 1)).map f) := by
  rw [List.take_succ, hc, List.map_append]
  exact strs_append h (.cons _ t .nil)
theorem mem_tot {x : PySem.Str} : ∀ {l : List PySem.Str}, x ∈ l → x.length ≤ tot l
  | y :: l, h => by
    rw [tot_cons]
    rcases List.mem_cons.mp h with rfl | h
    · omega
    · have := mem_tot h
      omega
theorem kms_one {l : List Value} : kms_pick l none (some 1) = l.take 1 := by
  cases l with
  | nil => rfl
  | cons x r => exact kms_upto (n := 1) (by simp)
end Mine
end
section
open PySem PySem.Spec PySem.Calls PyProof.Rows PySem.W
set_option Elab.async false
set_option maxRecDepth 100000
set_option maxHeartbeats 8000000
set_option pp.deepTerms false
set_option pp.maxSteps 2500
namespace Mine
local macro_rules | `(tactic| walk_at $_) => Lean.Macro.throwUnsupported
theorem mylaw_off : True := by
  w_top off
  trivial
local macro_rules | `(tactic| k_qdec) => `(tactic| decide +kernel)
local macro_rules | `(tactic| walk_at $k) => Mine.stopAt k ["call ref", "pyIter ref", "binaryOp Add str str", "call builtin:str.split", "subscriptTail Call Slice ref ref", "subscriptTail Name Slice ref ref", "subscriptTail", "binaryOp Add ref ref", "compareOp NotEq ref ref", "compareOp Eq ref ref", "exec Assign ListComp", "exec Assign cons ListComp", "exec Assign cons ListComp Tuple", "eval IfExp", "eval ListComp", "eval ListComp Subscript", "eval ListComp Subscript cons", "eval ListComp Tuple cons", "eval ListComp Tuple"]
theorem lw_at {α : Type} {l : List α} {x : α} {i : Nat} (h : l[i]? = some x) : x ∈ l := List.mem_of_getElem? h
theorem parted_tups {o : Option (Nat × PySem.Str × PySem.Str)} {tl : List (Addr × Obj)} {r : Value} (h : PartedAt o tl r) : ∃ D vs n, r = .ref D ∧ (D, listOf vs.toArray n) ∈ tl ∧ TupsAt tl vs o.toList := by
  unfold PartedAt at h
  cases o with
  | none => exact h.elim fun D h => h.elim fun n h => ⟨D, [], n, h.1, h.2, .nil⟩
  | some x => exact h.elim fun D h => h.elim fun n h => h.elim fun T h => h.elim fun tk h => h.elim fun ta h => h.elim fun tb h => h.elim fun nt h => ⟨D, [.ref T], n, h.1, h.2.1, .cons h.2.2 .nil⟩
theorem TreesTell.use {w : World} {Out : List (Addr × Obj) → Value → Prop} {prog : Program} {p : Program} {loose : List PySem.Str} {mean : PySem.ExcName → Option Value} {mg mb : PySem.Str → Option Value}
    {dp un : Nat} {gd : Option (List Code)} {cn : PySem.Str} {cs : Scope} {a : Addr} {ccd : Value} {cl : List (PySem.Str × Addr)} {outer : List Env} {A₀ : Around} {base h₀ : Heap} {L : Addr} {m : PySem.Str → Option Value} {news : List (Addr × Obj)} {s : Shared} {sa : Addr} {sv : List Value} {ns : List Int} {Q E : Value → Shared → Prop}
    (B : Below A₀ base outer h₀) (F : Fr h₀ L s.heap m) (X : (hd.heap_1 w.params).In h₀) (N : News h₀ L s.heap news) (T : Top p loose mean mg mb h₀) (hk : cs.kind = .function) (C : TreesTell w Out) (hl : h₀.IsList sa sv.toArray) (hi : IntsAre sv ns) (hz : ns.length ≤ 1000) (hdp : dp + 60 < recursionLimit) (hun : un + 8 * 60 < cLine)
    (ret : ∀ r tl h' tk', Fr h₀ L h' m → News h₀ L h' (tl ++ news) → (∀ q ∈ news, ∀ p ∈ tl, q.1 < p.1) → Out tl r → Q r { s with heap := h', toks := tk' }) :
    wpAny (model prog w) (ktrTop dp un gd cn cs L a ccd cl outer) (call (.ref 190) [.ref sa]) Q E s := by
  unfold TreesTell at C
  exact C prog p loose mean mg mb dp un gd cn cs a ccd cl outer A₀ base h₀ L m news s sa sv ns Q E B F X N T hk hl hi hz hdp hun ret
theorem share_if {prog : Program} {w : World} {A : Around} {t : Sem Value} {Q E : Value → Shared → Prop} {s : Shared} {h₀ : Heap} {L : Addr} {m : PySem.Str → Option Value} {led : List (Addr × Obj)} {l : List T3} (_F : Fr h₀ L s.heap m) (_N : News h₀ L s.heap led)
    (h : ∀ Q' : Value → Shared → Prop, (∀ D its n h tk, Fr h₀ L h m → News h₀ L h ((D, listOf its.toArray n) :: led) → TupsAt led its l → Q' (.ref D) { s with heap := h, toks := tk }) → wpAny (model prog w) A t Q' E s)
    (tail : ∀ D its n h tk, Fr h₀ L h m → News h₀ L h ((D, listOf its.toArray n) :: led) → TupsAt led its l → Q (.ref D) { s with heap := h, toks := tk }) : wpAny (model prog w) A t Q E s := h Q tail
theorem law_raises (ns : List Int) : ∀ cls, PySem.Challenge.rw_wa0025_01.row.claim.raises [ofPy (PyData.list (List.map PyData.int ns))] cls = false := raisesW_false (by wrow_none_raised)
theorem law_post (ns : List Int) : PySem.Challenge.rw_wa0025_01.row.claim.post [ofPy (PyData.list (List.map PyData.int ns))] (.bool true) [ofPy (PyData.list (List.map PyData.int ns))] = true := by
  wrow_post
theorem law_walk : PySem.Challenge.rw_wa0025_01.Holds := hd (by
  k_go0
  all_goals try k_fold
  rename Top _ _ _ _ _ _ => T0
  rename Below _ _ _ _ => K0
  rename Frag.In _ _ => X0
  rename IntsAre _ _ => hI
  rename News _ _ _ _ => N0
  rename Fr _ _ _ _ => F0
  rename Heap.IsList _ _ _ => hL
  rename ¬ _ < _ => h63
  rename World => w
  rename Shared => s1
  rename_i ns hs0 hlay0 hLay hr1 hl2 wa wb sa sv sc ra0 w10 r00 hr0 hcond0 hD0 h1 tk1 oS oR dS dR Y0
  replace dS : oS.data = .cell none := dS
  replace dR : oR.data = .cell none := dR
  have F1 : Fr s1.heap s1.heap.objs.size h1 (fun y => if y = PySem.Str.ofString "script" then some (.ref sa) else none) := F0
  have KD : KtsDicts (([] : List Env).filterMap (·.frame)) s1.heap := fun b hb => by cases hb
  clear F0 Y0 hD0 hr0 r00 w10 hcond0 ra0
  k_steps
  refine Stop.e ?_
  refine TreesTell.use K0 F1 X0 N0 T0 rfl (trees_tell w) hL hI (by omega) (by decide) (by decide) ?_
  (intro r tl2 h2 tk2 F2 N2 hlt2 hQ62; refine hide fun PQ kQ => ?_; obtain ⟨T2, UP, MK, OT, SG, uv, mv, ov, sv2, un, mn, on, sn, nt, tw, up, ms, ot, sg, wd, rfl, hT2, hUP, hMK, hOT, hSG, huv, hmv, hov, hsv, hok⟩ := hQ62; refine kQ ?_; clear kQ PQ)
  clear F1
  (refine hide fun PQ kQ => ?_; obtain ⟨n, hg, od, hn4, hn6, hup, hms, hhg, hod, hot, hsg, hw1, hw2⟩ := id hok; refine kQ ?_; clear kQ PQ)
  obtain ⟨hotl, hoth⟩ := others_up (n := n) (by omega) hhg hod
  have hsgl := signs_len (n := n) (ms := ms) (by omega) hod
  rw [← hot] at hotl hoth
  rw [← hsg] at hsgl
  replace N2 : News T0.heap s1.heap.objs.size h2 ((T2, { cls := .type "tuple", data := .seq #[.ref UP, .ref MK, .ref OT, .ref SG, .int ((wd : Nat) : Int) tw] nt }) :: (UP, listOf uv.toArray un) :: (MK, listOf mv.toArray mn) :: (OT, listOf ov.toArray on) :: (SG, listOf sv2.toArray sn) :: (s1.heap.objs.size + 1 + 1, oS) :: (s1.heap.objs.size + 1, oR) :: []) :=
    News.to N2 (lw_front hT2 hUP hMK hOT hSG)
  k_steps
  refine Stop.e ?_
  rename Fr _ s1.heap.objs.size _ _ => F3
  rename News _ s1.heap.objs.size _ _ => N3
  have hrk1 := rank_up hup
  have hrk2 := rank_other hotl hoth hhg
  have hul0 : 0 < up.length := by rw [hup.len]; omega
  have hol0 : 0 < ot.length := by rw [hotl]; omega
  have hn16 : n - 1 - 0 < 6 := (Nat.lt_of_lt_of_le (Nat.sub_lt (by omega) Nat.one_pos) hn6 : n - 1 < 6)
  have hA1 : PageArgs up (ms.map sgnS) wd := ⟨by rw [hup.len]; omega, by rw [hup.len]; exact hn6, by rw [List.length_map, hms.len, hup.len], hw2, markOk_sgn ms⟩
  have hA2 : PageArgs ot (sg.map sgnS) wd := ⟨by rw [hotl]; omega, by rw [hotl]; exact hn6, by rw [List.length_map, hsgl, hotl], hw2, markOk_sgn sg⟩
  refine TellS.use K0 F3 X0 N3 T0 rfl X0 T0 KD (page_tell w up (ms.map sgnS) wd hA1 (fun k => n - 1 - k) hrk1 6 (Nat.le_refl _) 0 hul0 hn16) (page_rel 0 (.tail _ (.head _)) (.tail _ (.tail _ (.head _))) huv hmv) (by decide) (by decide) ?_
  (intro r tl4 h4 tk4 g4 B4 F4 X4 N4 T4 KD4 KT4 hlt4 hQ78; refine hide fun PQ kQ => ?_; obtain ⟨T5, t5, tc5, n5, rfl, rfl⟩ := hQ78; refine kQ ?_; clear kQ PQ)
  clear F3 N3
  have hm1 : ms.length = up.length := by rw [hms.len, hup.len]
  have hm2 : sg.length = ot.length := by rw [hsgl, hotl]
  have h41 := hms.lt4
  have h42 : ∀ m ∈ sg, m < 4 := by rw [hsg]; exact signs_lt4 hms
  have hul6 : up.length ≤ 6 := by rw [hup.len]; exact hn6
  have hol6 : ot.length ≤ 6 := by rw [hotl]; exact hn6
  have hz1 := page_tot hw1 hw2 hm1 h41 hul6
  have hz2 := page_tot hw1 hw2 hm2 h42 hol6
  rw [pageS_N hw1 hm1 h41] at N4
  (revert hz1; revert N4; refine gen1 (pageN up ms 6 0) fun P1 hP1 => ?_; intro N4 hz1)
  simp only [List.cons_append, List.nil_append] at N4
  k_steps
  refine Stop.e ?_
  rename Fr g4 s1.heap.objs.size _ _ => F5
  rename News g4 s1.heap.objs.size _ _ => N5
  refine TellS.use B4 F5 X4 N5 T4 rfl X0 T0 KD4 (page_tell w ot (sg.map sgnS) wd hA2 (fun j => n - 1 - (0 :: od).getD j 0) hrk2 6 (Nat.le_refl _) 0 hol0 hn16) (page_rel 0 (lw_at (i := 4) rfl) (lw_at (i := 5) rfl) hov hsv) (by decide) (by decide) ?_
  (intro r tl6 h6 tk6 g6 B6 F6 X6 N6 T6 KD6 KT6 hlt6 hQ96; refine hide fun PQ kQ => ?_; obtain ⟨T7, t7, tc7, n7, rfl, rfl⟩ := hQ96; refine kQ ?_; clear kQ PQ)
  clear F5 N5 B4 X4 T4 KD4
  rw [pageS_N hw1 hm2 h42] at N6
  (revert hz2; revert N6; refine gen1 (pageN ot sg 6 0) fun P2 hP2 => ?_; intro N6 hz2)
  simp only [List.cons_append, List.nil_append] at N6
  k_steps
  refine Stop.e ?_
  refine KXadd.add (K := 44922) (L := 44922) (by rw [unrows_length]; exact hz1) (by rw [unrows_length]; exact hz2) (by decide) (fun t8 k8 _ => ?_)
  rw [← unrows_append]
  k_steps
  refine Stop.e ?_
  rename Fr g6 s1.heap.objs.size _ _ => F9
  rename News g6 s1.heap.objs.size _ _ => N9
  refine KSpl.split1 F9 N9 (by decide) (fun D9 l9 h9 k9 e9 a9 F10 N10 o10 => ?_) (by have := unrows_length (P1.1.map (rowOf 0 wd) ++ P2.1.map (rowOf 0 wd)); unfold PySem.Str.length at this; rw [tot_append] at this; rw [sizeLine_eq]; show (unrows _).cps.size + 2 ≤ _; omega)
  have hro : RowsOk (P1.1.map (rowOf 0 wd) ++ P2.1.map (rowOf 0 wd)) := fun q hq => (List.mem_append.mp hq).elim (rowsOk_map wd P1.1 q) (rowsOk_map wd P2.1 q)
  rw [show (PySem.Str.ofString "\n") = ⟨#[10]⟩ from by decide +kernel, split_unrows hro] at e9
  rw [e9] at a9
  clear F9 N9
  k_steps
  refine Stop.e ?_
  (revert hro; revert e9; revert a9; refine gen1 (P1.1.map (rowOf 0 wd) ++ P2.1.map (rowOf 0 wd)) fun RW hRW => ?_; intro a9 e9 hro)
  have hl9 : (strValues l9).length = RW.length + 1 := by
    have := a9.length
    rw [List.length_append] at this
    exact this
  have hRWz : RW.length ≤ 90000 := by
    have h1 := tot_len (P1.1.map (rowOf 0 wd))
    have h2 := tot_len (P2.1.map (rowOf 0 wd))
    rw [← hRW, List.length_append]
    omega
  refine kba_turn (value' := PySem.Expr.Name (PySem.Str.ofString "_") ⟨0, 0, 0, 0⟩) (fun _ => rfl) ?_
  refine kms_slice_lit (zs := (strValues l9).take RW.length) F10 N10 (News.isList N10 (.head _)) .none (.int _ _) ?e1 (fun D11 h11 F11 N11 hlt11 => ?_) ?hs1 (fun _ => rfl) ?hz1
  case hs1 => with_unfolding_all rfl
  case e1 =>
    show ((strValues l9).drop 0).take (((strValues l9).length - 1) - 0) = _
    rw [List.drop_zero, hl9]
    rfl
  case hz1 =>
    rw [List.size_toArray, sizeLine_eq, hl9]
    omega
  have hR11 : StrsAre ((strValues l9).take RW.length) RW := by
    have := strs_take a9 RW.length
    rwa [List.take_left'] at this
    rfl
  (revert N11; revert hR11; refine gen0 ((strValues l9).take RW.length) fun rv => ?_; intro hR11 N11)
  have hlc : ∀ p ∈ tl2, p.1 ≠ s1.heap.objs.size + 1 ∧ p.1 ≠ s1.heap.objs.size + 1 + 1 := fun p hp => ⟨Nat.ne_of_gt (hlt2 _ (.tail _ (.head _)) p hp), Nat.ne_of_gt (hlt2 _ (.head _) p hp)⟩
  have c21 : s1.heap.objs.size + 1 + 1 ≠ s1.heap.objs.size + 1 := Nat.ne_of_gt (Nat.lt_succ_self _)
  have hD11 : ∀ q ∈ [(UP, listOf uv.toArray un), (MK, listOf mv.toArray mn), (OT, listOf ov.toArray on), (SG, listOf sv2.toArray sn), (s1.heap.objs.size + 1 + 1, oS), (s1.heap.objs.size + 1, oR)], q.1 ≠ D11 := fun q hq => Nat.ne_of_lt (hlt11 q (lw_in5 hq))
  replace N11 : News g6 s1.heap.objs.size h11 [(D11, listOf rv.toArray 0), (UP, listOf uv.toArray un), (MK, listOf mv.toArray mn), (OT, listOf ov.toArray on), (SG, listOf sv2.toArray sn), (s1.heap.objs.size + 1 + 1, oS), (s1.heap.objs.size + 1, oR)] := News.to N11 lw_drop1
  clear F10 N10
  refine storeX_C F11 N11 rfl (.tail (Ne.symm (hD11 (s1.heap.objs.size + 1, oR) (.tail _ (.tail _ (.tail _ (.tail _ (.tail _ (.head _)))))))) (.tail (hlc _ hUP).1 (.tail (hlc _ hMK).1 (.tail (hlc _ hOT).1 (.tail (hlc _ hSG).1 (.tail c21 (.head (fun _ h => nomatch h)))))))) dR (fun h12 oR2 F12 N12 d12 => ?_)
  dsimp only at N12 ⊢
  clear F11 N11
  k_steps
  refine Stop.e ?_
  have hPA1 : PlainArgs up ms wd := ⟨by rw [hup.len]; omega, hul6, hm1, hw1, hw2, h41⟩
  have hPA2 : PlainArgs ot sg wd := ⟨by rw [hotl]; omega, hol6, hm2, hw1, hw2, h42⟩
  refine Tell.use B6 F12 X6 N12 T6 rfl (plain_tell w up ms wd hPA1 (fun k => n - 1 - k) hrk1 6 (Nat.le_refl _) 0 0 hul0 hn16 (by decide)) (plain_rel 0 0 (.tail _ (.head _)) (.tail _ (.tail _ (.head _))) huv hmv) (by decide) (by decide) ?_
  (intro r tl13 h13 tk13 F13 N13 hlt13 hQ154; refine hide fun PQ kQ => ?_; obtain ⟨D13, dv13, nd13, rfl, rfl, hdv13⟩ := hQ154; refine kQ ?_; clear kQ PQ)
  rw [hP1] at hdv13
  simp only [List.cons_append, List.nil_append] at N13
  clear F12 N12
  k_steps
  refine Stop.e ?_
  refine Tell.use B6 F13 X6 N13 T6 rfl (plain_tell w ot sg wd hPA2 (fun j => n - 1 - (0 :: od).getD j 0) hrk2 6 (Nat.le_refl _) 0 0 hol0 hn16 (by decide)) (plain_rel 0 0 (lw_at (i := 4) rfl) (lw_at (i := 5) rfl) hov hsv) (by decide) (by decide) ?_
  (intro r tl14 h14 tk14 F14 N14 hlt14 hQ161; refine hide fun PQ kQ => ?_; obtain ⟨D14, dv14, nd14, rfl, rfl, hdv14⟩ := hQ161; refine kQ ?_; clear kQ PQ)
  rw [hP2] at hdv14
  simp only [List.cons_append, List.nil_append] at N14
  clear F13 N13
  k_steps
  refine Stop.e ?_
  have hdl13 : dv13.length = (P1.1.map (rowOf 0 wd)).length := hdv13.length
  have hdl14 : dv14.length = (P2.1.map (rowOf 0 wd)).length := hdv14.length
  have hrwl : RW.length = (P1.1.map (rowOf 0 wd)).length + (P2.1.map (rowOf 0 wd)).length := by rw [← hRW, List.length_append]
  refine kmk_add_lit (zs := dv13 ++ dv14) F14 N14 (News.isList N14 (.tail _ (.head _))) (News.isList N14 (.head _)) rfl (fun D15 h15 F15 N15 hlt15 => ?_) (by show dv13.length + dv14.length ≤ _; rw [sizeLine_eq]; omega)
  clear F14 N14
  k_steps
  refine Stop.e ?_
  have hok1 : ∀ x ∈ RW, PyData.strOk x = true := fun x hx => by
    rw [← hRW] at hx
    rcases List.mem_append.mp hx with hx | hx <;> (obtain ⟨c, _, rfl⟩ := List.mem_map.mp hx; exact rowOf_ok 0 wd c)
  have hdv15 : StrsAre (dv13 ++ dv14) RW := by
    rw [← hRW]
    exact strs_append hdv13 hdv14
  refine ne_strs (News.isList N15 (.tail _ (.tail _ (.tail _ (.head _))))) (News.isList N15 (.head _)) hR11 hdv15 hok1 hok1 (by show callerA.units + 3 + 64 < cLine; decide) ?_
  rw [decide_eq_true rfl]
  replace N15 : News g6 s1.heap.objs.size h15 [(D11, listOf rv.toArray 0), (UP, listOf uv.toArray un), (MK, listOf mv.toArray mn), (OT, listOf ov.toArray on), (SG, listOf sv2.toArray sn), (s1.heap.objs.size + 1 + 1, oS), (s1.heap.objs.size + 1, oR2)] := News.to N15 (fun q hq => .tail _ (.tail _ (.tail _ hq)))
  k_steps
  refine Stop.e ?_
  rename Fr g6 s1.heap.objs.size _ _ => F16
  rename News g6 s1.heap.objs.size _ _ => N16
  have hms0 : ms.getD 0 0 = 0 := hms.zero
  have hsg0 : sg.getD 0 0 = 0 := by rw [hsg]; rfl
  have hPg1 : PgOk P1.1 := by rw [← hP1]; exact pgOk_page hms0 5
  have hPg2 : PgOk P2.1 := by rw [← hP2]; exact pgOk_page hsg0 5
  have hRW' : RW = (P1.1 ++ P2.1).map (rowOf 0 wd) := by rw [← hRW, List.map_append]
  refine TellS.use B6 F16 X6 N16 T6 rfl X0 T0 KD6 (first_tell w RW (leads wd (P1.1 ++ P2.1)) (by rw [hRW']; exact isRow_map) (by have := hPg1.ne; rw [hrwl, List.length_map]; omega) (by omega)) ⟨D11, rv, 0, rfl, .head _, hR11⟩ (by decide) (by decide) ?_
  (intro r tl17 h17 tk17 g17 B17 F17 X17 N17 T17 KD17 KT17 hlt17 hQ193; refine hide fun PQ kQ => ?_; obtain ⟨T18, k18, tk18, RD, rdv, rdn, U1, line1, t18, n18, rfl, hT18, hRD, hrd, hF1⟩ := hQ193; refine kQ ?_; clear kQ PQ)
  rw [hRW'] at hF1
  have hsr : sgnS 0 = PySem.Str.ofString "r" := by decide +kernel
  (refine hide fun PQ kQ => ?_; obtain ⟨rfl, hline, pile1, hst1⟩ := first_two hw1 hPg1 hPg2 hF1; refine kQ ?_; clear kQ PQ)
  rw [hsr] at hline
  subst hline
  clear F16 N16 B6 X6 T6 KD6
  replace N17 : News g17 s1.heap.objs.size h17 [(T18, { cls := .type "tuple", data := .seq #[.int ((P1.1.length : Nat) : Int) tk18, .ref RD, .str "r" t18] n18 }), (RD, listOf rdv.toArray rdn), (D11, listOf rv.toArray 0), (UP, listOf uv.toArray un), (MK, listOf mv.toArray mn), (OT, listOf ov.toArray on), (SG, listOf sv2.toArray sn), (s1.heap.objs.size + 1 + 1, oS), (s1.heap.objs.size + 1, oR2)] := News.to N17 (lw_tup hT18 hRD)
  have hL : LawOk n up ms ot sg P1 P2 := by
    rw [← hP1, ← hP2]
    exact law_ok hn4 hn6 hup hms hhg hod hot hsg
  have hP1l : P1.1.length = n := hL.l1
  have hP2l : P2.1.length = n := hL.l2
  have nRD : RD ≠ s1.heap.objs.size + 1 + 1 := Nat.ne_of_gt (hlt17 _ (.tail _ (.tail _ (.tail _ (.tail _ (.tail _ (.head _)))))) _ hRD)
  k_steps
  rename Fr g17 s1.heap.objs.size _ _ => F18
  rename News g17 s1.heap.objs.size _ _ => N18
  replace N18 := News.tail N18
  refine storeX_C F18 N18 rfl (.tail nRD (.tail (Ne.symm (hD11 (s1.heap.objs.size + 1 + 1, oS) (.tail _ (.tail _ (.tail _ (.tail _ (.head _))))))) (.tail (hlc _ hUP).2 (.tail (hlc _ hMK).2 (.tail (hlc _ hOT).2 (.tail (hlc _ hSG).2 (.head (fun q hq => by rw [List.mem_singleton.mp hq]; exact Ne.symm c21)))))))) dS (fun h19 oS2 F19 N19 d19 => ?_)
  dsimp only at N19 ⊢
  clear F18 N18
  have hul : uv.length = n := by
    have := huv.length
    rw [intsN_length, hup.len] at this
    exact this
  rw [hP1l] at d19
  have hd12 := d12
  k_steps
  refine Stop.e ?_
  rename_i D20 h20 F20 N20 o20
  rw [hul] at N20
  refine ne_pair N20 (.tail _ (.head _)) (.head _) (by decide +kernel) (by show callerA.units + 3 + 64 < cLine; decide) ?_
  replace N20 := News.tail (News.tail N20)
  k_steps
  refine Stop.e ?_
  have hrvl : rv.length = n + n := by
    have h1 : rv.length = RW.length := hR11.length
    rw [h1, hrwl, List.length_map, List.length_map, hP1l, hP2l]
  refine kms_slice_lit (zs := rv.drop n) F20 N20 (News.isList N20 (.tail _ (.head _))) (.int _ _) .none (kms_from (by show n ≤ rv.length; omega)) (fun D21 h21 F21 N21 hlt21 => ?_) ?hs2 (fun _ => rfl) (by rw [List.size_toArray, sizeLine_eq]; omega)
  case hs2 => with_unfolding_all rfl
  have hR21 : StrsAre (rv.drop n) (P2.1.map (rowOf 0 wd)) := by
    have := strs_drop hR11 n
    rwa [← hRW, List.drop_left' (by rw [List.length_map]; exact hP1l)] at this
  (revert N21; revert hR21; refine gen0 (rv.drop n) fun rv2 => ?_; intro hR21 N21)
  clear F20 N20
  k_steps
  refine Stop.e ?_
  refine TellS.use B17 F21 X17 N21 T17 rfl X0 T0 KD17 (first_tell w (P2.1.map (rowOf 0 wd)) (leads wd P2.1) isRow_map (by rw [List.length_map]; omega) (by rw [List.length_map]; omega)) ⟨D21, rv2, 0, rfl, .head _, hR21⟩ (by decide) (by decide) ?_
  (intro r tl22 h22 tk22 g22 B22 F22 X22 N22 T22 KD22 KT22 hlt22 hQ241; refine hide fun PQ kQ => ?_; obtain ⟨TT, k23, tk23, RD2, rdv2, rdn2, U2, line2, t23, n23, rfl, hT23, hRD2, hrd2, hF2⟩ := hQ241; refine kQ ?_; clear kQ PQ)
  (refine hide fun PQ kQ => ?_; obtain ⟨rfl, pile2, hst2⟩ := first_one hw1 hPg2 hF2; refine kQ ?_; clear kQ PQ)
  clear F21 N21 B17 X17 T17 KD17
  have hnil : nilS = PySem.Str.ofString "" := by decide +kernel
  rw [hnil] at hT23
  replace N22 : News g22 s1.heap.objs.size h22 [(TT, tupOf [.int ((k23 : Nat) : Int) tk23, .ref RD2, .str "" t23] n23), (RD2, listOf rdv2.toArray rdn2), (RD, listOf rdv.toArray rdn), (D11, listOf rv.toArray 0), (UP, listOf uv.toArray un), (MK, listOf mv.toArray mn), (OT, listOf ov.toArray on), (SG, listOf sv2.toArray sn), (s1.heap.objs.size + 1 + 1, oS2), (s1.heap.objs.size + 1, oR2)] := News.to N22 (lw_tup2 hT23 hRD2)
  k_steps
  refine Stop.e ?_
  rename Fr g22 s1.heap.objs.size _ _ => F23
  rename News g22 s1.heap.objs.size _ _ => N23
  refine item_tupleL (j := 2) (News.isTup N23 (.head _)) (by decide) (by decide) rfl rfl ?_
  k_steps
  refine Stop.e ?_
  refine execCompAssign (cl := [("size", s1.heap.objs.size + 1 + 1), ("rows", s1.heap.objs.size + 1)]) ?sw (fun _ => rfl) ?clo rfl (by decide) ?_
  case sw => rfl
  case clo => rfl
  k_steps
  rename_i h24 tk24 t24 u24 v24 R24 F24 N24 K24
  refine Stop.e ?_
  have hb24 : ∀ q ∈ [(D11, listOf rv.toArray 0), (s1.heap.objs.size + 1 + 1, oS2), (s1.heap.objs.size + 1, oR2)], q ∈ (TT, tupOf [.int ((k23 : Nat) : Int) tk23, .ref RD2, .str "" t23] n23) :: (RD2, listOf rdv2.toArray rdn2) :: (RD, listOf rdv.toArray rdn) :: (D11, listOf rv.toArray 0) :: (UP, listOf uv.toArray un) :: (MK, listOf mv.toArray mn) :: (OT, listOf ov.toArray on) :: (SG, listOf sv2.toArray sn) :: (s1.heap.objs.size + 1 + 1, oS2) :: (s1.heap.objs.size + 1, oR2) :: [] := lw_three
  have hRW2 : RW.length = n + n := by rw [hrwl, List.length_map, List.length_map, hP1l, hP2l]
  refine compG_range (σ := List (Addr × Obj)) (n := n) (fun cc => cc ++ ((TT, tupOf [.int ((k23 : Nat) : Int) tk23, .ref RD2, .str "" t23] n23) :: (RD2, listOf rdv2.toArray rdn2) :: (RD, listOf rdv.toArray rdn) :: (D11, listOf rv.toArray 0) :: (UP, listOf uv.toArray un) :: (MK, listOf mv.toArray mn) :: (OT, listOf ov.toArray on) :: (SG, listOf sv2.toArray sn) :: (s1.heap.objs.size + 1 + 1, oS2) :: (s1.heap.objs.size + 1, oR2) :: []))
    (fun i its cc => its.length ≤ i ∧ TupsAt cc its (unlL RW n i)) [] R24 (small_one (by decide) (by decide) (by omega) (by omega)) (by rw [rangeSize_nat]; omega) rfl (by decide) rfl (by omega) F24 N24 ⟨Nat.le_refl _, .nil⟩ (fun _ _ _ hP => hP.1) ?cturn ?cdone
  case cturn =>
    rintro i cc h11' tk11 t11 C D I oI its nn u11 E' RE hi ⟨hl11, hW⟩ hc hRE
    refine wpAny_of_eq (a := ()) rfl ?_
    refine CompAt.set (s := { s1 with heap := h11', toks := tk11 }) hc rfl rfl fun h12' hc2 => ?_
    dsimp only
    refine compTests_one ?_
    (refine hide fun PQ kQ => ?_; obtain ⟨oC, hnC, N12'⟩ := hc2.N; refine kQ ?_; clear kQ PQ)
    have F12' := hc2.F
    replace N12' := News.pre (f := [(C, oC), (D11, listOf rv.toArray 0), (s1.heap.objs.size + 1 + 1, oS2), (s1.heap.objs.size + 1, oR2)]) N12' (fun q hq => by
      rcases List.mem_cons.mp hq with rfl | hq
      · exact .head _
      · exact .tail _ (.tail _ (.tail _ (List.mem_append_right _ (hb24 q hq)))))
    simp only [List.cons_append, List.nil_append] at N12'
    clear F24 N24
    k_steps
    · rename_i D26 h26 F26 N26 l26
      rename (_ != _) = true => q26
      rw [Int.zero_add] at q26 N26
      rw [show ((i : Int) + (n : Int)).toNat = i + n from rfl, Int.toNat_natCast] at q26 N26
      refine hRE _ _ (CompEnd.i (cc ++ [_]) (compAt_snoc (f := [(C, oC), (D11, listOf rv.toArray 0), (s1.heap.objs.size + 1 + 1, oS2), (s1.heap.objs.size + 1, oR2)]) hc2 F26 hnC N26 ⟨l26.1, l26.2.2.2.2.2.1, l26.2.2.2.2.2.2.1⟩) ⟨?_, ?_⟩)
      · rw [List.length_append]
        exact Nat.succ_le_succ hl11
      · unfold unlL
        rw [if_neg (bne_iff_ne.mp q26)]
        exact TupsAt.snoc (List.mem_append_right _ (.head _)) (hW.mono fun q hq => List.mem_append_left _ hq)
    · rename (_ != _) = false => q26
      rw [Int.zero_add] at q26
      rw [show ((i : Int) + (n : Int)).toNat = i + n from rfl, Int.toNat_natCast] at q26
      refine hRE _ _ (CompEnd.i cc hc2 ⟨?_, ?_⟩)
      · rw [List.append_nil]
        exact Nat.le_succ_of_le hl11
      · unfold unlL
        rw [if_pos (by simpa using q26), List.append_nil, List.append_nil]
        exact hW
  case cdone =>
    rintro cc h25 tk25 D25 C25 its25 nn25 oC25 u25 ⟨hl25, hW25⟩ F25 hnC25 N25 hCD25 off25
    refine compPost_store F25 hnC25 N25 (fun p hp => ?_) rfl rfl rfl (fun h26 F26 N26 => ?_)
    · rcases List.mem_cons.mp hp with rfl | hp
      · exact Ne.symm hCD25
      · exact (off25 p hp).1
    clear F25 N25 F24 N24 R24 K24
    dsimp only
    replace N26 : News g22 s1.heap.objs.size h26 ((D25, listOf its25.toArray nn25) :: (TT, tupOf [.int ((k23 : Nat) : Int) tk23, .ref RD2, .str "" t23] n23) :: (RD2, listOf rdv2.toArray rdn2) :: (RD, listOf rdv.toArray rdn) :: (D11, listOf rv.toArray 0) :: (UP, listOf uv.toArray un) :: (MK, listOf mv.toArray mn) :: (OT, listOf ov.toArray on) :: (SG, listOf sv2.toArray sn) :: (s1.heap.objs.size + 1 + 1, oS2) :: (s1.heap.objs.size + 1, oR2) :: cc) := News.to N26 (fun q hq => mem_swap (a := cc) (b := (TT, tupOf [.int ((k23 : Nat) : Int) tk23, .ref RD2, .str "" t23] n23) :: (RD2, listOf rdv2.toArray rdn2) :: (RD, listOf rdv.toArray rdn) :: (D11, listOf rv.toArray 0) :: (UP, listOf uv.toArray un) :: (MK, listOf mv.toArray mn) :: (OT, listOf ov.toArray on) :: (SG, listOf sv2.toArray sn) :: (s1.heap.objs.size + 1 + 1, oS2) :: (s1.heap.objs.size + 1, oR2) :: []) q hq)
    replace hW25 := hW25.mono (led2 := (D25, listOf its25.toArray nn25) :: (TT, tupOf [.int ((k23 : Nat) : Int) tk23, .ref RD2, .str "" t23] n23) :: (RD2, listOf rdv2.toArray rdn2) :: (RD, listOf rdv.toArray rdn) :: (D11, listOf rv.toArray 0) :: (UP, listOf uv.toArray un) :: (MK, listOf mv.toArray mn) :: (OT, listOf ov.toArray on) :: (SG, listOf sv2.toArray sn) :: (s1.heap.objs.size + 1 + 1, oS2) :: (s1.heap.objs.size + 1, oR2) :: cc) fun q hq => .tail _ (.tail _ (.tail _ (.tail _ (.tail _ (.tail _ (.tail _ (.tail _ (.tail _ (.tail _ (.tail _ hq))))))))))
    (revert hW25; refine gen1 (unlL RW n n) fun UU hUU => ?_; intro hW25)
    k_steps
    refine Stop.e ?_
    rename Fr g22 s1.heap.objs.size _ _ => F27
    rename News g22 s1.heap.objs.size _ _ => N27
    refine TellS.use B22 F27 X22 N27 T22 rfl X0 T0 KD22 (parted_tell w (P1.1.map (rowOf 0 wd)) (P2.1.map (rowOf 0 wd)) (rowsOk_map wd P1.1) (rowsOk_map wd P2.1) (by rw [unrows_length]; omega) (by rw [unrows_length]; omega)) ⟨_, _, rfl⟩ (by decide) (by decide) ?_
    rintro r tl28 h28 tk28 g28 B28 F28 X28 N28 T28 KD28 KT28 hlt28 hp28
    clear F27 N27 B22 X22 T22 KD22
    (revert hp28; refine gen1 (partOf 0 (P1.1.map (rowOf 0 wd) ++ [nilS]) (P2.1.map (rowOf 0 wd) ++ [nilS])) fun PO hPO => ?_; intro hp28)
    (refine hide fun PQ kQ => ?_; obtain ⟨PD, pv, pn, rfl, hPD, hpv⟩ := parted_tups hp28; refine kQ ?_; clear kQ PQ)
    have hpvF := hpv.mono (mem_parted3 (p := (PD, listOf pv.toArray pn)) (b := ((D25, listOf its25.toArray nn25) :: (TT, tupOf [.int ((k23 : Nat) : Int) tk23, .ref RD2, .str "" t23] n23) :: (RD2, listOf rdv2.toArray rdn2) :: (RD, listOf rdv.toArray rdn) :: (D11, listOf rv.toArray 0) :: (UP, listOf uv.toArray un) :: (MK, listOf mv.toArray mn) :: (OT, listOf ov.toArray on) :: (SG, listOf sv2.toArray sn) :: (s1.heap.objs.size + 1 + 1, oS2) :: (s1.heap.objs.size + 1, oR2) :: [])) (cc := cc))
    have hUF := hW25.mono (mem_parted2 (p := (PD, listOf pv.toArray pn)) (b := ((D25, listOf its25.toArray nn25) :: (TT, tupOf [.int ((k23 : Nat) : Int) tk23, .ref RD2, .str "" t23] n23) :: (RD2, listOf rdv2.toArray rdn2) :: (RD, listOf rdv.toArray rdn) :: (D11, listOf rv.toArray 0) :: (UP, listOf uv.toArray un) :: (MK, listOf mv.toArray mn) :: (OT, listOf ov.toArray on) :: (SG, listOf sv2.toArray sn) :: (s1.heap.objs.size + 1 + 1, oS2) :: (s1.heap.objs.size + 1, oR2) :: [])) (cc := cc) (tl := tl28))
    replace N28 := News.to N28 (mem_parted (b := ((D25, listOf its25.toArray nn25) :: (TT, tupOf [.int ((k23 : Nat) : Int) tk23, .ref RD2, .str "" t23] n23) :: (RD2, listOf rdv2.toArray rdn2) :: (RD, listOf rdv.toArray rdn) :: (D11, listOf rv.toArray 0) :: (UP, listOf uv.toArray un) :: (MK, listOf mv.toArray mn) :: (OT, listOf ov.toArray on) :: (SG, listOf sv2.toArray sn) :: (s1.heap.objs.size + 1 + 1, oS2) :: (s1.heap.objs.size + 1, oR2) :: [])) (cc := cc) hPD)
    (revert N28; revert hUF; revert hpvF; refine gen0 (tl28 ++ cc) fun rest => ?_; intro hpvF hUF N28)
    simp only [List.cons_append, List.nil_append] at N28 hpvF hUF
    clear hpv hW25 hp28 hlt28
    k_steps
    rename Fr g28 s1.heap.objs.size _ _ => F29
    rename News g28 s1.heap.objs.size _ _ => N29
    refine Stop.e ?_
    have hPOU : PO.toList = UU.take 1 := by
      rw [← hPO, ← hUU, ← hRW]
      exact parted_unl (by rw [List.length_map]; exact hP1l) (by rw [List.length_map]; exact hP2l)
    have hUok : ∀ x ∈ UU.take 1, PyData.strOk x.2.1 = true ∧ PyData.strOk x.2.2 = true := fun x hx => unlL_ok hok1 n x (by rw [hUU]; exact List.mem_of_mem_take hx)
    refine share_if F29 N29 (l := PO.toList) (fun QI KI => ?_) (fun D32 its32 n32 h32 tk32 F32 N32 hT32 => ?_)
    · clear hUok
      with_reducible refine IfExp_ ?_
      k_steps
      refine Stop.e ?_
      rename Fr g28 s1.heap.objs.size _ _ => F30b
      rename News g28 s1.heap.objs.size _ _ => N30b
      refine Tell.use B28 F30b X28 N30b T28 rfl (ways_tell w up ot (ms.map sgnS) (sg.map sgnS) (fun k a b => hup.lt k a (by rw [← hup.len]; exact b)) (by rw [hup.len]; omega) (by rw [hup.len]; omega) (by rw [hotl]; omega) (by rw [hotl]; omega) (by rw [List.length_map, hms.len, hup.len]) (by rw [List.length_map, hsgl, hotl])) (ways_rel (lw_at (i := 6) rfl) (lw_at (i := 7) rfl) (lw_at (i := 8) rfl) (lw_at (i := 9) rfl) huv hmv hov hsv) (by decide) (by decide) ?_
      (intro r tl30 h30 tk30 F30 N30 hlt30 hQ331; refine hide fun PQ kQ => ?_; obtain ⟨rfl, t30, rfl⟩ := hQ331; refine kQ ?_; clear kQ PQ)
      rw [show waysL PySem.Str.empty up (ms.map sgnS) ot (sg.map sgnS) (up.length - 1) = waysL 0 up ms ot sg (n - 1) by rw [hup.len]; exact ways_sgn hms.lt4 (by rw [hsg]; exact signs_lt4 hms) (by rw [hms.len]; omega) (by rw [hotl, hsgl])]
      (refine gen1 ((waysL 0 up ms ot sg (n - 1)).length) fun W0 hW0 => ?_)
      simp only [List.nil_append] at N30
      clear F30b N30b
      k_steps
      case _ =>
        refine Stop.e ?_
        rename Fr g28 s1.heap.objs.size _ _ => F31
        rename News g28 s1.heap.objs.size _ _ => N31
        refine kms_slice_lit (zs := its25.take 1) F31 N31 (News.isList N31 (.tail _ (.head _))) .none (.int _ _) kms_one (fun D32 h32 F32 N32 hlt32 => ?_) (by with_unfolding_all rfl) (fun _ => rfl) (by rw [List.size_toArray, sizeLine_eq]; omega)
        exact KI _ _ _ _ _ F32 N32 (by rw [hPOU]; exact hUF.take 1)
      case _ =>
        rename Fr g28 s1.heap.objs.size _ _ => F32
        rename News g28 s1.heap.objs.size _ _ => N32
        rename ¬ ((W0 : Nat) : Int) = 0 => hz
        have hPO2 : PO = none := by
          rw [← hPO, hL.same (by rw [hW0]; omega)]
          exact partOf_self 0 _
        subst hPO2
        exact KI _ [] _ _ _ F32 N32 .nil
    k_steps
    refine Stop.e ?_
    rename Fr g28 s1.heap.objs.size _ _ => F32
    rename News g28 s1.heap.objs.size _ _ => N32
    refine ne_tups (l := PO.toList) N32 (.tail _ (.head _)) (.head _) (hpvF.mono fun q hq => .tail _ hq) (hT32.mono fun q hq => .tail _ hq) (by rw [hPOU, List.length_take]; omega) (by rw [hPOU]; exact hUok) (by show callerA.units + 3 + 64 < cLine; decide) ?_
    replace N32 := News.tail (News.tail (News.tail N32))
    k_steps
    refine Stop.e ?_
    refine evalComp (cl := []) (fun _ => rfl) rfl rfl (by decide) ?_
    k_steps
    refine Stop.e ?_
    rename Fr g28 s1.heap.objs.size _ _ => F35
    rename News g28 s1.heap.objs.size _ _ => N35
    refine kms_slice_lit (zs := rv.take n) F35 N35 (News.isList N35 (lw_at (i := 3) rfl)) .none (.int _ _) (kms_upto (by show n ≤ rv.length; omega)) (fun D36 h36 F36 N36 hlt36 => ?_) (by with_unfolding_all rfl) (fun _ => rfl) (by rw [List.size_toArray, sizeLine_eq]; omega)
    have hR36 : StrsAre (rv.take n) (P1.1.map (rowOf 0 wd)) := by
      have := strs_take hR11 n
      rwa [← hRW, List.take_left' (by rw [List.length_map]; exact hP1l)] at this
    (revert N36; revert hR36; refine gen0 (rv.take n) fun rv3 => ?_; intro hR36 N36)
    clear F35 N35
    k_steps
    refine Stop.e ?_
    have hl36 : rv3.length = n := by
      have := hR36.length
      rw [List.length_map] at this
      exact this.trans hP1l
    refine compG_list (σ := Unit) (vs := rv3) (nn₀ := 0) (fun _ => (D36, listOf rv3.toArray 0) :: (TT, tupOf [.int ((k23 : Nat) : Int) tk23, .ref RD2, .str "" t23] n23) :: (RD2, listOf rdv2.toArray rdn2) :: (RD, listOf rdv.toArray rdn) :: (D11, listOf rv.toArray 0) :: (UP, listOf uv.toArray un) :: (MK, listOf mv.toArray mn) :: (OT, listOf ov.toArray on) :: (SG, listOf sv2.toArray sn) :: (s1.heap.objs.size + 1 + 1, oS2) :: (s1.heap.objs.size + 1, oR2) :: rest) (fun i its _ => its.length = i ∧ StrsAre its ((P1.1.take i).map fun c => sgnS (c % 4))) () (fun _ => .head _) rfl (by decide) rfl (by omega) F36 N36 ⟨rfl, .nil⟩ (fun _ _ _ h => Nat.le_of_eq h.1) ?_ ?_
    · rintro i _ h37 tk37 v C D I oI its nn u E' RE hv ⟨hli, hWi⟩ hc hit hRE
      (refine hide fun PQ kQ => ?_; obtain ⟨c, tc, hcc, rfl⟩ := strs_getI hR36 hv; refine kQ ?_; clear kQ PQ)
      refine wpAny_of_eq (a := ()) rfl ?_
      refine CompAt.set (s := { s1 with heap := h37, toks := tk37 }) hc rfl rfl fun h38 hc2 => ?_
      dsimp only
      refine compTests_nil ?_
      rw [if_pos rfl]
      (refine hide fun PQ kQ => ?_; obtain ⟨oC, hnC, N38⟩ := hc2.N; refine kQ ?_; clear kQ PQ)
      have F38 := hc2.F
      clear F36 N36
      k_steps
      refine Stop.e ?_
      refine KXi.item (n := wd * (c / 4) + 1) (rowOf_len wd c) (by omega) (by omega) (by
        have := mem_tot (List.mem_map.mpr ⟨c, List.mem_of_getElem? hcc, rfl⟩ : rowOf 0 wd c ∈ P1.1.map (rowOf 0 wd))
        rw [rowOf_len] at this
        omega) (fun _ => ?_)
      rw [rowOf_last]
      exact hRE _ _ (CompEnd.i () hc2 ⟨by rw [List.length_append, hli]; rfl, strs_snocM hWi hcc⟩)
    rintro _ h37 tk37 D37 C37 its37 nn37 oC37 u37 ⟨hl37, hW37⟩ F37 hnC37 N37 hCD37 off37
    refine compPost_none F37 hnC37 N37 (fun p hp => ?_) (fun h38 F38 N38 => ?_)
    · rcases List.mem_cons.mp hp with rfl | hp
      · exact Ne.symm hCD37
      · exact (off37 p hp).1
    clear F37 N37 F36 N36
    have hW38 : StrsAre its37 ((P1.1.map (· % 4)).map sgnS) := by
      rw [hl36, List.take_of_length_le (by omega)] at hW37
      rw [List.map_map]
      exact hW37
    k_steps
    refine Stop.e ?_
    rename Fr g28 s1.heap.objs.size _ _ => F39
    rename News g28 s1.heap.objs.size _ _ => N39
    have hU1l : U1.length = n := by have := (rdSt_pile hst1).1; omega
    rw [hP1l] at hst1
    refine Tell.use B28 F39 X28 N39 T28 rfl (ways_tell w U1 up ((P1.1.map (· % 4)).map sgnS) (ms.map sgnS) (fun k a b => rdSt_lt hst1 k a (by omega)) (by omega) (by omega) (by rw [hup.len]; omega) (by rw [hup.len]; omega) (by rw [List.length_map, List.length_map, hP1l, hU1l]) (by rw [List.length_map, hms.len, hup.len])) (ways_rel (lw_at (i := 4) rfl) (lw_at (i := 0) rfl) (lw_at (i := 6) rfl) (lw_at (i := 7) rfl) hrd hW38 huv hmv) (by decide) (by decide) ?_
    (intro r tl40 h40 tk40 F40 N40 hlt40 hQ421; refine hide fun PQ kQ => ?_; obtain ⟨rfl, t40, rfl⟩ := hQ421; refine kQ ?_; clear kQ PQ)
    rw [show waysL PySem.Str.empty U1 ((P1.1.map (· % 4)).map sgnS) up (ms.map sgnS) (U1.length - 1) = waysL 0 U1 (P1.1.map (· % 4)) up ms (n - 1) by
      rw [hU1l]
      exact ways_sgn (fun m hm => by obtain ⟨c, _, rfl⟩ := List.mem_map.mp hm; exact Nat.mod_lt _ (by decide)) hms.lt4 (by rw [List.length_map]; omega) (by rw [hup.len, hms.len]), hL.r1 U1 pile1 hst1]
    simp only [List.nil_append] at N40
    replace N40 := News.tail (News.tail N40)
    clear F39 N39
    k_steps
    all_goals try (rename ((P1.2 : Nat) : Int) ≠ ((P1.2 : Nat) : Int) => q41; exact absurd rfl q41)
    refine Stop.e ?_
    rename Fr g28 s1.heap.objs.size _ _ => F41
    rename News g28 s1.heap.objs.size _ _ => N41
    refine item_tupleL (j := 1) (News.isTup N41 (.head _)) (by decide) (by decide) rfl rfl ?_
    k_steps
    refine Stop.e ?_
    refine evalComp (cl := []) (fun _ => rfl) rfl rfl (by decide) ?_
    k_steps
    refine Stop.e ?_
    rename Fr g28 s1.heap.objs.size _ _ => F45
    rename News g28 s1.heap.objs.size _ _ => N45
    refine kms_slice_lit (zs := rv.drop n) F45 N45 (News.isList N45 (lw_at (i := 3) rfl)) (.int _ _) .none (kms_from (by show n ≤ rv.length; omega)) (fun D46 h46 F46 N46 hlt46 => ?_) (by with_unfolding_all rfl) (fun _ => rfl) (by rw [List.size_toArray, sizeLine_eq]; omega)
    have hR46 : StrsAre (rv.drop n) (P2.1.map (rowOf 0 wd)) := by
      have := strs_drop hR11 n
      rwa [← hRW, List.drop_left' (by rw [List.length_map]; exact hP1l)] at this
    (revert N46; revert hR46; refine gen0 (rv.drop n) fun rv4 => ?_; intro hR46 N46)
    clear F45 N45
    k_steps
    refine Stop.e ?_
    have hl46 : rv4.length = n := by
      have := hR46.length
      rw [List.length_map] at this
      exact this.trans hP2l
    refine compG_list (σ := Unit) (vs := rv4) (nn₀ := 0) (fun _ => (D46, listOf rv4.toArray 0) :: (TT, tupOf [.int ((k23 : Nat) : Int) tk23, .ref RD2, .str "" t23] n23) :: (RD2, listOf rdv2.toArray rdn2) :: (RD, listOf rdv.toArray rdn) :: (D11, listOf rv.toArray 0) :: (UP, listOf uv.toArray un) :: (MK, listOf mv.toArray mn) :: (OT, listOf ov.toArray on) :: (SG, listOf sv2.toArray sn) :: (s1.heap.objs.size + 1 + 1, oS2) :: (s1.heap.objs.size + 1, oR2) :: rest) (fun i its _ => its.length = i ∧ StrsAre its ((P2.1.take i).map fun c => sgnS (c % 4))) () (fun _ => .head _) rfl (by decide) rfl (by omega) F46 N46 ⟨rfl, .nil⟩ (fun _ _ _ h => Nat.le_of_eq h.1) ?_ ?_
    · rintro i _ h47 tk47 v C D I oI its nn u E' RE hv ⟨hli, hWi⟩ hc hit hRE
      (refine hide fun PQ kQ => ?_; obtain ⟨c, tc, hcc, rfl⟩ := strs_getI hR46 hv; refine kQ ?_; clear kQ PQ)
      refine wpAny_of_eq (a := ()) rfl ?_
      refine CompAt.set (s := { s1 with heap := h47, toks := tk47 }) hc rfl rfl fun h48 hc2 => ?_
      dsimp only
      refine compTests_nil ?_
      rw [if_pos rfl]
      (refine hide fun PQ kQ => ?_; obtain ⟨oC, hnC, N48⟩ := hc2.N; refine kQ ?_; clear kQ PQ)
      have F48 := hc2.F
      clear F46 N46
      k_steps
      refine Stop.e ?_
      refine KXi.item (n := wd * (c / 4) + 1) (rowOf_len wd c) (by omega) (by omega) (by
        have := mem_tot (List.mem_map.mpr ⟨c, List.mem_of_getElem? hcc, rfl⟩ : rowOf 0 wd c ∈ P2.1.map (rowOf 0 wd))
        rw [rowOf_len] at this
        omega) (fun _ => ?_)
      rw [rowOf_last]
      exact hRE _ _ (CompEnd.i () hc2 ⟨by rw [List.length_append, hli]; rfl, strs_snocM hWi hcc⟩)
    rintro _ h47 tk47 D47 C47 its47 nn47 oC47 u47 ⟨hl47, hW47⟩ F47 hnC47 N47 hCD47 off47
    refine compPost_none F47 hnC47 N47 (fun p hp => ?_) (fun h48 F48 N48 => ?_)
    · rcases List.mem_cons.mp hp with rfl | hp
      · exact Ne.symm hCD47
      · exact (off47 p hp).1
    clear F47 N47 F46 N46
    have hW48 : StrsAre its47 ((P2.1.map (· % 4)).map sgnS) := by
      rw [hl46, List.take_of_length_le (by omega)] at hW47
      rw [List.map_map]
      exact hW47
    k_steps
    refine Stop.e ?_
    rename Fr g28 s1.heap.objs.size _ _ => F49
    rename News g28 s1.heap.objs.size _ _ => N49
    have hU2l : U2.length = n := by have := (rdSt_pile hst2).1; omega
    rw [hP2l] at hst2
    refine Tell.use B28 F49 X28 N49 T28 rfl (ways_tell w U2 ot ((P2.1.map (· % 4)).map sgnS) (sg.map sgnS) (fun k a b => rdSt_lt hst2 k a (by omega)) (by omega) (by omega) (by rw [hotl]; omega) (by rw [hotl]; omega) (by rw [List.length_map, List.length_map, hP2l, hU2l]) (by rw [List.length_map, hsgl, hotl])) (ways_rel (lw_at (i := 3) rfl) (lw_at (i := 0) rfl) (lw_at (i := 8) rfl) (lw_at (i := 9) rfl) hrd2 hW48 hov hsv) (by decide) (by decide) ?_
    (intro r tl50 h50 tk50 F50 N50 hlt50 hQ490; refine hide fun PQ kQ => ?_; obtain ⟨rfl, t50, rfl⟩ := hQ490; refine kQ ?_; clear kQ PQ)
    rw [show waysL PySem.Str.empty U2 ((P2.1.map (· % 4)).map sgnS) ot (sg.map sgnS) (U2.length - 1) = waysL 0 U2 (P2.1.map (· % 4)) ot sg (n - 1) by
      rw [hU2l]
      exact ways_sgn (fun m hm => by obtain ⟨c, _, rfl⟩ := List.mem_map.mp hm; exact Nat.mod_lt _ (by decide)) h42 (by rw [List.length_map]; omega) (by rw [hotl, hsgl]), hL.r2 U2 pile2 hst2]
    simp only [List.nil_append] at N50
    clear F49 N49
    k_steps
    rw [beq_self_eq_true]
    have FZ : Fr s1.heap s1.heap.objs.size h50 _ := ⟨F50.ns, fun b o e => F50.keep b o (KT28.other b o (KT22.other b o (KT17.other b o (KT6.other b o (KT4.other b o e (fun h => nomatch h)) (fun h => nomatch h)) (fun h => nomatch h)) (fun h => nomatch h)) (fun h => nomatch h)), Nat.le_refl _⟩
    exact goodW_bool FZ (by assumption) (law_raises ns) (law_post ns))
end Mine
end
theorem PySem.Challenge.cw_wa0025_01_holds : PySem.Challenge.rw_wa0025_01.Holds :=
  Mine.law_walk
