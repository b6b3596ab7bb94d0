import PyProof.Rows.All
import Wide.All
import OpenK.AllK
import Wide.FinOn
import PySem.Challenge.RW_pg0133_01
set_option Elab.async false
set_option maxRecDepth 100000
set_option compiler.extract_closed false
set_option linter.unusedVariables false
set_option linter.unusedSimpArgs false
namespace Mine
section THd
open PySem PySem.W PyProof.Rows
set_option maxRecDepth 100000 in
set_option maxHeartbeats 8000000 in
open_top hd for PySem.Challenge.rw_pg0133_01
end THd
open PySem PySem.W PyProof.Rows PySem.Spec PySem.Calls
theorem resetToks : True := by
  w_top off
  first | (walk1; done) | trivial
section TToks
theorem runs_toks {M : Model} {Γ : PySem.Ctx} {p : Pos} {t : Sem Fin} {fs : List Frame} {s : Shared} {e : End} {s' : Shared} (h : Runs M Γ p t fs s e s') : s.toks ≤ s'.toks := by
  induction h <;> first
    | exact Nat.le_refl _
    | assumption
    | ((try simp only [Shared.setGen] at *); omega)
theorem wakes_toks {M : Model} {Γ : PySem.Ctx} {p : Pos} {g : Nat} {r : Resume} {s : Shared} {res : GenResult} {s' : Shared} (h : Wakes M Γ p g r s res s') : s.toks ≤ s'.toks := by
  unfold Wakes at h
  split at h
  · exact h.elim
  · split at h
    · obtain ⟨e, s₁, hr, _, _, rfl⟩ := h
      have := runs_toks hr
      simpa only [Shared.setGen] using this
    · rw [h.2]; exact Nat.le_refl _
    · rw [h.2]; simp only [Shared.setGen]; exact Nat.le_refl _
  · obtain ⟨e, s₁, hr, _, _, rfl⟩ := h
    have := runs_toks hr
    simpa only [Shared.setGen] using this
  · rw [h.2]; exact Nat.le_refl _
  · rw [h.2]; exact Nat.le_refl _
theorem wp_toks {α : Type} {M : Model} {Γ : PySem.Ctx} (t : Sem α) : ∀ (b : Nat) (Q : α → Pos → Shared → Prop) (E : Value → Pos → Shared → Prop) (p : Pos) (s : Shared), b ≤ s.toks →
    Sem.wp M Γ t (fun a p s' => b ≤ s'.toks → Q a p s') (fun e p s' => b ≤ s'.toks → E e p s') p s → Sem.wp M Γ t Q E p s := by
  induction t with
  | pure a => intro b Q E p s hb h; exact h hb
  | raise e => intro b Q E p s hb h; exact h hb
  | unsupported _ => intro b Q E p s hb h; exact h.elim
  | finish _ => intro b Q E p s hb h; exact h.elim
  | rule tag k ih => intro b Q E p s hb h; exact ih () b Q E p s hb h
  | «at» p₀ k ih => intro b Q E p s hb h; exact ih () b Q E p₀ s hb h
  | load a part k ih => intro b Q E p s hb h; obtain ⟨o, ho, h⟩ := h; exact ⟨o, ho, ih o b Q E p s hb h⟩
  | update a part f k ih => intro b Q E p s hb h; obtain ⟨o, h⟩ := h; exact ⟨o, ih () b Q E p _ hb h⟩
  | loadIfAlive a k ih => intro b Q E p s hb h; exact ih _ b Q E p s hb h
  | point l k ih => intro b Q E p s hb h; exact ih () b Q E p s hb h
  | register a k _ => intro b Q E p s hb h; exact h.elim
  | alloc o k ih => intro b Q E p s hb h; exact ih _ b Q E p _ hb h
  | fresh k ih => intro b Q E p s hb h; exact ih _ b Q E p _ (Nat.le_succ_of_le hb) h
  | ask k ih => intro b Q E p s hb h; exact ih _ b Q E p s hb h
  | choose src n k ih => intro b Q E p s hb h; obtain ⟨h0, h⟩ := h; exact ⟨h0, ih _ b Q E p _ hb h⟩
  | os q l k ih => intro b Q E p s hb h; exact ih _ b Q E p _ hb h
  | call c hd g l k ih =>
    intro b Q E p s hb h
    obtain ⟨r, s', hr, h⟩ := h
    exact ⟨r, s', hr, ih r b Q E p s' (Nat.le_trans hb (runs_toks hr)) h⟩
  | handled own k ih => intro b Q E p s hb h; exact ih _ b Q E p s hb h
  | genState g k ih => intro b Q E p s hb h; obtain ⟨st, h0, h⟩ := h; exact ⟨st, h0, ih _ b Q E p s hb h⟩
  | newGen c k ih => intro b Q E p s hb h; exact ih _ b Q E p _ hb h
  | resume g r l k ih =>
    intro b Q E p s hb h
    obtain ⟨res, s', hw, h⟩ := h
    exact ⟨res, s', hw, ih res b Q E p s' (Nat.le_trans hb (wakes_toks hw)) h⟩
  | yield _ _ _ _ _ => intro b Q E p s hb h; exact h.elim
  | stack k ih => intro b Q E p s hb h; exact ih _ b Q E p s hb h
  | fork _ _ _ => intro b Q E p s hb h; exact h.elim
  | thread k ih => intro b Q E p s hb h; exact ih _ b Q E p s hb h
  | await _ _ _ _ _ _ => intro b Q E p s hb h; exact h.elim
/-- the tokens' number never falls: this may be taken for granted behind any step -/
theorem tk_in {α : Type} {M : Model} {A : Around} {t : Sem α} {Q : α → Shared → Prop} {E : Value → Shared → Prop} {s : Shared}
    (h : wpAny M A t (fun a s' => s.toks ≤ s'.toks → Q a s') (fun e s' => s.toks ≤ s'.toks → E e s') s) : wpAny M A t Q E s :=
  fun Γ p hΓ => wp_toks t s.toks _ _ p s (Nat.le_refl _) (h Γ p hΓ)
end TToks
theorem resetBase : True := by
  w_top off
  first | (walk1; done) | trivial
section TBase

/-- nothing that stood is turned, and the heap has grown -/
structure Gr (g h : Heap) : Prop where
  st : g.StaysIn h
  sz : g.objs.size ≤ h.objs.size
theorem Gr.refl (g : Heap) : Gr g g := ⟨fun _ _ e => e, Nat.le_refl _⟩
theorem Gr.trans {a b c : Heap} (x : Gr a b) (y : Gr b c) : Gr a c := ⟨fun p o e => y.st p o (x.st p o e), Nat.le_trans x.sz y.sz⟩
theorem Gr.of_fr {g h : Heap} {L : Addr} {m : Str → Option Value} (F : Fr g L h m) : Gr g h := by
  obtain ⟨o, _, _, ho, _⟩ := F.ns
  exact ⟨F.keep, Nat.le_of_lt (Nat.lt_of_le_of_lt F.above (Heap.lt_size ho))⟩
theorem Gr.fr {h₀ h h' : Heap} {L : Addr} {m : Str → Option Value} (G : Gr h h') (F : Fr h₀ L h m) : Fr h₀ L h' m := by
  obtain ⟨o, a, b, ho, r⟩ := F.ns
  exact ⟨⟨o, a, b, G.st _ _ ho, r⟩, fun p q e => G.st _ _ (F.keep p q e), F.above⟩
theorem Gr.news {h₀ h h' : Heap} {L : Addr} {news : List (Addr × Obj)} (G : Gr h h') (N : News h₀ L h news) : News h₀ L h' news :=
  fun p hp => ⟨G.st _ _ (N p hp).1, (N p hp).2⟩

noncomputable abbrev AA (dp un : Nat) (gd : Option (List Code)) (env : Env) (outer : List Env) : Around := { handled := none, depth := dp, frames := some (env :: outer), guards := gd, units := un }

/-- a call of a def of the text, from any frame of a def -/
noncomputable def Tl (k : Nat) (w : World) (f : Addr) (vs : List Value) (P : Heap → Prop) (Out : Heap → Value → Heap → Prop) : Prop :=
  ∀ (p : Program) (loose : List Str) (mean : ExcName → Option Value) (mg mb : Str → Option Value) (dp un : Nat) (gd : Option (List Code)) (env : Env) (outer : List Env) (A₀ : Around) (base h₀ : Heap) (L : Addr) (m : Str → Option Value) (s : Shared) (Q E : Value → Shared → Prop),
    Below A₀ base outer h₀ → Fr h₀ L s.heap m → (hd.heap_39 w.params).In h₀ → Top p loose mean mg mb h₀ → env.frame = some L → env.scope.kind = .function → dp + k + 1 < recursionLimit → un + 10 * k + 110 < cLine → P s.heap →
    (∀ r h' tk', Gr s.heap h' → Out s.heap r h' → Q r { s with heap := h', toks := tk' }) →
    wpAny (model Challenge.rw_pg0133_01.row.prog w) (AA dp un gd env outer) (call (.ref f) vs) Q E s

/-- what the walk of a def's body is to show -/
noncomputable def Bd (k : Nat) (w : World) (f : Addr) (qual : Str) (body : List Stmt) (scope : Scope) (cdv : Value) (mm : Str → Option Value) (P : Heap → Prop) (Out : Heap → Value → Heap → Prop) : Prop :=
  ∀ (p : Program) (loose : List Str) (mean : ExcName → Option Value) (mg mb : Str → Option Value) (dp un : Nat) (gd : Option (List Code)) (outer : List Env) (A₀ : Around) (base g h : Heap) (L : Addr) (s : Shared) (tk : Nat) (Q : Flow → Shared → Prop),
    Below A₀ base outer g → Fr g L h mm → News g L h [] → (hd.heap_39 w.params).In g → Top p loose mean mg mb g → dp + k < recursionLimit → un + 10 * k + 100 < cLine → 0 < tk → P g →
    (∀ r h' tk', Gr g h' → Out g r h' → Q (.ret r) { s with heap := h', toks := tk' }) →
    wpAny (model Challenge.rw_pg0133_01.row.prog w) (ktrTop dp un gd qual scope L f cdv [] outer) (execs body (envOf qual scope L f cdv)) Q (fun _ _ => False) { s with heap := h, toks := tk }

theorem tl_of {k : Nat} {w : World} {f : Addr} {vs : List Value} {P : Heap → Prop} {Out : Heap → Value → Heap → Prop} {name qual : Str} {params : Arguments} {body : List Stmt} {scope : Scope} {dV kV doc pm cdv ct oc : Value} {an od : Option Addr} {osl : Array (Option Value)} {binds : List (Str × Value)} {mm : Str → Option Value}
    (ho : (hd.heap_39 w.params).lookup f = some ⟨oc, od, .func (fnOf name qual params body scope dV kV doc pm an cdv ct), osl⟩) (hcd : codeIn (hd.heap_39 w.params) cdv qual = true)
    (hbind : bindArgs (fnOf name qual params body scope dV kV doc pm an cdv ct) ⟨vs, []⟩ = pure binds) (hloc : ∀ y ∈ binds, scope.names.lookup y.1 = some .local) (hmm : ∀ y, binds.reverse.lookup y = mm y) (hn : 0 < binds.length)
    (hco : scope.isCoroutine = false) (hgen : scope.isGenerator = false) (hk : scope.kind = .function) (hcell : ∀ x ∈ scope.names, x.2 ≠ .cell)
    (h : Bd k w f qual body scope cdv mm P Out) : Tl k w f vs P Out := by
  intro p loose mean mg mb dp un gd env outer A₀ base h₀ L m s Q E B F X T hf hke hdp hun hp hret
  have hmm' : (fun y => binds.reverse.lookup y) = mm := funext hmm
  refine wpAny_call (codeAny_call_def (fd := fnOf name qual params body scope dV kV doc pm an cdv ct) (body := body) (binds := binds) (show dp < recursionLimit by omega) ((X.keeps F.keep) _ _ ho) rfl (T.nolimit.keeps F.keep) (codeRec_of (X.keeps F.keep) hcd) rfl (BindsTo.of_eq hbind) hcell hloc (fun h₁ hns hk₁ => ?_) hco hgen hk)
  rw [hmm'] at hns
  have B₁ : Below (AA dp un gd env outer) base (env :: outer) s.heap := ⟨rfl, fun b o e => F.keep b o (B.stays b o e), (pushX B F hf hke).frames⟩
  exact wpAny_mono (h p loose mean mg mb (dp + 1) (un + 3) gd (env :: outer) _ base s.heap h₁ s.heap.objs.size s _ _ B₁ ⟨hns, hk₁, Nat.le_refl _⟩ News.nil (X.keeps F.keep) (T.keeps F.keep) (by omega) (by omega) (by omega) hp hret) (fun _ _ x => x) (fun _ _ x => x.elim)
/-- a statement walked with a word for what comes behind it: the terms stay small -/
theorem ec {M : Model} {A : Around} {st : Stmt} {rest : List Stmt} {env : Env} {Q : Flow → Shared → Prop} {E : Value → Shared → Prop} {s : Shared}
    (h : ∀ R : Flow → Shared → Prop, (∀ s', wpAny M A (execs rest env) Q E s' → R .next s') → wpAny M A (exec st env) R E s) : wpAny M A (execs (st :: rest) env) Q E s :=
  wpAny_execs_cons (h _ fun _ q => q)
theorem cutP {α : Type} {M : Model} {A : Around} {c : Sem α} {Q : α → Shared → Prop} {E : Value → Shared → Prop} {s : Shared}
    (h : ∀ R : α → Shared → Prop, (∀ v s', Q v s' → R v s') → wpAny M A c R E s) : wpAny M A c Q E s := h Q fun _ _ q => q
end TBase
theorem resetC1 : True := by
  w_top off
  first | (walk1; done) | trivial
section TC1
theorem lookup_if (y k : Str) (v : Value) (r : List (Str × Value)) : List.lookup y ((k, v) :: r) = if y = k then some v else List.lookup y r := by
  rw [List.lookup_cons]
  by_cases h : y = k
  · subst h; simp
  · have : (y == k) = false := by simpa using h
    rw [this, if_neg h]
theorem lookup_nil (y : Str) : List.lookup y ([] : List (Str × Value)) = none := rfl

theorem out_str {x y : Str} {t : Tok} (h : y = x) : ∃ t', Value.str y t = Value.str x t' := ⟨t, by rw [h]⟩
theorem str_len0 {x : Str} (h : (x.length : Int) = 0) : x = Str.ofString "" := by
  have : x.cps = #[] := Array.eq_empty_of_size_eq_zero (by simpa [Str.length] using h)
  cases x; simp at this; subst this; rfl
theorem str_len1 {x : Str} (h : (x.length : Int) ≠ 0) : x ≠ Str.ofString "" := by
  rintro rfl; exact h rfl
noncomputable def commentS (x : Str) : Str := if Txt.rstrip x = Str.ofString "" then Str.ofString "#" else Str.ofString "# " ++ Txt.rstrip x
set_option maxHeartbeats 8000000 in
theorem comment_line (w : World) (x : Str) (t : Tok) (hx : x.length ≤ 1048576) : Tl 0 w 21 [.str x t] (fun _ => True) fun _ r _ => ∃ t', r = .str (commentS x) t' := by
  have kf : hd.heap_39 = hd.heap_39 ∧ Challenge.rw_pg0133_01 = Challenge.rw_pg0133_01 := by k_fill; exact ⟨rfl, rfl⟩
  refine' tl_of (mm := fun y => if y = Str.ofString "line" then some (.str x t) else none) ?ho ?hcd ?hb ?hl ?hmm ?hn ?a ?b ?c ?d ?_
  case ho => k_is
  case hcd => k_is
  case hb => rfl
  case hl => exact locs rfl
  case hmm => exact fun y => lookup_if _ _ _ []
  case hn => exact Nat.succ_pos _
  case a => rfl
  case b => rfl
  case c => rfl
  case d => decide
  unfold Bd
  intro p loose mean mg mb dp un gd outer A₀ base g h L s tk Q B F N X T hdp hun htk hp hret
  k_steps
  · refine hret _ _ _ (Gr.of_fr (by assumption)) (out_str ?_)
    rw [commentS, if_neg (str_len1 (by assumption))]
  · refine hret _ _ _ (Gr.of_fr (by assumption)) (out_str ?_)
    rw [commentS, if_pos (str_len0 (by assumption))]
end TC1
theorem resetTx : True := by
  w_top off
  first | (walk1; done) | trivial
section TTx
/-- a text by its signs' numbers -/
noncomputable def S (l : List Nat) : Str := ⟨l.toArray⟩
theorem S_cps (l : List Nat) : (S l).cps.toList = l := rfl
theorem S_len (l : List Nat) : (S l).length = l.length := by simp [S, Str.length]
theorem S_of (x : Str) : x = S x.cps.toList := by cases x; simp [S]
theorem S_inj {a b : List Nat} : S a = S b ↔ a = b := by
  constructor
  · intro h
    have := congrArg (fun x : Str => x.cps.toList) h
    simpa [S] using this
  · intro h; rw [h]
theorem S_add (a b : List Nat) : S a ++ S b = S (a ++ b) := by
  rw [S_of (S a ++ S b), Str.cps_append]; simp [S]
noncomputable def r1 (c : Nat) (z : List Nat) (k : Nat) : List Nat := if k = c then z else [k]
noncomputable def repL (c : Nat) (z l : List Nat) : List Nat := l.flatMap (r1 c z)
theorem repL_append (c : Nat) (z a b : List Nat) : repL c z (a ++ b) = repL c z a ++ repL c z b := by simp [repL]
theorem repL_free (c : Nat) (z : List Nat) : ∀ l : List Nat, c ∉ l → repL c z l = l
  | [], _ => rfl
  | k :: r, h => by
    have h1 : ¬ k = c := fun e => h (e ▸ List.mem_cons_self ..)
    have h2 : c ∉ r := fun m => h (List.mem_cons_of_mem _ m)
    show r1 c z k ++ repL c z r = _
    rw [repL_free c z r h2, r1, if_neg h1]; rfl
theorem repL_one (c : Nat) (z : List Nat) : repL c z [c] = z := by simp [repL, r1]
theorem repL_join (c : Nat) (z : List Nat) : ∀ parts : List Str, (∀ p ∈ parts, c ∉ p.cps.toList) → repL c z (Str.join ⟨#[c]⟩ parts).cps.toList = (Str.join (S z) parts).cps.toList
  | [], _ => rfl
  | [p], h => repL_free c z _ (h p (List.mem_singleton.mpr rfl))
  | p :: q :: r, h => by
    have ih := repL_join c z (q :: r) fun a ha => h a (List.mem_cons_of_mem _ ha)
    show repL c z (p ++ ⟨#[c]⟩ ++ Str.join ⟨#[c]⟩ (q :: r)).cps.toList = (p ++ S z ++ Str.join (S z) (q :: r)).cps.toList
    simp only [Str.cps_append, Array.toList_append]
    rw [repL_append, repL_append, ih, repL_free c z _ (h p (List.mem_cons_self ..)), S_cps]
    show p.cps.toList ++ repL c z [c] ++ _ = _
    rw [repL_one]
theorem replace_S (c : Nat) (z l : List Nat) : Txt.replace (S l) (S [c]) (S z) = S (repL c z l) := by
  show Txt.replace (S l) ⟨#[c]⟩ (S z) = _
  rw [S_of (Txt.replace (S l) ⟨#[c]⟩ (S z)), StrLaws.replace_one, ← repL_join c z _ (StrLaws.split_free (S l) c), StrLaws.join_split, S_cps]
theorem in_S (c : Nat) (l : List Nat) : (Builtin.Str.occurrences (S l) (S [c]) 0 (S l).length 1).isEmpty = !decide (c ∈ l) := by
  have h := StrLaws.found_one (S l) c
  rw [S_cps] at h
  rw [← h, Bool.not_not]
  rfl

/-- the names of the references, hand by hand -/
noncomputable def tab0 : List (Nat × List Nat) := [(38, [97, 109, 112, 59]), (60, [108, 116, 59]), (62, [103, 116, 59])]
noncomputable def tab1 : List (Nat × List Nat) := [(38, [97, 109, 112, 59]), (60, [108, 116, 59]), (62, [103, 116, 59]), (34, [113, 117, 111, 116, 59]), (13, [35, 49, 51, 59]), (10, [35, 49, 48, 59]), (9, [35, 48, 57, 59])]
noncomputable def tab2 : List (Nat × List Nat) := [(38, [97, 109, 112, 59]), (62, [103, 116, 59]), (34, [113, 117, 111, 116, 59])]
noncomputable def tab3 : List (Nat × List Nat) := [(38, [97, 109, 112, 59]), (60, [108, 116, 59]), (62, [103, 116, 59]), (13, [35, 120, 68, 59])]
noncomputable def tab5 : List (Nat × List Nat) := [(38, [97, 109, 112, 59]), (60, [108, 116, 59]), (34, [113, 117, 111, 116, 59]), (9, [35, 120, 57, 59]), (10, [35, 120, 65, 59]), (13, [35, 120, 68, 59])]
noncomputable def tabL : List (List (Nat × List Nat)) := [tab0, tab1, tab2, tab3, tab5]
noncomputable def tabAt (zs : List (Nat × List Nat)) (c : Nat) : Option (List Nat) := (zs.find? fun p => p.1 == c).map (·.2)
noncomputable def nm (i c : Nat) : Option (List Nat) := tabAt (tabL.getD i []) c
theorem nm_mem {i c : Nat} {z : List Nat} (h : nm i c = some z) : (c, z) ∈ tabL.flatten := by
  unfold nm tabAt at h
  cases hf : (tabL.getD i []).find? (fun p => p.1 == c) with
  | none => rw [hf] at h; cases h
  | some p =>
    rw [hf] at h
    have h0 := List.find?_some hf
    have h1 : p.1 = c := eq_of_beq h0
    have h2 := List.mem_of_find?_eq_some hf
    cases h
    subst h1
    rw [List.getD_eq_getElem?_getD] at h2
    cases hq : tabL[i]? with
    | none => rw [hq] at h2; cases h2
    | some t => rw [hq] at h2; exact List.mem_flatten.mpr ⟨t, List.mem_of_getElem? hq, h2⟩
theorem nm_all {P : Nat × List Nat → Prop} (hP : ∀ p ∈ tabL.flatten, P p) {i c : Nat} {z : List Nat} (h : nm i c = some z) : P (c, z) := hP _ (nm_mem h)
theorem nm_out {i c : Nat} (h : c ∉ [38, 60, 62, 34, 13, 10, 9]) : nm i c = none := by
  cases hz : nm i c with
  | none => rfl
  | some z => exact absurd (nm_all (P := fun p => p.1 ∈ [38, 60, 62, 34, 13, 10, 9]) (by decide) hz) h
noncomputable def esc1 (h k : Nat) : List Nat := match nm h k with | some n => 38 :: n | none => [k]
noncomputable def escL (h : Nat) (l : List Nat) : List Nat := l.flatMap (esc1 h)
theorem esc1_len (h k : Nat) : (esc1 h k).length ≤ 6 := by
  unfold esc1
  cases hz : nm h k with
  | none => exact Nat.le_add_left 1 5
  | some z => exact Nat.succ_le_succ (nm_all (P := fun p => p.2.length ≤ 5) (by decide) hz)
theorem escL_len (h : Nat) : ∀ l : List Nat, (escL h l).length ≤ 6 * l.length
  | [] => Nat.le_refl _
  | k :: r => by
    have := escL_len h r
    have := esc1_len h k
    show (esc1 h k ++ escL h r).length ≤ _
    rw [List.length_append, List.length_cons]; omega
theorem repL_len (c : Nat) (z : List Nat) (hz : z.length ≤ 6) (hz1 : 1 ≤ z.length) : ∀ l : List Nat, (repL c z l).length ≤ 6 * l.length
  | [] => Nat.le_refl _
  | k :: r => by
    have := repL_len c z hz hz1 r
    show (r1 c z k ++ repL c z r).length ≤ _
    rw [List.length_append, List.length_cons]
    have : (r1 c z k).length ≤ 6 := by unfold r1; split <;> simp_all
    omega
noncomputable def chainL (ps : List (Nat × List Nat)) (l : List Nat) : List Nat := ps.foldl (fun m p => repL p.1 p.2 m) l
noncomputable def goodB : List (Nat × List Nat) → Bool
  | [] => true
  | p :: ps => decide (p.2.length ≤ 6) && ps.all (fun q => !p.2.contains q.1) && goodB ps
theorem chain_flat : ∀ (ps : List (Nat × List Nat)) (l : List Nat), chainL ps l = l.flatMap fun k => chainL ps [k]
  | [], l => by simp [chainL]
  | p :: ps, l => by
    show chainL ps (repL p.1 p.2 l) = l.flatMap fun k => chainL ps (repL p.1 p.2 [k])
    rw [chain_flat ps, repL, List.flatMap_assoc]
    congr 1; funext k
    rw [chain_flat ps (repL p.1 p.2 [k])]
    simp [repL]
theorem chain_fix : ∀ (ps : List (Nat × List Nat)) (l : List Nat), (∀ q ∈ ps, q.1 ∉ l) → chainL ps l = l
  | [], _, _ => rfl
  | p :: ps, l, h => by
    show chainL ps (repL p.1 p.2 l) = l
    rw [repL_free _ _ _ (h p (.head _))]
    exact chain_fix ps l fun q hq => h q (.tail _ hq)
theorem chain_one : ∀ (ps : List (Nat × List Nat)), goodB ps = true → ∀ k, (chainL ps [k]).length ≤ 6
  | [], _, k => by simp [chainL]
  | p :: ps, h, k => by
    simp only [goodB, Bool.and_eq_true, decide_eq_true_eq, List.all_eq_true] at h
    show (chainL ps (repL p.1 p.2 [k])).length ≤ 6
    by_cases hk : k = p.1
    · rw [hk, repL_one, chain_fix]
      · exact h.1.1
      · intro q hq; have := h.1.2 q hq; simpa using this
    · rw [repL_free _ _ _ (by simpa using fun e => hk e.symm)]
      exact chain_one ps h.2 k
theorem chain_find : ∀ (ps : List (Nat × List Nat)), goodB ps = true → ∀ k, chainL ps [k] = ((ps.find? fun p => p.1 == k).map (·.2)).getD [k]
  | [], _, k => rfl
  | p :: ps, h, k => by
    simp only [goodB, Bool.and_eq_true, decide_eq_true_eq, List.all_eq_true] at h
    show chainL ps (repL p.1 p.2 [k]) = _
    by_cases hk : p.1 = k
    · subst hk
      rw [repL_one, chain_fix _ _ fun q hq m => by have := h.1.2 q hq; simp [m] at this, List.find?_cons_of_pos (by simp)]
      rfl
    · rw [repL_free _ _ _ (by simpa using hk), chain_find ps h.2 k, List.find?_cons_of_neg (by simpa using hk)]
theorem esc_tab (i : Nat) (zs : List (Nat × List Nat)) (hz : ∀ c, nm i c = tabAt zs c) (h : goodB (zs.map fun p => (p.1, 38 :: p.2)) = true) (l : List Nat) : chainL (zs.map fun p => (p.1, 38 :: p.2)) l = escL i l := by
  rw [chain_flat, escL]
  congr 1; funext k
  rw [chain_find _ h, List.find?_map, esc1, hz, tabAt]
  show (Option.map _ (Option.map _ (List.find? (fun p => p.1 == k) zs))).getD _ = _
  cases List.find? (fun p => p.1 == k) zs <;> rfl
theorem esc0 (l : List Nat) : repL 62 [38, 103, 116, 59] (repL 60 [38, 108, 116, 59] (repL 38 [38, 97, 109, 112, 59] l)) = escL 0 l := esc_tab 0 tab0 (fun _ => rfl) (by decide) l
theorem esc1_ (l : List Nat) : repL 9 [38, 35, 48, 57, 59] (repL 10 [38, 35, 49, 48, 59] (repL 13 [38, 35, 49, 51, 59] (repL 34 [38, 113, 117, 111, 116, 59] (repL 62 [38, 103, 116, 59] (repL 60 [38, 108, 116, 59] (repL 38 [38, 97, 109, 112, 59] l)))))) = escL 1 l := esc_tab 1 tab1 (fun _ => rfl) (by decide) l
theorem esc2_ (l : List Nat) : repL 34 [38, 113, 117, 111, 116, 59] (repL 62 [38, 103, 116, 59] (repL 38 [38, 97, 109, 112, 59] l)) = escL 2 l := esc_tab 2 tab2 (fun _ => rfl) (by decide) l
theorem esc3_ (l : List Nat) : repL 13 [38, 35, 120, 68, 59] (repL 62 [38, 103, 116, 59] (repL 60 [38, 108, 116, 59] (repL 38 [38, 97, 109, 112, 59] l))) = escL 3 l := esc_tab 3 tab3 (fun _ => rfl) (by decide) l
theorem esc4_ (l : List Nat) : repL 13 [38, 35, 120, 68, 59] (repL 10 [38, 35, 120, 65, 59] (repL 9 [38, 35, 120, 57, 59] (repL 34 [38, 113, 117, 111, 116, 59] (repL 60 [38, 108, 116, 59] (repL 38 [38, 97, 109, 112, 59] l))))) = escL 4 l := esc_tab 4 tab5 (fun _ => rfl) (by decide) l
theorem chain_bound (ps : List (Nat × List Nat)) (h : goodB ps = true) : ∀ l : List Nat, (chainL ps l).length ≤ 6 * l.length
  | [] => by rw [chain_flat]; simp
  | k :: r => by
    have h1 := chain_bound ps h r
    have h2 := chain_one ps h k
    rw [chain_flat] at h1 ⊢
    rw [List.flatMap_cons, List.length_append, List.length_cons]; omega
end TTx
theorem resetC2 : True := by
  w_top off
  first | (walk1; done) | trivial
local macro_rules | `(tactic| walk_at "mine enter") => `(tactic| ((case ho | hcd => k_is); (case hb | a | b | c => rfl); (case hl => exact locs rfl); (case hn => exact Nat.succ_pos _); (case hmm => exact fun y => lookup_if _ _ _ []); (case d => decide)))
section TC2
theorem replaceM {prog : Program} {w : World} {A : Around} {E : Value → Shared → Prop} {s : Shared} {x y z : Str} {t u v : Tok} {Q : Value → Shared → Prop}
    (hu : u ≠ 0) (hv : v ≠ 0) (huv : u ≠ v) (hyz : (y == z) = false) (hb : x.length + (x.length + 1) * z.length ≤ 16777216)
    (hq : ∀ t' k, s.toks ≤ k → Q (.str (Txt.replace x y z) t') { s with toks := k }) : wpAny (model prog w) A (call (.builtin "str.replace") [.str x t, .str y u, .str z v]) Q E s :=
  tk_in (SC.replace hu hv huv hyz hb fun t' k => hq t' k)
noncomputable abbrev escScope : Scope := { kind := .function, names := [(Str.ofString "text", .local), (Str.ofString "TypeError", .globalImplicit), (Str.ofString "AttributeError", .globalImplicit), (Str.ofString "_raise_serialization_error", .globalImplicit)], isGenerator := false, isCoroutine := false }
noncomputable abbrev txt (x : Str) (t : Tok) : Str → Option Value := fun y => if y = Str.ofString "text" then some (.str x t) else none
theorem txt_again {x x' : Str} {t t' : Tok} : (fun y => if y = Str.ofString "text" then some (Value.str x' t') else txt x t y) = txt x' t' := by
  funext y
  by_cases h : y = Str.ofString "text"
  · simp [txt, h]
  · simp [txt, h]
set_option maxHeartbeats 8000000 in
/-- one clause of an escape: where the sign stands, it is replaced; where not, a replacing would change nothing -/
theorem esc_stmt {w : World} {f : Addr} {qual : Str} {cdv : Value} {dp un : Nat} {gd : Option (List Code)} {outer : List Env} {g h : Heap} {L : Addr} {s : Shared} {tk : Nat} {Q : Flow → Shared → Prop} {E : Value → Shared → Prop}
    {l : List Nat} {t : Tok} (c : Nat) (z : List Nat) {cS rS : Str} {k1 k2 k3 : Nat} {p1 p2 p3 p4 p5 p6 p7 p8 p9 p10 p11 : Pos} {pl : Sem Bool}
    (F : Fr g L h (txt (S l) t)) (htk : 0 < tk) (hl : l.length ≤ 1000000) (hcS : cS = S [c]) (hrS : rS = S z) (hcz : [c] ≠ z) (hz : z.length ≤ 6)
    (he : eval (Expr.Call (Expr.Attribute (Expr.Name (Str.ofString "text") p5) (Str.ofString "replace") p6) [Expr.Constant (Const.str cS) k2 p7, Expr.Constant (Const.str rS) k3 p8] [] p9) (envOf qual escScope L f cdv) = (do
      let ov ← eval (Expr.Name (Str.ofString "text") p5) (envOf qual escScope L f cdv)
      standAt p6.atName
      let (fn, first) ← holding [ov] (getMethod ov (Str.ofString "replace") pl)
      callWith p9 fn first (backTo p9 (starEach [Expr.Constant (Const.str cS) k2 p7, Expr.Constant (Const.str rS) k3 p8] (envOf qual escScope L f cdv))) []))
    (hq : ∀ t' h' tk', 0 < tk' → Fr g L h' (txt (S (repL c z l)) t') → Q .next { s with heap := h', toks := tk' }) :
    wpAny (model Challenge.rw_pg0133_01.row.prog w) (ktrTop dp un gd qual escScope L f cdv [] outer)
      (exec (Stmt.If (Expr.Compare (Expr.Constant (Const.str cS) k1 p1) [CmpOp.In] [Expr.Name (Str.ofString "text") p2] p3)
        [Stmt.Assign [Expr.Name (Str.ofString "text") p4] (Expr.Call (Expr.Attribute (Expr.Name (Str.ofString "text") p5) (Str.ofString "replace") p6) [Expr.Constant (Const.str cS) k2 p7, Expr.Constant (Const.str rS) k3 p8] [] p9) p10] [] p11) (envOf qual escScope L f cdv)) Q E { s with heap := h, toks := tk } := by
  subst hcS hrS
  refine wpAny_If (wpAny_isTrue_Compare1 (wpAny_Constant_str (ld F (by rfl) (in_str (wpAny_truthy_bool ?_)))))
  by_cases hc : c ∈ l
  · rw [in_S, decide_eq_true hc, Bool.not_true, Bool.not_false, if_pos rfl]
    refine wpAny_execs_cons (wpAny_Assign_Name ?_)
    refine MethodCall_ ?_ he
    refine ld F (by rfl) ?_
    refine GM.replace ?_
    refine callWith_method1 ?_
    refine spliced_more (wpAny_Constant_str (spliced_more (wpAny_Constant_str (spliced_none ?_))))
    refine replaceM (by dsimp only; show @Ne Nat _ _; omega) (by dsimp only; show @Ne Nat _ _; omega) (by dsimp only; show @Ne Nat _ _; omega) (by simpa [S_inj] using hcz) (by
      rw [S_len, S_len]
      have h1 : (l.length + 1) * z.length ≤ (l.length + 1) * 6 := Nat.mul_le_mul_left _ hz
      omega) fun t' k hk => ?_
    refine st F fun h' F' => ?_
    rw [txt_again, replace_S] at F'
    exact wpAny_execs_nil (hq t' h' (k + 1) (Nat.succ_pos _) F')
  · rw [in_S, decide_eq_false hc, Bool.not_false, Bool.not_true, if_neg Bool.false_ne_true]
    refine wpAny_execs_nil (hq t h _ (Nat.succ_pos _) ?_)
    rw [repL_free c z l hc]; exact F
set_option maxHeartbeats 8000000 in
theorem esc_cdata (w : World) (l : List Nat) (t : Tok) (hl : l.length ≤ 100000) : Tl 0 w 42 [.str (S l) t] (fun _ => True) fun _ r _ => ∃ t', r = .str (S (escL 0 l)) t' := by
  have kf : hd.heap_39 = hd.heap_39 ∧ Challenge.rw_pg0133_01 = Challenge.rw_pg0133_01 := by k_fill; exact ⟨rfl, rfl⟩
  refine' tl_of (mm := txt (S l) t) ?ho ?hcd ?hb ?hl ?hmm ?hn ?a ?b ?c ?d ?_
  walk_at "mine enter"
  unfold Bd
  intro p loose mean mg mb dp un gd outer A₀ base g h L s tk Q B F N X T hdp hun htk hp hret
  refine wpAny_execs_cons (wpAny_Try_except ?_)
  refine wpAny_execs_cons (esc_stmt 38 [38, 97, 109, 112, 59] F htk (by omega) rfl rfl (by decide) (by decide) (by rfl) ?_)
  clear htk F
  intro t0 h0 tk0 htk F
  refine wpAny_execs_cons (esc_stmt 60 [38, 108, 116, 59] F htk (Nat.le_trans (chain_bound [(38, [38, 97, 109, 112, 59])] (by decide) l) (by omega)) rfl rfl (by decide) (by decide) (by rfl) ?_)
  clear htk F
  intro t1 h1 tk1 htk F
  refine wpAny_execs_cons (esc_stmt 62 [38, 103, 116, 59] F htk (Nat.le_trans (chain_bound [(38, [38, 97, 109, 112, 59]), (60, [38, 108, 116, 59])] (by decide) l) (by omega)) rfl rfl (by decide) (by decide) (by rfl) ?_)
  clear htk F
  intro t2 h2 tk2 htk F
  refine wpAny_execs_cons (wpAny_Return_some (ld F (by rfl) ?_))
  exact hret _ _ _ (Gr.of_fr F) (out_str (by rw [esc0]))
set_option maxHeartbeats 8000000 in
theorem esc_attrib (w : World) (l : List Nat) (t : Tok) (hl : l.length ≤ 100000) : Tl 0 w 49 [.str (S l) t] (fun _ => True) fun _ r _ => ∃ t', r = .str (S (escL 1 l)) t' := by
  have kf : hd.heap_39 = hd.heap_39 ∧ Challenge.rw_pg0133_01 = Challenge.rw_pg0133_01 := by k_fill; exact ⟨rfl, rfl⟩
  refine' tl_of (mm := txt (S l) t) ?ho ?hcd ?hb ?hl ?hmm ?hn ?a ?b ?c ?d ?_
  walk_at "mine enter"
  unfold Bd
  intro p loose mean mg mb dp un gd outer A₀ base g h L s tk Q B F N X T hdp hun htk hp hret
  refine wpAny_execs_cons (wpAny_Try_except ?_)
  refine wpAny_execs_cons (esc_stmt 38 [38, 97, 109, 112, 59] F htk (by omega) rfl rfl (by decide) (by decide) (by rfl) ?_)
  clear htk F
  intro t0 h0 tk0 htk F
  refine wpAny_execs_cons (esc_stmt 60 [38, 108, 116, 59] F htk (Nat.le_trans (chain_bound [(38, [38, 97, 109, 112, 59])] (by decide) l) (by omega)) rfl rfl (by decide) (by decide) (by rfl) ?_)
  clear htk F
  intro t1 h1 tk1 htk F
  refine wpAny_execs_cons (esc_stmt 62 [38, 103, 116, 59] F htk (Nat.le_trans (chain_bound [(38, [38, 97, 109, 112, 59]), (60, [38, 108, 116, 59])] (by decide) l) (by omega)) rfl rfl (by decide) (by decide) (by rfl) ?_)
  clear htk F
  intro t2 h2 tk2 htk F
  refine wpAny_execs_cons (esc_stmt 34 [38, 113, 117, 111, 116, 59] F htk (Nat.le_trans (chain_bound [(38, [38, 97, 109, 112, 59]), (60, [38, 108, 116, 59]), (62, [38, 103, 116, 59])] (by decide) l) (by omega)) rfl rfl (by decide) (by decide) (by rfl) ?_)
  clear htk F
  intro t3 h3 tk3 htk F
  refine wpAny_execs_cons (esc_stmt 13 [38, 35, 49, 51, 59] F htk (Nat.le_trans (chain_bound [(38, [38, 97, 109, 112, 59]), (60, [38, 108, 116, 59]), (62, [38, 103, 116, 59]), (34, [38, 113, 117, 111, 116, 59])] (by decide) l) (by omega)) rfl rfl (by decide) (by decide) (by rfl) ?_)
  clear htk F
  intro t4 h4 tk4 htk F
  refine wpAny_execs_cons (esc_stmt 10 [38, 35, 49, 48, 59] F htk (Nat.le_trans (chain_bound [(38, [38, 97, 109, 112, 59]), (60, [38, 108, 116, 59]), (62, [38, 103, 116, 59]), (34, [38, 113, 117, 111, 116, 59]), (13, [38, 35, 49, 51, 59])] (by decide) l) (by omega)) rfl rfl (by decide) (by decide) (by rfl) ?_)
  clear htk F
  intro t5 h5 tk5 htk F
  refine wpAny_execs_cons (esc_stmt 9 [38, 35, 48, 57, 59] F htk (Nat.le_trans (chain_bound [(38, [38, 97, 109, 112, 59]), (60, [38, 108, 116, 59]), (62, [38, 103, 116, 59]), (34, [38, 113, 117, 111, 116, 59]), (13, [38, 35, 49, 51, 59]), (10, [38, 35, 49, 48, 59])] (by decide) l) (by omega)) rfl rfl (by decide) (by decide) (by rfl) ?_)
  clear htk F
  intro t6 h6 tk6 htk F
  refine wpAny_execs_cons (wpAny_Return_some (ld F (by rfl) ?_))
  exact hret _ _ _ (Gr.of_fr F) (out_str (by rw [esc1_]))
set_option maxHeartbeats 8000000 in
theorem esc_html (w : World) (l : List Nat) (t : Tok) (hl : l.length ≤ 100000) : Tl 0 w 56 [.str (S l) t] (fun _ => True) fun _ r _ => ∃ t', r = .str (S (escL 2 l)) t' := by
  have kf : hd.heap_39 = hd.heap_39 ∧ Challenge.rw_pg0133_01 = Challenge.rw_pg0133_01 := by k_fill; exact ⟨rfl, rfl⟩
  refine' tl_of (mm := txt (S l) t) ?ho ?hcd ?hb ?hl ?hmm ?hn ?a ?b ?c ?d ?_
  walk_at "mine enter"
  unfold Bd
  intro p loose mean mg mb dp un gd outer A₀ base g h L s tk Q B F N X T hdp hun htk hp hret
  refine wpAny_execs_cons (wpAny_Try_except ?_)
  refine wpAny_execs_cons (esc_stmt 38 [38, 97, 109, 112, 59] F htk (by omega) rfl rfl (by decide) (by decide) (by rfl) ?_)
  clear htk F
  intro t0 h0 tk0 htk F
  refine wpAny_execs_cons (esc_stmt 62 [38, 103, 116, 59] F htk (Nat.le_trans (chain_bound [(38, [38, 97, 109, 112, 59])] (by decide) l) (by omega)) rfl rfl (by decide) (by decide) (by rfl) ?_)
  clear htk F
  intro t1 h1 tk1 htk F
  refine wpAny_execs_cons (esc_stmt 34 [38, 113, 117, 111, 116, 59] F htk (Nat.le_trans (chain_bound [(38, [38, 97, 109, 112, 59]), (62, [38, 103, 116, 59])] (by decide) l) (by omega)) rfl rfl (by decide) (by decide) (by rfl) ?_)
  clear htk F
  intro t2 h2 tk2 htk F
  refine wpAny_execs_cons (wpAny_Return_some (ld F (by rfl) ?_))
  exact hret _ _ _ (Gr.of_fr F) (out_str (by rw [esc2_]))
set_option maxHeartbeats 8000000 in
theorem esc_cdata14 (w : World) (l : List Nat) (t : Tok) (hl : l.length ≤ 100000) : Tl 0 w 63 [.str (S l) t] (fun _ => True) fun _ r _ => ∃ t', r = .str (S (escL 3 l)) t' := by
  have kf : hd.heap_39 = hd.heap_39 ∧ Challenge.rw_pg0133_01 = Challenge.rw_pg0133_01 := by k_fill; exact ⟨rfl, rfl⟩
  refine' tl_of (mm := txt (S l) t) ?ho ?hcd ?hb ?hl ?hmm ?hn ?a ?b ?c ?d ?_
  walk_at "mine enter"
  unfold Bd
  intro p loose mean mg mb dp un gd outer A₀ base g h L s tk Q B F N X T hdp hun htk hp hret
  refine wpAny_execs_cons (wpAny_Try_except ?_)
  refine wpAny_execs_cons (esc_stmt 38 [38, 97, 109, 112, 59] F htk (by omega) rfl rfl (by decide) (by decide) (by rfl) ?_)
  clear htk F
  intro t0 h0 tk0 htk F
  refine wpAny_execs_cons (esc_stmt 60 [38, 108, 116, 59] F htk (Nat.le_trans (chain_bound [(38, [38, 97, 109, 112, 59])] (by decide) l) (by omega)) rfl rfl (by decide) (by decide) (by rfl) ?_)
  clear htk F
  intro t1 h1 tk1 htk F
  refine wpAny_execs_cons (esc_stmt 62 [38, 103, 116, 59] F htk (Nat.le_trans (chain_bound [(38, [38, 97, 109, 112, 59]), (60, [38, 108, 116, 59])] (by decide) l) (by omega)) rfl rfl (by decide) (by decide) (by rfl) ?_)
  clear htk F
  intro t2 h2 tk2 htk F
  refine wpAny_execs_cons (esc_stmt 13 [38, 35, 120, 68, 59] F htk (Nat.le_trans (chain_bound [(38, [38, 97, 109, 112, 59]), (60, [38, 108, 116, 59]), (62, [38, 103, 116, 59])] (by decide) l) (by omega)) rfl rfl (by decide) (by decide) (by rfl) ?_)
  clear htk F
  intro t3 h3 tk3 htk F
  refine wpAny_execs_cons (wpAny_Return_some (ld F (by rfl) ?_))
  exact hret _ _ _ (Gr.of_fr F) (out_str (by rw [esc3_]))
set_option maxHeartbeats 8000000 in
theorem esc_attrib14 (w : World) (l : List Nat) (t : Tok) (hl : l.length ≤ 100000) : Tl 0 w 70 [.str (S l) t] (fun _ => True) fun _ r _ => ∃ t', r = .str (S (escL 4 l)) t' := by
  have kf : hd.heap_39 = hd.heap_39 ∧ Challenge.rw_pg0133_01 = Challenge.rw_pg0133_01 := by k_fill; exact ⟨rfl, rfl⟩
  refine' tl_of (mm := txt (S l) t) ?ho ?hcd ?hb ?hl ?hmm ?hn ?a ?b ?c ?d ?_
  walk_at "mine enter"
  unfold Bd
  intro p loose mean mg mb dp un gd outer A₀ base g h L s tk Q B F N X T hdp hun htk hp hret
  refine wpAny_execs_cons (wpAny_Try_except ?_)
  refine wpAny_execs_cons (esc_stmt 38 [38, 97, 109, 112, 59] F htk (by omega) rfl rfl (by decide) (by decide) (by rfl) ?_)
  clear htk F
  intro t0 h0 tk0 htk F
  refine wpAny_execs_cons (esc_stmt 60 [38, 108, 116, 59] F htk (Nat.le_trans (chain_bound [(38, [38, 97, 109, 112, 59])] (by decide) l) (by omega)) rfl rfl (by decide) (by decide) (by rfl) ?_)
  clear htk F
  intro t1 h1 tk1 htk F
  refine wpAny_execs_cons (esc_stmt 34 [38, 113, 117, 111, 116, 59] F htk (Nat.le_trans (chain_bound [(38, [38, 97, 109, 112, 59]), (60, [38, 108, 116, 59])] (by decide) l) (by omega)) rfl rfl (by decide) (by decide) (by rfl) ?_)
  clear htk F
  intro t2 h2 tk2 htk F
  refine wpAny_execs_cons (esc_stmt 9 [38, 35, 120, 57, 59] F htk (Nat.le_trans (chain_bound [(38, [38, 97, 109, 112, 59]), (60, [38, 108, 116, 59]), (34, [38, 113, 117, 111, 116, 59])] (by decide) l) (by omega)) rfl rfl (by decide) (by decide) (by rfl) ?_)
  clear htk F
  intro t3 h3 tk3 htk F
  refine wpAny_execs_cons (esc_stmt 10 [38, 35, 120, 65, 59] F htk (Nat.le_trans (chain_bound [(38, [38, 97, 109, 112, 59]), (60, [38, 108, 116, 59]), (34, [38, 113, 117, 111, 116, 59]), (9, [38, 35, 120, 57, 59])] (by decide) l) (by omega)) rfl rfl (by decide) (by decide) (by rfl) ?_)
  clear htk F
  intro t4 h4 tk4 htk F
  refine wpAny_execs_cons (esc_stmt 13 [38, 35, 120, 68, 59] F htk (Nat.le_trans (chain_bound [(38, [38, 97, 109, 112, 59]), (60, [38, 108, 116, 59]), (34, [38, 113, 117, 111, 116, 59]), (9, [38, 35, 120, 57, 59]), (10, [38, 35, 120, 65, 59])] (by decide) l) (by omega)) rfl rfl (by decide) (by decide) (by rfl) ?_)
  clear htk F
  intro t5 h5 tk5 htk F
  refine wpAny_execs_cons (wpAny_Return_some (ld F (by rfl) ?_))
  exact hret _ _ _ (Gr.of_fr F) (out_str (by rw [esc4_]))
end TC2
theorem resetFd : True := by
  w_top off
  first | (walk1; done) | trivial
section TFd
open Builtin Builtin.Str
/-- the end of a search, as the model clamps it -/
noncomputable def upTo (len : Nat) (i : Int) : Nat := min (max 0 (if i < 0 then i + len else i)).toNat len
noncomputable def find4 (x y : Str) (i j : Int) : Int := match occurrences x y (fromIndex x.length i) (upTo x.length j) 1 with | k :: _ => (k : Int) | [] => -1
noncomputable def rfind4 (x y : Str) (i j : Int) : Int := match lastOccurrence x y (fromIndex x.length i) (upTo x.length j) with | some k => (k : Int) | none => -1
theorem gives_find4 (x y : Str) (i j : Int) (t u v z : Tok) : Gives («str.find» ⟨[.str x t, .str y u, .int i v, .int j z], []⟩) (.int (find4 x y i j)) := by
  show Gives (match occurrences x y (fromIndex x.length i) (upTo x.length j) 1 with | k :: _ => retInt k | [] => (do rule "str.find.not-found"; retInt (-1))) _
  unfold find4
  cases occurrences x y (fromIndex x.length i) (upTo x.length j) 1 with
  | nil => exact .rule (.of_eq rfl)
  | cons k _ => exact .of_eq rfl
theorem gives_rfind4 (x y : Str) (i j : Int) (t u v z : Tok) : Gives («str.rfind» ⟨[.str x t, .str y u, .int i v, .int j z], []⟩) (.int (rfind4 x y i j)) := by
  show Gives (match lastOccurrence x y (fromIndex x.length i) (upTo x.length j) with | some k => retInt k | none => (do rule "str.rfind.not-found"; retInt (-1))) _
  unfold rfind4
  cases lastOccurrence x y (fromIndex x.length i) (upTo x.length j) with
  | none => exact .rule (.of_eq rfl)
  | some k => exact .of_eq rfl
section
variable {prog : Program} {w : World} {A : Around} {E : Value → Shared → Prop} {s : Shared} {x y : Str} {t u v z : Tok} {i j : Int} {Q : Value → Shared → Prop}
theorem call_find4 (hq : Q (.int (find4 x y i j) s.toks) { s with toks := s.toks + 1 }) : wpAny (model prog w) A (call (.builtin "str.find") [.str x t, .str y u, .int i v, .int j z]) Q E s :=
  call_gives F.slot_str_find (typeIs_str _ _ _) F.entry_str_find (F.args_str_find_4 _ _ _ _) (gives_find4 x y i j t u v z) hq
theorem call_rfind4 (hq : Q (.int (rfind4 x y i j) s.toks) { s with toks := s.toks + 1 }) : wpAny (model prog w) A (call (.builtin "str.rfind") [.str x t, .str y u, .int i v, .int j z]) Q E s :=
  call_gives F.slot_str_rfind (typeIs_str _ _ _) F.entry_str_rfind (F.args_str_rfind_4 _ _ _ _) (gives_rfind4 x y i j t u v z) hq
end
theorem at_one (l : List Nat) (c hi i : Nat) (hh : hi ≤ l.length) : StrLaws.At (S l) (S [c]) hi i ↔ (l.take hi)[i]? = some c := by
  have e := StrLaws.subAt_one (S l) c i
  rw [S_cps] at e
  have e1 : (⟨#[c]⟩ : Str).length = 1 := rfl
  rw [e1, S_len] at e
  show (i + (⟨#[c]⟩ : Str).length ≤ hi ∧ subAt (S l) ⟨#[c]⟩ i = true) ↔ _
  rw [e1]
  constructor
  · rintro ⟨h1, h2⟩
    rw [List.getElem?_take_of_lt (by omega)]
    exact e.mp ⟨by omega, h2⟩
  · intro h
    have hlt : i < hi := by
      apply Classical.byContradiction; intro hn
      rw [List.getElem?_eq_none (by simp; omega)] at h; cases h
    rw [List.getElem?_take_of_lt hlt] at h
    exact ⟨by omega, (e.mpr h).2⟩
theorem takeWhile_free {c : Nat} : ∀ {m : List Nat}, c ∉ m → m.takeWhile (· != c) = m
  | [], _ => rfl
  | k :: r, h => by
    have h1 : k ≠ c := fun e => h (e ▸ .head _)
    rw [List.takeWhile_cons, if_pos (by simpa using h1), takeWhile_free fun q => h (.tail _ q)]
theorem takeWhile_at {c : Nat} : ∀ {m : List Nat} {i : Nat}, m[i]? = some c → (∀ k, k < i → m[k]? ≠ some c) → m.takeWhile (· != c) = m.take i
  | [], i, h, _ => by simp at h
  | k :: r, 0, h, _ => by
    have : k = c := by simpa using h
    rw [List.takeWhile_cons, if_neg (by simpa using this)]; rfl
  | k :: r, i + 1, h, hn => by
    have h1 : k ≠ c := fun e => hn 0 (Nat.succ_pos _) (by simp [e])
    rw [List.takeWhile_cons, if_pos (by simpa using h1), takeWhile_at (m := r) (i := i) (by simpa using h) (fun j hj => by simpa using hn (j + 1) (by omega))]
    rfl
/-- what a search of one sign within the first hi says -/
theorem find_S (l : List Nat) (c hi : Nat) (hh : hi ≤ l.length) :
    (find4 (S l) (S [c]) 0 (hi : Int) = -1 ∧ (l.take hi).takeWhile (· != c) = l.take hi) ∨
    ∃ i : Nat, find4 (S l) (S [c]) 0 (hi : Int) = (i : Int) ∧ i < hi ∧ (l.take hi).takeWhile (· != c) = l.take i := by
  have hu : upTo (S l).length (hi : Int) = hi := by rw [S_len]; unfold upTo; omega
  have hf : fromIndex (S l).length 0 = 0 := by rw [S_len]; unfold fromIndex; simp
  unfold find4
  rw [hu, hf, StrLaws.occ_eq]
  rcases StrLaws.occ_first (S l) (S [c]) hi 1 (Nat.le_refl 1) (List.range' 0 (hi + 1 - 0)) 0 (fun i hi => Nat.zero_le _) with ⟨h0, hn⟩ | ⟨pre, a, post, e, h0, ha, hn⟩
  · left
    rw [h0]
    refine ⟨rfl, takeWhile_free fun hm => ?_⟩
    obtain ⟨i, hi1, hi2⟩ := List.getElem_of_mem hm
    have hlt : i < hi := by simp at hi1; omega
    exact hn i (by rw [List.mem_range'_1]; omega) ((at_one l c hi i hh).mpr (by rw [← hi2]; exact List.getElem?_eq_getElem hi1))
  · right
    have hs := StrLaws.range'_split_from e
    have hA := (at_one l c hi a hh).mp ha
    have hlt : a < hi := by
      apply Classical.byContradiction; intro hn
      rw [List.getElem?_eq_none (by simp; omega)] at hA; cases hA
    refine ⟨a, ?_, hlt, ?_⟩
    · generalize (forIn (List.range' 0 (hi + 1 - 0)) ((#[] : Array Nat), 0) (StrLaws.occBody (S l) (S [c]) hi 1)).run.fst = arr at h0
      have h1 : arr.toList[0]? = some a := by simpa using h0
      cases hL : arr.toList with
      | nil => rw [hL] at h1; cases h1
      | cons b t => rw [hL] at h1; simp at h1; rw [h1]
    · rw [takeWhile_at hA fun k hk hq => hn k (hs.2 k (Nat.zero_le _) hk) ((at_one l c hi k hh).mpr hq), List.take_take]
      congr 1; omega
/-- behind the last dot -/
noncomputable def lastSeg (m : List Nat) : List Nat := (m.reverse.takeWhile (· != 46)).reverse
theorem rtake_at {c : Nat} {m : List Nat} {i : Nat} (h : m[i]? = some c) (hn : ∀ k, i < k → m[k]? ≠ some c) : (m.reverse.takeWhile (· != c)).reverse = m.drop (i + 1) := by
  have hi : i < m.length := by
    apply Classical.byContradiction; intro hq
    rw [List.getElem?_eq_none (by omega)] at h; cases h
  have e : m.reverse.takeWhile (· != c) = m.reverse.take (m.length - 1 - i) := by
    apply takeWhile_at
    · rw [List.getElem?_reverse (by omega)]
      rw [← h]; congr 1; omega
    · intro k hk hq
      rw [List.getElem?_reverse (by omega)] at hq
      exact hn _ (by omega) hq
  rw [e, List.take_reverse, List.reverse_reverse]
  congr 1; omega
theorem rfind_S (l : List Nat) (hi : Nat) (hh : hi ≤ l.length) :
    (rfind4 (S l) (S [46]) 0 (hi : Int) = -1 ∧ lastSeg (l.take hi) = l.take hi) ∨
    ∃ i : Nat, rfind4 (S l) (S [46]) 0 (hi : Int) = (i : Int) ∧ i < hi ∧ lastSeg (l.take hi) = (l.take hi).drop (i + 1) := by
  have hu : upTo (S l).length (hi : Int) = hi := by rw [S_len]; unfold upTo; omega
  have hf : fromIndex (S l).length 0 = 0 := by rw [S_len]; unfold fromIndex; simp
  unfold rfind4
  rw [hu, hf, StrLaws.last_eq]
  have key := StrLaws.last_run (S l) (S [46]) hi (List.range' 0 (hi + 1 - 0)) [] none (fun _ h => nomatch h) (fun _ h => nomatch h) (by simpa using List.pairwise_lt_range' (s := 0) (n := hi + 1 - 0))
  rw [List.nil_append] at key
  cases hr : (forIn (List.range' 0 (hi + 1 - 0)) none (StrLaws.lastBody (S l) (S [46]) hi)).run with
  | none =>
    left
    rw [hr] at key
    refine ⟨rfl, ?_⟩
    unfold lastSeg
    rw [takeWhile_free, List.reverse_reverse]
    rw [List.mem_reverse]
    intro hm
    obtain ⟨i, hi1, hi2⟩ := List.getElem_of_mem hm
    have hlt : i < hi := by simp at hi1; omega
    exact key i (by rw [List.mem_range'_1]; omega) ((at_one l 46 hi i hh).mpr (by rw [← hi2]; exact List.getElem?_eq_getElem hi1))
  | some a =>
    right
    rw [hr] at key
    have hA := (at_one l 46 hi a hh).mp key.1
    have hlt : a < hi := by
      apply Classical.byContradiction; intro hn
      rw [List.getElem?_eq_none (by simp; omega)] at hA; cases hA
    refine ⟨a, rfl, hlt, rtake_at hA fun k hk hq => ?_⟩
    have hk2 : k < hi := by
      apply Classical.byContradiction; intro hn
      rw [List.getElem?_eq_none (by simp; omega)] at hq; cases hq
    exact key.2 k (by rw [List.mem_range'_1]; omega) hk ((at_one l 46 hi k hh).mpr hq)
theorem find2_S (x y : Str) : Txt.find x y = find4 x y 0 (x.length : Int) := by
  unfold Txt.find find4
  have hu : upTo x.length (x.length : Int) = x.length := by unfold upTo; omega
  have hf : fromIndex x.length 0 = 0 := by unfold fromIndex; simp
  rw [hu, hf]
  cases occurrences x y 0 x.length 1 <;> rfl
noncomputable def stripL (l : List Nat) : List Nat := lastSeg ((l.takeWhile (· != 10)).takeWhile (· != 58))
theorem slice_S (l : List Nat) {a b : Nat} (hab : a ≤ b) (hb : b ≤ l.length) : Txt.slice (S l) (some (a : Int)) (some (b : Int)) = S ((l.take b).drop a) := by
  have hb' : b ≤ (S l).length := by rw [S_len]; exact hb
  have e := StrLaws.sliced_plain (S l) hab hb'
  rw [S_cps] at e
  unfold Txt.slice
  split
  · rename_i h
    rw [StrLaws.strSliceIndices_plain hab hb'] at h
    have h' : b - a = l.length := by simpa [S_len] using h
    have h1 : a = 0 := by omega
    have h2 : b = l.length := by omega
    subst h1 h2
    simp
  · rw [e, List.drop_take]
    rfl
theorem strip_end (l : List Nat) (r e b : Int) (hr : (0 ≤ Txt.find (S l) (Str.ofString "\n") ∧ r = Txt.find (S l) (Str.ofString "\n")) ∨ (¬ 0 ≤ Txt.find (S l) (Str.ofString "\n") ∧ r = ((S l).length : Int)))
    (he : (0 ≤ find4 (S l) (Str.ofString ":") 0 r ∧ e = find4 (S l) (Str.ofString ":") 0 r) ∨ (¬ 0 ≤ find4 (S l) (Str.ofString ":") 0 r ∧ e = r))
    (hb : (0 ≤ rfind4 (S l) (Str.ofString ".") 0 e ∧ b = rfind4 (S l) (Str.ofString ".") 0 e + 1) ∨ (¬ 0 ≤ rfind4 (S l) (Str.ofString ".") 0 e ∧ b = 0)) :
    Txt.slice (S l) (some b) (some e) = S (stripL l) := by
  have e10 : Str.ofString "\n" = S [10] := rfl
  have e58 : Str.ofString ":" = S [58] := rfl
  have e46 : Str.ofString "." = S [46] := rfl
  rw [e10, find2_S, S_len] at hr
  rw [e58] at he
  rw [e46] at hb
  have h1 : ∃ rn : Nat, r = (rn : Int) ∧ rn ≤ l.length ∧ l.takeWhile (· != 10) = l.take rn := by
    rcases find_S l 10 l.length (Nat.le_refl _) with ⟨f1, f2⟩ | ⟨i, f1, f2, f3⟩
    · rw [List.take_length] at f2
      rcases hr with ⟨q, _⟩ | ⟨_, q⟩
      · rw [f1] at q; omega
      · exact ⟨l.length, q, Nat.le_refl _, by rw [f2, List.take_length]⟩
    · rw [List.take_length] at f3
      rcases hr with ⟨_, q⟩ | ⟨q, _⟩
      · exact ⟨i, by rw [q, f1], by omega, f3⟩
      · rw [f1] at q; omega
  obtain ⟨rn, hr1, hr2, hr3⟩ := h1
  subst hr1
  have h2 : ∃ en : Nat, e = (en : Int) ∧ en ≤ l.length ∧ (l.takeWhile (· != 10)).takeWhile (· != 58) = l.take en := by
    rw [hr3]
    rcases find_S l 58 rn hr2 with ⟨f1, f2⟩ | ⟨i, f1, f2, f3⟩
    · rcases he with ⟨q, _⟩ | ⟨_, q⟩
      · rw [f1] at q; omega
      · exact ⟨rn, q, hr2, f2⟩
    · rcases he with ⟨_, q⟩ | ⟨q, _⟩
      · exact ⟨i, by rw [q, f1], by omega, f3⟩
      · rw [f1] at q; omega
  obtain ⟨en, he1, he2, he3⟩ := h2
  subst he1
  rw [stripL, he3]
  rcases rfind_S l en he2 with ⟨f1, f2⟩ | ⟨i, f1, f2, f3⟩
  · rcases hb with ⟨q, _⟩ | ⟨_, q⟩
    · rw [f1] at q; omega
    · rw [q, f2]
      have := slice_S l (Nat.zero_le en) he2
      simpa using this
  · rcases hb with ⟨_, q⟩ | ⟨q, _⟩
    · rw [q, f1, f3]
      have := slice_S l (a := i + 1) (b := en) (by omega) he2
      simpa using this
    · rw [f1] at q; omega
theorem lastSeg_len (m : List Nat) : (lastSeg m).length ≤ m.length := by
  unfold lastSeg
  rw [List.length_reverse]
  exact Nat.le_trans (List.takeWhile_sublist _).length_le (by simp)
theorem stripL_len (l : List Nat) : (stripL l).length ≤ l.length :=
  Nat.le_trans (lastSeg_len _) (Nat.le_trans (List.takeWhile_sublist _).length_le (List.takeWhile_sublist _).length_le)
/-- the end's white signs struck -/
noncomputable def rst (p : Nat → Bool) (l : List Nat) : List Nat := (l.reverse.dropWhile p).reverse
theorem rst_take (p : Nat → Bool) (l : List Nat) : rst p l = l.take (l.length - (l.reverse.takeWhile p).length) := by
  have h : l.reverse.takeWhile p ++ l.reverse.dropWhile p = l.reverse := List.takeWhile_append_dropWhile
  have h2 : l = rst p l ++ (l.reverse.takeWhile p).reverse := by
    have := congrArg List.reverse h
    rw [List.reverse_append, List.reverse_reverse] at this
    exact this.symm
  have h3 : l.length = (rst p l).length + (l.reverse.takeWhile p).length := by
    have := congrArg List.length h2
    simpa using this
  have h4 : (rst p l).length = l.length - (l.reverse.takeWhile p).length := by omega
  rw [← h4]
  conv => rhs; arg 2; rw [h2]
  simp
theorem rst_len (p : Nat → Bool) (l : List Nat) : (rst p l).length ≤ l.length := by
  rw [rst_take, List.length_take]; omega
theorem rstrip_S (l : List Nat) : Txt.rstrip (S l) = S (rst Unicode.isSpace l) := by
  unfold Txt.rstrip
  rw [PyProof.Rows.stripBy_eq, S_of (strSub _ _ _), StrLaws.strSub_toList, rst_take]
  simp [stripLo, stripHi, S_len, S_cps]
noncomputable def commentL (l : List Nat) : List Nat := if rst Unicode.isSpace l = [] then [35] else 35 :: 32 :: rst Unicode.isSpace l
theorem commentL_len (l : List Nat) : (commentL l).length ≤ l.length + 2 := by
  have := rst_len Unicode.isSpace l
  unfold commentL; split <;> simp <;> omega
end TFd
theorem resetC3 : True := by
  w_top off
  first | (walk1; done) | trivial
section TC3
local macro_rules | `(tactic| walk_at "call builtin:str.find") => `(tactic| refine call_find4 ?_)
local macro_rules | `(tactic| walk_at "call builtin:str.rfind") => `(tactic| refine call_rfind4 ?_)
set_option maxHeartbeats 8000000 in
theorem strip_details (w : World) (l : List Nat) (t : Tok) (hx : l.length ≤ 1000000) : Tl 0 w 28 [.str (S l) t] (fun _ => True) fun _ r _ => ∃ t', r = .str (S (stripL l)) t' := by
  have kf : hd.heap_39 = hd.heap_39 ∧ Challenge.rw_pg0133_01 = Challenge.rw_pg0133_01 := by k_fill; exact ⟨rfl, rfl⟩
  refine' tl_of (mm := fun y => if y = Str.ofString "msg" then some (.str (S l) t) else none) ?ho ?hcd ?hb ?hl ?hmm ?hn ?a ?b ?c ?d ?_
  walk_at "mine enter"
  unfold Bd
  intro p loose mean mg mb dp un gd outer A₀ base g h L s tk Q B F N X T hdp hun htk hp hret
  have hxl : (S l).length ≤ 1000000 := by rw [S_len]; exact hx
  k_steps
  · exact hret _ _ _ (Gr.of_fr (by assumption)) (out_str (strip_end l _ _ _ (by assumption) (Or.inl ⟨by assumption, rfl⟩) (Or.inl ⟨by assumption, rfl⟩)))
  · exact hret _ _ _ (Gr.of_fr (by assumption)) (out_str (strip_end l _ _ _ (by assumption) (Or.inl ⟨by assumption, rfl⟩) (Or.inr ⟨by assumption, rfl⟩)))
  · exact hret _ _ _ (Gr.of_fr (by assumption)) (out_str (strip_end l _ _ _ (by assumption) (Or.inr ⟨by assumption, rfl⟩) (Or.inl ⟨by assumption, rfl⟩)))
  · exact hret _ _ _ (Gr.of_fr (by assumption)) (out_str (strip_end l _ _ _ (by assumption) (Or.inr ⟨by assumption, rfl⟩) (Or.inr ⟨by assumption, rfl⟩)))
theorem comment_S (l : List Nat) : commentS (S l) = S (commentL l) := by
  have e : Str.ofString "" = S [] := rfl
  have e2 : Str.ofString "# " = S [35, 32] := rfl
  have e1 : Str.ofString "#" = S [35] := rfl
  unfold commentS commentL
  rw [rstrip_S, e, e2, e1, S_add]
  by_cases h : rst Unicode.isSpace l = []
  · rw [if_pos h, if_pos (by rw [h])]
  · rw [if_neg h, if_neg (by rw [S_inj]; exact h)]; rfl
theorem comment_line' (w : World) (l : List Nat) (t : Tok) (hl : l.length ≤ 100000) : Tl 0 w 21 [.str (S l) t] (fun _ => True) fun _ r _ => ∃ t', r = .str (S (commentL l)) t' := by
  rw [← comment_S]
  exact comment_line w (S l) t (by rw [S_len]; omega)
/-- what the hands do -/
noncomputable def handL (h : Int) (l : List Nat) : List Nat :=
  if h = 0 then escL 0 l else if h = 1 then escL 1 l else if h = 2 then escL 2 l else if h = 3 then escL 3 l else if h = 4 then escL 4 l else if h = 5 then commentL l else stripL l
theorem handL_len (h : Int) (l : List Nat) : (handL h l).length ≤ 6 * l.length + 2 := by
  unfold handL
  have := escL_len 0 l
  have := escL_len 1 l
  have := escL_len 2 l
  have := escL_len 3 l
  have := escL_len 4 l
  have := commentL_len l
  have := stripL_len l
  (repeat' split) <;> omega
theorem lookup_if2 {y : Str} {k1 k2 : Str} {v1 v2 : Value} : List.lookup y [(k1, v1), (k2, v2)] = if y = k1 then some v1 else if y = k2 then some v2 else none := by
  rw [lookup_if, lookup_if]; rfl
/-- a contract at its use -/
theorem tl_use {w : World} {f : Addr} {vs : List Value} {P : Heap → Prop} {Out : Heap → Value → Heap → Prop} {k : Nat} (C : Tl k w f vs P Out) {p : Program} {loose : List Str} {mean : ExcName → Option Value} {mg mb : Str → Option Value} {dp un : Nat} {gd : Option (List Code)} {env : Env} {outer : List Env} {A₀ : Around} {base h₀ : Heap} {L : Addr} {m : Str → Option Value} {s : Shared} {Q E : Value → Shared → Prop}
    (B : Below A₀ base outer h₀) (F : Fr h₀ L s.heap m) (X : (hd.heap_39 w.params).In h₀) (T : Top p loose mean mg mb h₀) (hf : env.frame = some L) (hke : env.scope.kind = .function) (hd : dp + k + 1 < recursionLimit) (hu : un + 10 * k + 110 < cLine) (hp : P s.heap)
    (ret : ∀ r h' tk', Gr s.heap h' → Out s.heap r h' → Q r { s with heap := h', toks := tk' }) :
    wpAny (model Challenge.rw_pg0133_01.row.prog w) (AA dp un gd env outer) (call (.ref f) vs) Q E s := C _ _ _ _ _ _ _ _ _ _ _ _ _ _ _ _ _ _ B F X T hf hke hd hu hp ret
end TC3
theorem resetC4 : True := by
  w_top off
  first | (walk1; done) | trivial
local macro_rules | `(tactic| walk_at "mine enter") => `(tactic| ((case ho | hcd => k_is); (case hb | a | b | c => rfl); (case hl => exact locs rfl); (case hn => exact Nat.succ_pos _); (case d => decide)))
local macro_rules | `(tactic| walk_at "mine room") => `(tactic| ((try case k2 => k_asm); (case k1 | k3 | k5 => k_asm); (case kf | kk => rfl); (case kd | ku => omega)))
local macro_rules | `(tactic| walk_at "mine ret") => `(tactic| (rintro r9 h9 tk9 G9 ⟨t9, e9⟩; subst e9; have F9 := Gr.fr G9 (by k_asm); have N9 := Gr.news G9 (by k_asm); try dsimp only))
section TC4
local macro_rules | `(tactic| walk_at "call ref") => `(tactic| (k_here; refine' tl_use ?kt ?k1 ?k2 ?k3 ?k5 ?kf ?kk ?kd ?ku ?kp ?_; (case kt => first | exact esc_cdata _ _ _ (by assumption) | exact esc_attrib _ _ _ (by assumption) | exact esc_html _ _ _ (by assumption) | exact esc_cdata14 _ _ _ (by assumption) | exact esc_attrib14 _ _ _ (by assumption) | exact comment_line' _ _ _ (by assumption) | exact strip_details _ _ _ (by omega)); (case kp => trivial); (walk_at "mine room"); (walk_at "mine ret")))
set_option maxHeartbeats 8000000 in
theorem law_hand (w : World) (hh : Int) (th : Tok) (l : List Nat) (t : Tok) (hl : l.length ≤ 100000) : Tl 1 w 84 [.int hh th, .str (S l) t] (fun _ => True) fun _ r _ => ∃ t', r = .str (S (handL hh l)) t' := by
  have kf : hd.heap_39 = hd.heap_39 ∧ Challenge.rw_pg0133_01 = Challenge.rw_pg0133_01 := by k_fill; exact ⟨rfl, rfl⟩
  refine' tl_of (mm := fun y => if y = Str.ofString "text" then some (.str (S l) t) else if y = Str.ofString "hand" then some (.int hh th) else none) ?ho ?hcd ?hb ?hl ?hmm ?hn ?a ?b ?c ?d ?_
  walk_at "mine enter"
  case hmm => exact fun y => lookup_if2
  unfold Bd
  intro p loose mean mg mb dp un gd outer A₀ base g h L s tk Q B F N X T hdp hun htk hp hret
  k_steps
  all_goals exact hret _ _ _ (Gr.of_fr (by assumption)) (out_str (by simp [handL, *]))
end TC4
theorem resetC5 : True := by
  w_top off
  first | (walk1; done) | trivial
section TC5
local macro_rules | `(tactic| walk_at "call ref") => `(tactic| (k_here; (refine' tl_use (law_hand _ _ _ _ _ ?kl) ?k1 ?k2 ?k3 ?k5 ?kf ?kk ?kd ?ku trivial ?_; (walk_at "mine room"); (case kl => assumption); (walk_at "mine ret"))))
/-- a row of hands, one after the other -/
noncomputable def runL (ns : List Int) (l : List Nat) : List Nat := ns.foldl (fun l h => handL h l) l
theorem runL_snoc (ns : List Int) (n : Int) (l : List Nat) : runL (ns ++ [n]) l = handL n (runL ns l) := by simp [runL]
theorem runL_len (l : List Nat) : ∀ (ns : List Int), (runL ns l).length ≤ 8 ^ ns.length * (l.length + 1) := by
  intro ns
  obtain ⟨ms, rfl⟩ : ∃ ms : List Int, ns = ms.reverse := ⟨ns.reverse, by simp⟩
  induction ms with
  | nil => simp [runL]
  | cons n ms ih =>
    rw [List.reverse_cons, runL_snoc]
    generalize ms.reverse = ns at ih
    have := handL_len n (runL ns l)
    rw [List.length_append, List.length_singleton, Nat.pow_succ]
    have h1 : 1 ≤ 8 ^ ns.length * (l.length + 1) := Nat.mul_pos (Nat.pow_pos (by decide)) (Nat.succ_pos _)
    calc _ ≤ 6 * (runL ns l).length + 2 := this
      _ ≤ 6 * (8 ^ ns.length * (l.length + 1)) + 2 * (8 ^ ns.length * (l.length + 1)) := by omega
      _ = _ := by rw [← Nat.add_mul]; rw [Nat.mul_comm (8 ^ ns.length) 8, Nat.mul_assoc]
theorem runL_fits {ns : List Int} {l : List Nat} (i : Nat) (hn : i ≤ 4) (hl : l.length ≤ 16) : (runL (ns.take i) l).length ≤ 100000 := by
  have h := runL_len l (ns.take i)
  have h2 : 8 ^ (ns.take i).length ≤ 8 ^ 4 := Nat.pow_le_pow_right (by decide) (by simp; omega)
  have h3 : 8 ^ (ns.take i).length * (l.length + 1) ≤ 8 ^ 4 * 17 := Nat.mul_le_mul h2 (by omega)
  omega
theorem fr_put {h₀ h : Heap} {L : Addr} {m : Str → Option Value} {x k : Str} {u v : Value} (F : Fr h₀ L h (fun y => if y = x then some u else m y)) (hk : m k = some v) (hx : k ≠ x) : Fr h₀ L h (fun y => if y = x then some u else if y = k then some v else m y) := by
  have e : (fun y => if y = x then some u else if y = k then some v else m y) = (fun y => if y = x then some u else m y) := by
    funext y
    by_cases h1 : y = x
    · simp [h1]
    · by_cases h2 : y = k
      · subst h2; simp [hx, hk]
      · simp [h1, h2]
  rw [e]; exact F
theorem inv_end0 {h₀ h' : Heap} {L : Addr} {m' : Str → Option Value} {own : List (Addr × Obj)} {J : (Str → Option Value) → List (Addr × Obj) → Prop} {s₁ : Shared} {tk : Nat} (F : Fr h₀ L h' m') (N : News h₀ L h' own) (hJ : J m' []) : InvEndG h₀ L J own s₁ { s₁ with heap := h', toks := tk } :=
  ⟨_, _, _, _, [], rfl, F, N, (fun _ h => nomatch h), (fun _ h => h), (fun _ _ _ h => nomatch h), hJ⟩
theorem take_snoc {α : Type} {l : List α} {i : Nat} {a : α} (h : l[i]? = some a) : l.take (i + 1) = l.take i ++ [a] := by simp [List.take_add_one, h]
set_option maxHeartbeats 8000000 in
theorem law_run (w : World) (r : Addr) (vs : List Value) (ns : List Int) (hI : IntsAre vs ns) (l : List Nat) (t : Tok) (hn : ns.length ≤ 5) (hl : l.length ≤ 16) : Tl 2 w 91 [.ref r, .str (S l) t] (fun h => h.IsList r vs.toArray) fun _ r _ => ∃ t', r = .str (S (runL ns l)) t' := by
  have kf : hd.heap_39 = hd.heap_39 ∧ Challenge.rw_pg0133_01 = Challenge.rw_pg0133_01 := by k_fill; exact ⟨rfl, rfl⟩
  refine' tl_of (mm := fun y => if y = Str.ofString "text" then some (.str (S l) t) else if y = Str.ofString "row" then some (.ref r) else none) ?ho ?hcd ?hb ?hl ?hmm ?hn ?a ?b ?c ?d ?_
  walk_at "mine enter"
  case hmm => exact fun y => lookup_if2
  unfold Bd
  intro p loose mean mg mb dp un gd outer A₀ base g h L s tk Q B F N X T hdp hun htk hp hret
  iterate 5 walk1
  refine For_invV g (by rfl) (by rfl) ?_
  refine nameX_L (by assumption) (by rfl) ?_
  refine iter_invG (fun i m nx => nx = [] ∧ ∃ t', m (Str.ofString "work") = some (.str (S (runL (ns.take i) l)) t')) rfl hp hI (by assumption) (by assumption) ⟨rfl, t, rfl⟩ ?_ ?_
  · rintro i n t1 m₁ nx h1 tk1 own hin _ hoff ⟨rfl, t2, hm⟩ F₁ N₁
    have hi5 : i < ns.length := by
      apply Classical.byContradiction; intro hq
      rw [List.getElem?_eq_none (by omega)] at hin; cases hin
    have hfit : (runL (ns.take i) l).length ≤ 100000 := runL_fits i (by omega) hl
    have F₂ := fr_put F₁ hm (by decide)
    clear F₁
    k_steps
    refine inv_end0 (by assumption) (by assumption) ⟨rfl, ?_⟩
    rw [take_snoc hin, runL_snoc]
    exact ⟨_, rfl⟩
  · rintro m₁ nx h1 tk1 ⟨rfl, t2, hm⟩ F₁ N₁
    rw [List.take_length] at hm
    exact wpAny_execs_cons (wpAny_Return_some (nameX_L F₁ hm (hret _ _ _ (Gr.of_fr F₁) ⟨_, rfl⟩)))
end TC5
theorem resetC6 : True := by
  w_top off
  first | (walk1; done) | trivial
section TC6
noncomputable def NmOk : Option (List Nat) → Option Value → Prop
  | none, none => True
  | some n, some v => ∃ t, v = .str (S n) t
  | _, _ => False
theorem NmOk.isSome {a : Option (List Nat)} {b : Option Value} (h : NmOk a b) : b.isSome = a.isSome := by
  cases a <;> cases b <;> first | rfl | exact h.elim
theorem NmOk.some {a : Option (List Nat)} {b : Option Value} (h : NmOk a b) (ha : a.isSome = true) : ∃ t, b = Option.some (Value.str (S (a.getD [])) t) := by
  cases a with
  | none => cases ha
  | some n =>
    cases b with
    | none => exact h.elim
    | some v => obtain ⟨t, rfl⟩ := h; exact ⟨t, rfl⟩
noncomputable abbrev skd (w : World) := strKind Challenge.rw_pg0133_01.row.prog w
/-- the five tables of references -/
noncomputable def NamesAt (w : World) (h : Heap) (a : Addr) : Prop :=
  ∃ ds : List Addr, ds.length = 5 ∧ h.IsList a (ds.map Value.ref).toArray ∧ ∀ i d, ds[i]? = some d → (d == sysModules) = false ∧ ∃ f, h.MapOf (PySem.strKind Challenge.rw_pg0133_01.row.prog w) d f ∧ ∀ c, NmOk (nm i c) (f (S [c]))
theorem mapOf_keeps {prog : Program} {w : World} {h h' : Heap} {d : Addr} {f : Str → Option Value} (hs : h.StaysIn h') (x : h.MapOf (PySem.strKind prog w) d f) : h'.MapOf (PySem.strKind prog w) d f := by
  obtain ⟨o, es, ep, ho, r⟩ := x
  exact ⟨o, es, ep, hs _ _ ho, r⟩
theorem isList_keeps {h h' : Heap} {a : Addr} {vs : Array Value} (hs : h.StaysIn h') (x : h.IsList a vs) : h'.IsList a vs := by
  obtain ⟨o, ho, r⟩ := x
  exact ⟨o, hs _ _ ho, r⟩
theorem NamesAt.keeps {w : World} {h h' : Heap} {a : Addr} (x : NamesAt w h a) (hs : h.StaysIn h') : NamesAt w h' a := by
  obtain ⟨ds, h5, hl, hd⟩ := x
  refine ⟨ds, h5, isList_keeps hs hl, fun i d hi => ?_⟩
  obtain ⟨h1, f, h2, h3⟩ := hd i d hi
  exact ⟨h1, f, mapOf_keeps hs h2, h3⟩
section
variable {w : World} {A : Around} {E : Value → Shared → Prop} {s : Shared} {a d : Addr} {n : Int} {u t : Tok} {Q : Value → Shared → Prop} {value slice : Expr} {f : Str → Option Value} {i c : Nat}
theorem names_item (NA : NamesAt w s.heap a) (h0 : 0 ≤ n) (h5 : n < 5)
    (hs : subscripted slice false (.ref a) (.int n u) = operate [.ref a, .int n u] (getItem (.ref a) (.int n u)))
    (hQ : ∀ d f, (d == sysModules) = false → s.heap.MapOf (PySem.strKind Challenge.rw_pg0133_01.row.prog w) d f → (∀ c, NmOk (nm n.toNat c) (f (S [c]))) → Q (.ref d) s) :
    wpAny (model Challenge.rw_pg0133_01.row.prog w) A (subscriptTail value slice (.ref a) (.int n u)) Q E s := by
  obtain ⟨ds, hl5, hl, hd⟩ := NA
  have hlt : n.toNat < ds.length := by omega
  have hx := List.getElem?_eq_getElem hlt
  obtain ⟨h1, f, h2, h3⟩ := hd _ _ hx
  exact tail_any hl.typeIs slot_list_getitem.lookup (wpAny_getItem_list hl h0 (by omega) (by simp [hx]) (hQ _ f h1 h2 h3)) hs
theorem names_in (h1 : (d == sysModules) = false) (h2 : s.heap.MapOf (PySem.strKind Challenge.rw_pg0133_01.row.prog w) d f) (h3 : ∀ c, NmOk (nm i c) (f (S [c])))
    (hQ : Q (.bool (nm i c).isSome) { s with toks := s.toks + 1 }) : wpAny (model Challenge.rw_pg0133_01.row.prog w) A (compareOp .In (.str (S [c]) t) (.ref d)) Q E s :=
  wpAny_in_of (strKind_is _ w (S [c]) t) h1 h2 (by rw [(h3 c).isSome]; exact hQ)
theorem names_get (h2 : s.heap.MapOf (PySem.strKind Challenge.rw_pg0133_01.row.prog w) d f) (h3 : ∀ c, NmOk (nm i c) (f (S [c]))) (hc : (nm i c).isSome = true)
    (hs : subscripted slice false (.ref d) (.str (S [c]) t) = operate [.ref d, .str (S [c]) t] (getItem (.ref d) (.str (S [c]) t)))
    (hQ : ∀ t', Q (.str (S ((nm i c).getD [])) t') { s with toks := s.toks + 1 }) : wpAny (model Challenge.rw_pg0133_01.row.prog w) A (subscriptTail value slice (.ref d) (.str (S [c]) t)) Q E s := by
  obtain ⟨t', e⟩ := (h3 c).some hc
  exact tail_any h2.typeIs slot_dict_getitem.lookup (wpAny_getItem_of (strKind_is _ w (S [c]) t) h2 e (hQ t')) hs
end
local macro_rules | `(tactic| walk_at "subscriptTail Name Name ref int") => `(tactic| (k_here; refine' names_item ?k1 ?k2 ?k3 ?k4 ?_; (case k1 => exact NamesAt.keeps (by assumption) (Fr.keep (by k_asm))); (case k2 => assumption); (case k3 => assumption); (case k4 => with_unfolding_all rfl); intro d9 f9 hd9 hM9 hN9))
local macro_rules | `(tactic| walk_at "compareOp In str ref") => `(tactic| (k_here; (refine names_in (by assumption) (by assumption) (by assumption) ?_)))
local macro_rules | `(tactic| walk_at "subscriptTail") => `(tactic| (k_here; (with_reducible show wpAny _ _ (subscriptTail _ _ (Value.ref _) (Value.str _ _)) _ _ _); refine' names_get ?k1 ?k2 ?k3 ?k4 ?_; (case k1 => assumption); (case k2 => assumption); (case k3 => assumption); (case k4 => with_unfolding_all rfl); intro t9))
/-- a sign's reference, told hand by hand -/
noncomputable def codeStep (c : Nat) (told : List Nat) (n : Int) : List Nat :=
  if n < 5 then (if told = [c] then (match nm n.toNat c with | some z => 38 :: z | none => told) else [38, 97, 109, 112, 59] ++ told.drop 1) else told
noncomputable def codeL (ns : List Int) (c : Nat) : List Nat := ns.foldl (codeStep c) [c]
theorem codeL_snoc (ns : List Int) (n : Int) (c : Nat) : codeL (ns ++ [n]) c = codeStep c (codeL ns c) n := by simp [codeL]
theorem nm_len (i c : Nat) : ((nm i c).getD []).length ≤ 5 := by
  cases hz : nm i c with
  | none => exact Nat.zero_le _
  | some z => exact nm_all (P := fun p => p.2.length ≤ 5) (by decide) hz
theorem codeStep_len (c : Nat) (told : List Nat) (n : Int) (h : 1 ≤ told.length) : (codeStep c told n).length ≤ told.length + 5 ∧ 1 ≤ (codeStep c told n).length := by
  unfold codeStep
  have := nm_len n.toNat c
  split
  · split
    · split
      · rename_i z e; rw [e] at this; simp at this; simp; omega
      · exact ⟨by omega, h⟩
    · simp
  · exact ⟨by omega, h⟩
theorem codeL_len (c : Nat) : ∀ (ns : List Int), (codeL ns c).length ≤ 5 * ns.length + 1 ∧ 1 ≤ (codeL ns c).length := by
  intro ns
  obtain ⟨ms, rfl⟩ : ∃ ms : List Int, ns = ms.reverse := ⟨ns.reverse, by simp⟩
  induction ms with
  | nil => simp [codeL]
  | cons n ms ih =>
    rw [List.reverse_cons, codeL_snoc]
    have := codeStep_len c _ n ih.2
    simp at ih this ⊢
    omega
theorem out_some {x y : Str} {t : Tok} (h : y = x) : ∃ t', some (Value.str y t) = some (Value.str x t') := ⟨t, by rw [h]⟩
theorem slice1_S (l : List Nat) (h : 1 ≤ l.length) : Txt.slice (S l) (some 1) none = S (l.drop 1) := by
  have e : Builtin.Str.strSliceIndices (some 1) none 1 (S l).length = Builtin.Str.strSliceIndices (some ((1 : Nat) : Int)) (some ((S l).length : Int)) 1 (S l).length := by
    have h1 : ¬ (((S l).length : Int) < 0) := by omega
    simp only [Builtin.Str.strSliceIndices]
    congr 1
    split <;> omega
  have q := slice_S l (a := 1) (b := l.length) h (Nat.le_refl _)
  rw [List.take_length] at q
  rw [← q]
  unfold Txt.slice
  rw [e, S_len]
theorem step_a {c : Nat} {x : List Nat} {n : Int} (h5 : n < 5) (hx : (S x != S [c]) = true) (h1 : 1 ≤ x.length) : Str.ofString "&amp;" ++ Txt.slice (S x) (some 1) none = S (codeStep c x n) := by
  have hne : x ≠ [c] := by intro e; subst e; simp at hx
  rw [slice1_S x h1, codeStep, if_pos h5, if_neg hne]
  exact S_add [38, 97, 109, 112, 59] _
theorem step_b {c : Nat} {x : List Nat} {n : Int} (h5 : n < 5) (hx : (S x != S [c]) = false) (hn : (nm n.toNat c).isSome = true) : Str.ofString "&" ++ S ((nm n.toNat c).getD []) = S (codeStep c x n) := by
  have he : x = [c] := by have : S x = S [c] := by simpa using hx
                          exact S_inj.mp this
  obtain ⟨z, hz⟩ := Option.isSome_iff_exists.mp hn
  rw [codeStep, if_pos h5, if_pos he, hz]
  exact S_add [38] z
theorem step_c {c : Nat} {x : List Nat} {n : Int} (h5 : n < 5) (hx : (S x != S [c]) = false) (hn : (nm n.toNat c).isSome = false) : S x = S (codeStep c x n) := by
  have he : x = [c] := by have : S x = S [c] := by simpa using hx
                          exact S_inj.mp this
  have hz : nm n.toNat c = none := by simpa using hn
  rw [codeStep, if_pos h5, if_pos he, hz]
theorem step_d {c : Nat} {x : List Nat} {n : Int} (h5 : ¬ n < 5) : S x = S (codeStep c x n) := by rw [codeStep, if_neg h5]
theorem lookup_if3 {y : Str} {k1 k2 k3 : Str} {v1 v2 v3 : Value} : List.lookup y [(k1, v1), (k2, v2), (k3, v3)] = if y = k1 then some v1 else if y = k2 then some v2 else if y = k3 then some v3 else none := by
  rw [lookup_if, lookup_if, lookup_if]; rfl
theorem fr_put' {h₀ h : Heap} {L : Addr} {m : Str → Option Value} {k : Str} {v : Value} (F : Fr h₀ L h m) (hk : m k = some v) : Fr h₀ L h (fun y => if y = k then some v else m y) := by
  have e : (fun y => if y = k then some v else m y) = m := by
    funext y
    by_cases h2 : y = k
    · subst h2; simp [hk]
    · simp [h2]
  rw [e]; exact F
set_option maxHeartbeats 8000000 in
theorem law_code (w : World) (a r : Addr) (vs : List Value) (ns : List Int) (hI : IntsAre vs ns) (c : Nat) (t : Tok) (hn : ns.length ≤ 5) (hb : ∀ n ∈ ns, 0 ≤ n) : Tl 0 w 98 [.ref a, .ref r, .str (S [c]) t] (fun h => NamesAt w h a ∧ h.IsList r vs.toArray) fun _ r _ => ∃ t', r = .str (S (codeL ns c)) t' := by
  have kf : hd.heap_39 = hd.heap_39 ∧ Challenge.rw_pg0133_01 = Challenge.rw_pg0133_01 := by k_fill; exact ⟨rfl, rfl⟩
  refine' tl_of (mm := fun y => if y = Str.ofString "sign" then some (.str (S [c]) t) else if y = Str.ofString "row" then some (.ref r) else if y = Str.ofString "names" then some (.ref a) else none) ?ho ?hcd ?hb ?hl ?hmm ?hn ?a ?b ?c ?d ?_
  walk_at "mine enter"
  case hmm => exact fun y => lookup_if3
  unfold Bd
  intro p loose mean mg mb dp un gd outer A₀ base g h L s tk Q B F N X T hdp hun htk hp hret
  obtain ⟨hNA, hp⟩ := hp
  iterate 5 walk1
  refine For_invV g (by rfl) (by rfl) ?_
  refine nameX_L (by assumption) (by rfl) ?_
  refine iter_invG (fun i m nx => nx = [] ∧ m (Str.ofString "names") = some (.ref a) ∧ m (Str.ofString "sign") = some (.str (S [c]) t) ∧ ∃ t', m (Str.ofString "told") = some (.str (S (codeL (ns.take i) c)) t')) rfl hp hI (by assumption) (by assumption) ⟨rfl, rfl, rfl, t, rfl⟩ ?_ ?_
  · rintro i n t1 m₁ nx h1 tk1 own hin _ hoff ⟨rfl, hm1, hm2, t2, hm⟩ F₁ N₁
    have hn0 : 0 ≤ n := hb n (List.mem_of_getElem? hin)
    have hi5 : i < ns.length := by
      apply Classical.byContradiction; intro hq
      rw [List.getElem?_eq_none (by omega)] at hin; cases hin
    have hfit : (S (codeL (ns.take i) c)).length ≤ 100 := by
      have := (codeL_len c (ns.take i)).1
      simp at this
      rw [S_len]; omega
    have hnl : (S ((nm n.toNat c).getD [])).length ≤ 5 := by rw [S_len]; exact nm_len _ _
    have F₂ := fr_put F₁ hm (by decide)
    have F₃ := fr_put' F₂ (k := Str.ofString "names") (by rw [if_neg (by decide), if_neg (by decide)]; exact hm1)
    have F₄ := fr_put' F₃ (k := Str.ofString "sign") (by rw [if_neg (by decide), if_neg (by decide), if_neg (by decide)]; exact hm2)
    clear F₁ F₂ F₃
    k_steps
    · refine inv_end0 (by assumption) (by assumption) ⟨rfl, rfl, rfl, ?_⟩
      rw [take_snoc hin, codeL_snoc]
      exact out_some (step_a (by assumption) (by assumption) (codeL_len c _).2)
    · refine inv_end0 (by assumption) (by assumption) ⟨rfl, rfl, rfl, ?_⟩
      rw [take_snoc hin, codeL_snoc]
      exact out_some (step_b (by assumption) (by assumption) (by assumption))
    · refine inv_end0 (by assumption) (by assumption) ⟨rfl, rfl, rfl, ?_⟩
      rw [take_snoc hin, codeL_snoc]
      exact out_some (step_c (by assumption) (by assumption) (by assumption))
    · refine inv_end0 (by assumption) (by assumption) ⟨rfl, rfl, rfl, ?_⟩
      rw [take_snoc hin, codeL_snoc]
      exact out_some (step_d (by assumption))
  · rintro m₁ nx h1 tk1 ⟨rfl, _, _, t2, hm⟩ F₁ N₁
    rw [List.take_length] at hm
    exact wpAny_execs_cons (wpAny_Return_some (nameX_L F₁ hm (hret _ _ _ (Gr.of_fr F₁) ⟨_, rfl⟩)))
theorem gr_ns {h h' : Heap} {C : Addr} {m : Str → Option Value} (G : Gr h h') (N : h.Ns C m) : h'.Ns C m := N.at' fun o e => G.st _ o e
end TC6
theorem resetBaseC : True := by
  w_top off
  first | (walk1; done) | trivial
section TBaseC
/-- what the walk of a def's body is to show, where the def has cells -/
noncomputable def BdC (k : Nat) (w : World) (f : Addr) (qual : Str) (body : List Stmt) (scope : Scope) (cdv : Value) (mm cm : Str → Option Value) (P : Heap → Prop) (Out : Heap → Value → Heap → Prop) : Prop :=
  ∀ (p : Program) (loose : List Str) (mean : ExcName → Option Value) (mg mb : Str → Option Value) (dp un : Nat) (gd : Option (List Code)) (outer : List Env) (A₀ : Around) (base g h : Heap) (L : Addr) (s : Shared) (tk : Nat) (cells : List (Addr × Obj)) (Q : Flow → Shared → Prop),
    Below A₀ base outer g → Fr g L h mm → News g L h cells → CellsAre cm (cellsFrom (L + 1) scope.names []) cells →
    (hd.heap_39 w.params).In g → Top p loose mean mg mb g → dp + k < recursionLimit → un + 10 * k + 100 < cLine → P g →
    (∀ r h' tk', Gr g h' → Out g r h' → Q (.ret r) { s with heap := h', toks := tk' }) →
    wpAny (model Challenge.rw_pg0133_01.row.prog w) (ktrTop dp un gd qual scope L f cdv (cellsFrom (L + 1) scope.names []) outer) (execs body (envOfC qual scope L f cdv)) Q (fun _ _ => False) { s with heap := h, toks := tk }

theorem tl_ofC {k : Nat} {w : World} {f : Addr} {vs : List Value} {P : Heap → Prop} {Out : Heap → Value → Heap → Prop} {name qual : Str} {params : Arguments} {body : List Stmt} {scope : Scope} {dV kV doc pm cdv ct oc : Value} {an od : Option Addr} {osl : Array (Option Value)} {binds : List (Str × Value)} {mm cm : Str → Option Value}
    (ho : (hd.heap_39 w.params).lookup f = some ⟨oc, od, .func (fnOf name qual params body scope dV kV doc pm an cdv ct), osl⟩) (hcd : codeIn (hd.heap_39 w.params) cdv qual = true)
    (hbind : bindArgs (fnOf name qual params body scope dV kV doc pm an cdv ct) ⟨vs, []⟩ = pure binds)
    (hkind : (binds.all fun y => scope.names.lookup y.1 == some .local || scope.names.lookup y.1 == some .cell) = true)
    (hmm : ∀ L y, bindL (envOfC qual scope L f cdv).kindOf binds (fun _ => none) y = mm y) (hcm : ∀ L y, bindC (envOfC qual scope L f cdv).kindOf binds (fun _ => none) y = cm y)
    (hnd : ((cellsFrom 0 scope.names []).map (·.1)).Nodup)
    (hco : scope.isCoroutine = false) (hgen : scope.isGenerator = false) (hk : scope.kind = .function)
    (h : BdC k w f qual body scope cdv mm cm P Out) : Tl k w f vs P Out := by
  intro p loose mean mg mb dp un gd env outer A₀ base h₀ L m s Q E B F X T hf hke hdp hun hp hret
  have B₁ : Below (AA dp un gd env outer) base (env :: outer) s.heap := ⟨rfl, fun b o e => F.keep b o (B.stays b o e), (pushX B F hf hke).frames⟩
  refine wpAny_call ?_
  refine codeAny_call_function (fd := fnOf name qual params body scope dV kV doc pm an cdv ct) (show dp < recursionLimit by omega) ((X.keeps F.keep) _ _ ho) rfl hco hgen rfl (codeRec_of (X.keeps F.keep) hcd) ?_
  rw [hbind]
  refine wpAny_pure ?_
  refine wpAny_newFunctionEnv_cells hk (kindsX hkind _) fun env' he s' x => ?_
  subst he
  refine ⟨(T.nolimit.keeps F.keep).keeps x.toInCall.keep, codeAny_func ?_⟩
  obtain ⟨h₁, tk, rfl, _⟩ := x.done
  have hk₁ := x.toInCall.keep
  obtain ⟨cells, NC, Y⟩ := Cl.news (h₀ := s.heap) (Nat.le_refl _) fun n c hm => ⟨x.cell n c (lookup_of_mem_nodup (cellsFrom_names scope.names 0 (s.heap.objs.size + 1) [] [] rfl ▸ hnd) hm), x.above n c hm⟩
  have e1 : bindL (envOfC qual scope s.heap.objs.size f cdv).kindOf binds (fun _ => none) = mm := funext (hmm _)
  have e2 : bindC (envOfC qual scope s.heap.objs.size f cdv).kindOf binds (fun _ => none) = cm := funext (hcm _)
  have Y' := e2 ▸ Y
  have n' := e1 ▸ x.toInCall.ns
  exact wpAny_mono (h p loose mean mg mb (dp + 1) (un + 3) gd (env :: outer) _ base s.heap h₁ s.heap.objs.size s tk cells _ B₁ ⟨n', hk₁, Nat.le_refl _⟩ NC Y' (X.keeps F.keep) (T.keeps F.keep) (by omega) (by omega) hp hret) (fun _ _ x => x) (fun _ _ x => x.elim)
end TBaseC
theorem resetCm : True := by
  w_top off
  first | (walk1; done) | trivial
section TCm
/-- a comprehension without tests, an own word on each item's value and heap -/
noncomputable def Turns (prog : Program) (w : World) (A : Around) (env : Env) (scope : Scope) (cl : List (Str × Addr)) (x : Str) (elt : Expr) (wr : List Addr) (P : Nat → Value → Prop) (F : Heap → Value → Value → Prop) (s₂ : Shared) : Prop :=
  ∀ (C : Nat) i v h₃ tk₃ m₃, s₂.heap.objs.size < C → C < h₃.objs.size → P i v → h₃.Ns C m₃ → m₃ x = some v → (∀ b o, b ∉ wr → s₂.heap.get? b = some o → h₃.get? b = some o) →
    wpAny (model prog w) A (eval elt (compEnvC scope cl C env)) (fun y s₄ => ∃ h₄ tk₄, s₄ = { s₂ with heap := h₄, toks := tk₄ } ∧ F h₄ v y ∧ h₃.StaysIn h₄) (fun _ _ => False) { s₂ with heap := h₃, toks := tk₃ }

theorem paired_mono {α β : Type} {F G : α → β → Prop} {l₁ : List α} {l₂ : List β} (q : Paired F l₁ l₂) (h : ∀ a b, F a b → G a b) : Paired G l₁ l₂ := by
  induction q with
  | nil => exact .nil
  | cons a _ ih => exact .cons (h _ _ a) ih
theorem comp_loop {prog : Program} {w : World} {A : Around} {R : Result → Shared → Prop} {s₂ s : Shared} {elt iter : Expr} {x : Str} {px : Pos} {scope : Scope} {pos : Pos} {I D C : Nat} {fp wr : List Addr} {n : Nat} {P : Nat → Value → Prop} {St : Nat → Heap → Prop}
    {env : Env} {cl : List (Str × Addr)} {m : Str → Option Value} (W : Walks prog w A I fp wr n P St) (F : Heap → Value → Value → Prop)
    (hx : scope.names.lookup x = some .local) (hkind : scope.kind = .function)
    (hD : D = s₂.heap.objs.size) (hC : C = s₂.heap.objs.size + 1) (hfp : ∀ b : Nat, b ∈ fp → b < s₂.heap.objs.size)
    (hF : ∀ h h' v y, F h v y → (∀ (b : Nat) o, s₂.heap.objs.size + 2 ≤ b → h.get? b = some o → h'.get? b = some o) → F h' v y)
    (hs : ∃ h tk, s = { s₂ with heap := h, toks := tk })
    (hst : St 0 s.heap) (hacc : s.heap.PlainList D #[]) (hn : s.heap.Ns C m) (hk0 : ∀ b o, s₂.heap.get? b = some o → s.heap.get? b = some o)
    (helt : Turns prog w A env scope cl x elt wr P F s₂)
    (hR : ∀ h' tk m' ys (vs : List Value), h'.Ns C m' → h'.PlainList D ys → vs.length = n → (∀ j v, vs[j]? = some v → P j v) → Paired (F h') vs ys.toList →
      (∀ b o, b ∉ wr → s₂.heap.get? b = some o → h'.get? b = some o) → R (.ok .next) { s₂ with heap := h', toks := tk })
    (hsz : n ≤ sizeLine) :
    codeAny (model prog w) A (.compLoop (.ListComp elt [⟨.Name x px, iter, [], 0⟩] scope pos) 0 (.ref I) (.ref D) (compEnvC scope cl C env)) R s := by
  have hDC : D ≠ C := by omega
  have hCw : C ∉ wr := fun h => absurd (hfp _ (W.sub _ h)) (by omega)
  have hDw : D ∉ wr := fun h => absurd (hfp _ (W.sub _ h)) (by omega)
  have hCf : C ∉ fp := fun h => absurd (hfp _ h) (by omega)
  have hDf : D ∉ fp := fun h => absurd (hfp _ h) (by omega)
  have old : ∀ (b : Nat) o, s₂.heap.get? b = some o → b ≠ D ∧ b ≠ C := fun b o e => by have h9 : b < s₂.heap.objs.size := Heap.lt_size e; omega
  obtain ⟨h0, tk0, rfl⟩ := hs
  refine codeAny_compLoop_tests
    (fun k s' => ∃ h' tk m' ys, ∃ vs : List Value, s' = { s₂ with heap := h', toks := tk } ∧ St vs.length h' ∧ h'.PlainList D ys ∧ h'.Ns C m' ∧ (∀ j v, vs[j]? = some v → P j v) ∧
      Paired (F h') vs ys.toList ∧ vs.length ≤ n ∧ k = n + 1 - vs.length ∧ (∀ b o, b ∉ wr → s₂.heap.get? b = some o → h'.get? b = some o)) ?_ (n + 1)
    ⟨h0, tk0, m, #[], [], rfl, hst, hacc, hn, by simp, by simpa using Paired.nil, Nat.zero_le _, rfl, fun b o _ e => hk0 b o e⟩
  rintro k s' ⟨H, tk, m', ys, vs, rfl, hst', hacc', hn', hP, hPF, hi, rfl, hk⟩
  have pm : ∀ {h h' : Heap} {l₁ l₂ : List Value}, Paired (F h) l₁ l₂ → (∀ (b : Nat) o, s₂.heap.objs.size + 2 ≤ b → h.get? b = some o → h'.get? b = some o) → Paired (F h') l₁ l₂ := by
    intro h h' l₁ l₂ q hq
    induction q with
    | nil => exact .nil
    | cons a _ ih => exact .cons (hF _ _ _ _ a hq) ih
  by_cases hlt : vs.length < n
  · refine W.item vs.length _ _ _ hlt hst' fun v h₁ tk₁ hPv hst₁ hk₁ => ?_
    refine wpAny_assign_Name (wpAny_storeName_local (env := compEnvC scope cl C env) (lookup_relabel_local hx) (hn'.at' fun o e => hk₁ _ o hCw e) (fun h₂ hn₂ hs₂ => ?_) (by simp [compEnvC, relabel, hkind]))
    have up₂ : ∀ b o, b ≠ C → b ∉ wr → H.get? b = some o → h₂.get? b = some o := fun b o hbC hbf e => hs₂.extBut b o hbC (hk₁ b o hbf e)
    have hst₂ : St (vs.length + 1) h₂ := W.frame _ _ _ hst₁ fun b hb o e => hs₂.extBut b o (fun h => hCf ((show b = C from h) ▸ hb)) e
    have hCs : C < h₂.objs.size := by obtain ⟨o, _, _, ho, _⟩ := hn₂; exact Heap.lt_size ho
    have k₂ : ∀ b o, b ∉ wr → s₂.heap.get? b = some o → h₂.get? b = some o := fun b o hbf e => up₂ b o (old b o e).2 hbf (hk b o hbf e)
    refine wpAny_pure ?_
    show wpAny _ _ _ _ _ _
    refine wpAny_mono (helt C vs.length v h₂ _ _ (by omega) hCs hPv hn₂ (by simp) k₂) (fun y s₄ h₄ => ?_) fun _ _ e => e.elim
    obtain ⟨h₄, tk₄, rfl, hFy, hk₄⟩ := h₄
    have hys : ys.size ≤ sizeLine := by
      have e1 := hPF.length
      have e4 : ys.toList.length = ys.size := by simp
      omega
    have hacc₂ : h₂.PlainList D ys := hacc'.at fun o e => up₂ D o hDC hDw e
    refine wpAny_list_append_plain (hsz := hys) (hacc₂.at fun o e => hk₄ _ o e) fun h₅ hl₅ hs₅ => ?_
    have up₅ : ∀ b o, b ≠ D → h₄.get? b = some o → h₅.get? b = some o := fun b o hb e => hs₅.extBut b o hb e
    refine ⟨n + 1 - (vs.length + 1), by omega, h₅, tk₄, _, ys.push y, vs ++ [v], rfl, ?_, hl₅, (hn₂.keeps hk₄).sameBut hs₅ (Ne.symm hDC), ?_, ?_, (by rw [List.length_append, List.length_singleton]; exact hlt), (by rw [List.length_append, List.length_singleton]), ?_⟩
    · have := W.frame _ _ h₅ hst₂ fun b hb o e => up₅ b o (fun h => hDf (h ▸ hb)) (hk₄ b o e)
      simpa using this
    · intro j u hj
      rcases Nat.lt_trichotomy j vs.length with h | h | h
      · exact hP j u (by rwa [List.getElem?_append_left h] at hj)
      · subst h; simp at hj; subst hj; exact hPv
      · have hnone : (vs ++ [v])[j]? = none := List.getElem?_eq_none (by rw [List.length_append, List.length_singleton]; omega)
        rw [hnone] at hj; cases hj
    · have q1 : Paired (F h₅) vs ys.toList := pm hPF fun b o hb e => up₅ b o (by show @Ne Nat _ _; omega) (hk₄ b o (up₂ b o (by show @Ne Nat _ _; omega) (fun h => absurd (hfp b (W.sub _ h)) (by omega)) e))
      have q2 : F h₅ v y := hF _ _ _ _ hFy fun b o hb e => up₅ b o (by show @Ne Nat _ _; omega) e
      simpa using Paired.snoc q1 q2
    · exact fun b o hbf e => up₅ b o (old b o e).1 (hk₄ b o (k₂ b o hbf e))
  · have hin : vs.length = n := by omega
    refine W.done _ _ _ (hin ▸ hst') fun h₁ tk₁ hk₁ => ?_
    exact hR h₁ tk₁ m' ys vs (hn'.at' fun o e => hk₁ _ o hCw e) (hacc'.at fun o e => hk₁ _ o hDw e) hin hP (pm hPF fun b o hb e => hk₁ b o (fun h => absurd (hfp b (W.sub _ h)) (by omega)) e) fun b o hbf e => hk₁ b o hbf (hk b o hbf e)

/-- what a comprehension asks of its source and its turns -/
inductive CompH (prog : Program) (w : World) (A : Around) (env : Env) (scope : Scope) (cl : List (Str × Addr)) (x : Str) (elt : Expr) (Q : Value → Shared → Prop) (it : Value) (s₂ : Shared) : Prop where
  | mk (I : Nat) (fp wr : List Addr) (n : Nat) (P : Nat → Value → Prop) (St : Nat → Heap → Prop) (F : Heap → Value → Value → Prop) (e : it = .ref I) (W : Walks prog w A I fp wr n P St) (hsz : n ≤ sizeLine) (hst : St 0 s₂.heap) (hfp : ∀ b : Nat, b ∈ fp → b < s₂.heap.objs.size)
    (hF : ∀ h h' v y, F h v y → (∀ (b : Nat) o, s₂.heap.objs.size + 2 ≤ b → h.get? b = some o → h'.get? b = some o) → F h' v y)
    (helt : Turns prog w A env scope cl x elt wr P F s₂)
    (hQ : ∀ (D : Nat) h' tk ys (vs : List Value), s₂.heap.objs.size ≤ D → h'.PlainList D ys → vs.length = n → (∀ j v, vs[j]? = some v → P j v) → Paired (F h') vs ys.toList → s₂.heap.objs.size ≤ h'.objs.size →
        (∀ b o, b ∉ wr → s₂.heap.get? b = some o → h'.get? b = some o) → Q (.ref D) { s₂ with heap := h', toks := tk }) : CompH prog w A env scope cl x elt Q it s₂
theorem comp_rule {prog : Program} {w : World} {A : Around} {E : Value → Shared → Prop} {s : Shared} {elt iter : Expr} {x : Str} {px : Pos} {scope : Scope} {cl : List (Str × Addr)} {pos : Pos} {env : Env} {Q : Value → Shared → Prop}
    (hclos : closureFor scope env = pure cl) (hcell : ∀ y ∈ scope.names, y.2 ≠ .cell) (hkind : scope.kind = .function)
    (hnames : ∀ y ∈ scope.names, y.2 = .local → scope.names.lookup y.1 = some .local) (hx : scope.names.lookup x = some .local)
    (h : wpAny (model prog w) A (eval iter env) (fun xv s₁ => wpAny (model prog w) A (pyIter xv) (CompH prog w A env scope cl x elt Q) E s₁) E s)
    (hs : ∀ x, foldedSetIterable iter env x = pure x := by intro _; rfl) :
    wpAny (model prog w) A (eval (.ListComp elt [⟨.Name x px, iter, [], 0⟩] scope pos) env) Q E s := by
  rw [eval_ListComp]
  refine wpAny_comprehension_free (use := none) rfl hs hclos hkind hnames (wpAny_mono h (fun xv s₁ h₁ => wpAny_mono h₁ (fun it s₂ h₂ => ?_) fun _ _ e => e) fun _ _ e => e)
  obtain ⟨I, fp, wr, n, P, St, F, rfl, W, hsz, hst, hfp, hF, helt, hQ⟩ := h₂
  refine wpAny_newObj_type (wpAny_newFunctionEnv hcell (by intro y hy; simp at hy) (fun h₁ hns₁ hsb₁ => ?_) hkind)
  dsimp only at hns₁ hsb₁ ⊢
  generalize hH2 : s₂.heap.push { cls := .type "list", dict := none, data := .seq ([] : List Value).toArray } = H2 at hns₁ hsb₁ ⊢
  have hC : H2.objs.size = s₂.heap.objs.size + 1 := by rw [← hH2, Heap.size_push]
  have hC' : s₂.heap.objs.size ≤ H2.objs.size := by omega
  have old : ∀ b o, s₂.heap.get? b = some o → h₁.get? b = some o := fun b o e => hsb₁.extBut b o (Nat.ne_of_lt (Nat.lt_of_lt_of_le (Heap.lt_size e) hC')) (Heap.get?_push_of_some _ (hH2 ▸ Heap.get?_push_of_some _ e))
  have hacc : h₁.PlainList s₂.heap.objs.size #[] := ⟨_, hsb₁.extBut _ _ (by show @Ne Nat _ _; omega) (Heap.get?_push_of_some _ (hH2 ▸ Heap.get?_push_size _ rfl))⟩
  have hst₁ : St 0 h₁ := W.frame _ _ _ hst fun b _ o e => old b o e
  have fresh : ∀ a, s₂.heap.objs.size ≤ a → s₂.heap.get? a = none := fun a ha => by
    cases e : s₂.heap.get? a with
    | none => rfl
    | some o' => exact absurd (Heap.lt_size e) (Nat.not_lt.mpr ha)
  have loop : ∀ s₃ : Shared, s₃ = { s₂ with heap := h₁, toks := s₂.toks + ([] : List (Str × Value)).length } →
      codeAny (model prog w) A (.compLoop (.ListComp elt [⟨.Name x px, iter, [], 0⟩] scope pos) 0 (.ref I) (.ref s₂.heap.objs.size) (compEnvC scope cl H2.objs.size env))
        (compPost (model prog w) A E none Q (.ref s₂.heap.objs.size) H2.objs.size) s₃ := by
    rintro s₃ rfl
    refine comp_loop (s₂ := s₂) W F hx hkind rfl hC hfp hF ⟨_, _, rfl⟩ hst₁ hacc hns₁ old helt (fun h' tk m' ys vs hn ha hlen hP hPF hk => ?_) hsz
    refine ⟨m', hn, fun h'' hs'' => ?_⟩
    have hD' : h''.PlainList s₂.heap.objs.size ys := ha.at fun o e => hs''.extBut _ o (by show @Ne Nat _ _; omega) e
    refine hQ _ h'' tk ys vs (Nat.le_refl _) hD' hlen hP ?_ ?_ fun b o hbf e => hs''.extBut b o (Nat.ne_of_lt (Nat.lt_of_lt_of_le (Heap.lt_size e) hC')) (hk b o hbf e)
    · exact paired_mono hPF fun v y a => hF _ _ _ _ a fun b o hb e => hs''.extBut b o (by show @Ne Nat _ _; omega) e
    · obtain ⟨q, hq⟩ := hD'; exact Nat.le_of_lt (Heap.lt_size hq)
  exact codeAny_compStart_list (loop _ rfl) (W.self 0 _ _ _ hst₁ (loop _ rfl))
end TCm
theorem resetC7 : True := by
  w_top off
  first | (walk1; done) | trivial
local macro_rules | `(tactic| walk_at "mine enterC") => `(tactic| ((case ho | hcd => k_is); (case hb | hl | a | b | c => rfl); (case hmm | hcm => exact fun _ _ => rfl); (case hn => decide +kernel)))
local macro_rules | `(tactic| walk_at "mine ret") => `(tactic| (rintro r9 h9 tk9 G9 ⟨t9, e9⟩; subst e9; have F9 := Gr.fr G9 (by k_asm); have N9 := Gr.news G9 (by k_asm); try (have s9 := gr_ns G9 (by assumption)); try dsimp only))
section TC7
local macro_rules | `(tactic| walk_at "call ref") => `(tactic| (k_here; (refine' tl_use (law_code _ _ _ _ _ ?kI _ _ ?kl ?kb) ?k1 ?k2 ?k3 ?k5 ?kf ?kk ?kd ?ku ?kp ?_; (walk_at "mine room"); (case kI => assumption); (case kl => assumption); (case kb => assumption); (case kp => exact ⟨NamesAt.keeps (by assumption) (Fr.keep (by k_asm)), isList_keeps (Fr.keep (by k_asm)) (by assumption)⟩); (walk_at "mine ret"))))
theorem fr_mem {h₀ h h' : Heap} {L : Addr} {m : Str → Option Value} {wr : List Addr} (F : Fr h₀ L h m) (hw : ∀ b ∈ wr, h.get? b = none) (hk : ∀ b o, b ∉ wr → h.get? b = some o → h'.get? b = some o) : Fr h₀ L h' m := by
  have hk' : ∀ b o, h.get? b = some o → h'.get? b = some o := fun b o e => hk b o (fun q => by rw [hw b q] at e; cases e) e
  obtain ⟨o, a1, a2, ho, r⟩ := F.ns
  exact ⟨⟨o, a1, a2, hk' _ _ ho, r⟩, fun b o e => hk' b o (F.keep b o e), F.above⟩
theorem keep_mem {h h₂ h' : Heap} {wr : List Addr} (hp : h.StaysIn h₂) (hw : ∀ b ∈ wr, h.get? b = none) (hk : ∀ b o, b ∉ wr → h₂.get? b = some o → h'.get? b = some o) : h.StaysIn h' :=
  fun b o e => hk b o (fun q => by rw [hw b q] at e; cases e) (hp b o e)
theorem get_size_none (h : Heap) : h.get? h.objs.size = none := by
  cases e : h.get? h.objs.size with
  | none => rfl
  | some o => exact absurd (Heap.lt_size e) (Nat.lt_irrefl _)
theorem push_stays (h : Heap) (o : Obj) : h.StaysIn (h.push o) := fun _ _ e => Heap.get?_push_of_some _ e
theorem stays_fr {h h' h₀ : Heap} {L : Addr} {m : Str → Option Value} (hs : h.StaysIn h') (F : Fr h₀ L h m) : Fr h₀ L h' m := by
  obtain ⟨o, a1, a2, ho, r⟩ := F.ns
  exact ⟨⟨o, a1, a2, hs _ _ ho, r⟩, fun b o e => hs b o (F.keep b o e), F.above⟩
theorem stays_news {h h' h₀ : Heap} {L : Addr} {news : List (Addr × Obj)} (hs : h.StaysIn h') (N : News h₀ L h news) : News h₀ L h' news :=
  fun p hp => ⟨hs _ _ (N p hp).1, (N p hp).2⟩
/-- what a call gives back is data, and all of it is new -/
noncomputable def OutD (d : Dat) (g : Heap) (r : Value) (h' : Heap) : Prop := ∃ tl : List (Addr × Obj), (∀ p ∈ tl, h'.get? p.1 = some p.2 ∧ g.objs.size ≤ p.1) ∧ DatIn tl r d
theorem paired_get {α β : Type} {F : α → β → Prop} : ∀ {l₁ : List α} {l₂ : List β}, Paired F l₁ l₂ → l₁.length = l₂.length ∧ ∀ (j : Nat) a b, l₁[j]? = some a → l₂[j]? = some b → F a b
  | _, _, .nil => ⟨rfl, fun j a b h => by simp at h⟩
  | _, _, .cons h r => by
    obtain ⟨h1, h2⟩ := paired_get r
    refine ⟨by simp [h1], fun j a b ha hb => ?_⟩
    cases j with
    | zero => simp at ha hb; subst ha hb; exact h
    | succ j => exact h2 j a b (by simpa using ha) (by simpa using hb)
theorem paired_of {α β : Type} {F : α → β → Prop} : ∀ {l₁ : List α} {l₂ : List β}, l₁.length = l₂.length → (∀ (j : Nat) a b, l₁[j]? = some a → l₂[j]? = some b → F a b) → Paired F l₁ l₂
  | [], [], _, _ => .nil
  | [], _ :: _, h, _ => by simp at h
  | _ :: _, [], h, _ => by simp at h
  | a :: r, b :: t, h, k => .cons (k 0 a b rfl rfl) (paired_of (by simpa using h) fun j x y hx hy => k (j + 1) x y (by simpa using hx) (by simpa using hy))
theorem paired_signs {l : List Nat} {vs ys : List Value} {R : Nat → Value → Prop} (hlen : vs.length = l.length) (hP : ∀ j v, vs[j]? = some v → SignAt (S l) j v) (hF : Paired (fun v y => ∃ c, (∃ u, v = .str (S [c]) u) ∧ R c y) vs ys) : Paired R l ys := by
  obtain ⟨h1, h2⟩ := paired_get hF
  refine paired_of (by omega) fun j c y hc hy => ?_
  have hj : j < vs.length := by
    have : j < l.length := by
      apply Classical.byContradiction; intro hq
      rw [List.getElem?_eq_none (by omega)] at hc; cases hc
    omega
  have hv := List.getElem?_eq_getElem hj
  obtain ⟨c', ⟨u, hu⟩, hR⟩ := h2 j _ y hv hy
  obtain ⟨c2, u2, e1, e2⟩ := hP j _ hv
  have e3 : c' = c2 := by
    rw [e2] at hu
    injection hu with hu _
    have := congrArg (fun x : Str => x.cps.toList) hu
    simpa [S] using this.symm
  have e4 : c2 = c := by
    have : l[j]? = some c2 := by simpa [S] using e1
    rw [hc] at this; exact (Option.some.inj this).symm
  rw [← e4, ← e3]; exact hR
theorem paired_map {l : List Nat} {ys : List Value} {f : Nat → Value} (h : Paired (fun c y => y = f c) l ys) : ys = l.map f := by
  generalize e : ys = zs at h
  induction h generalizing ys with
  | nil => rfl
  | cons a _ ih => rw [List.map_cons, a, ih rfl]
theorem beq_S (a b : List Nat) : (S a == S b) = decide (a = b) := by
  by_cases h : a = b
  · subst h; simp
  · rw [decide_eq_false h]
    have : S a ≠ S b := fun q => h (S_inj.mp q)
    simpa using this
set_option maxHeartbeats 8000000 in
theorem law_bare (w : World) (a r : Addr) (vs : List Value) (ns : List Int) (hI : IntsAre vs ns) (hn : ns.length ≤ 5) (hb : ∀ n ∈ ns, 0 ≤ n) : Tl 1 w 108 [.ref a, .ref r] (fun h => NamesAt w h a ∧ h.IsList r vs.toArray)
    (OutD (.list [.bool (decide (codeL ns 13 = [13])), .bool (decide (codeL ns 9 = [9]))])) := by
  have kf : hd.heap_39 = hd.heap_39 ∧ Challenge.rw_pg0133_01 = Challenge.rw_pg0133_01 := by k_fill; exact ⟨rfl, rfl⟩
  refine' tl_ofC (mm := fun _ => none) (cm := fun y => if y = Str.ofString "row" then some (.ref r) else if y = Str.ofString "names" then some (.ref a) else none) ?ho ?hcd ?hb ?hl ?hmm ?hcm ?hn ?a ?b ?c ?_
  walk_at "mine enterC"
  unfold BdC
  intro p loose mean mg mb dp un gd outer A₀ base g h L s tk cells Q B F N Y X T hdp hun hp hret
  obtain ⟨hNA, hp⟩ := hp
  k_cells Y
  refine wpAny_execs_cons (wpAny_Return_some ?_)
  refine comp_rule (by rfl) (by decide) rfl (by decide) (by decide) ?_
  refine wpAny_Constant_str ?_
  refine wpAny_pyIter_str fun ob St hW hst => ?_
  refine ⟨_, _, _, _, _, _, fun _ v y => ∃ c, (∃ u, v = .str (S [c]) u) ∧ y = .bool (decide (codeL ns c = [c])), rfl, hW _ rfl, by decide, hst, ?_, fun _ _ _ _ q _ => q, ?_, ?_⟩
  · intro b hb; rw [List.mem_singleton.mp hb]; simp [Heap.size_push]
  · intro C i v h₃ tk₃ m₃ hC1 hC2 hPv hNs hm hk
    obtain ⟨c, u, hc, rfl⟩ := hPv
    have hst3 : h.StaysIn h₃ := keep_mem (push_stays h ob) (fun b hb => by rw [List.mem_singleton.mp hb]; exact get_size_none h) hk
    have F3 := stays_fr hst3 F
    have N3 := stays_news hst3 N
    clear hk
    dsimp only
    k_steps
    · exact congrArg Value.bool (beq_S _ [c])
    · exact Gr.st (by assumption)
  · intro D h' tk' ys vs' hD hl hlen hP hPF hsz hk
    have hst3 : h.StaysIn h' := keep_mem (push_stays h ob) (fun b hb => by rw [List.mem_singleton.mp hb]; exact get_size_none h) hk
    have e := paired_map (paired_signs (l := [13, 9]) (R := fun c y => y = .bool (decide (codeL ns c = [c]))) hlen hP hPF)
    obtain ⟨n, hl⟩ := hl
    refine hret _ _ _ (Gr.of_fr (stays_fr hst3 F)) ⟨[(D, listOf ys n)], ?_, ?_⟩
    · intro p hp
      rw [List.mem_singleton.mp hp]
      exact ⟨hl, Nat.le_trans (Gr.of_fr F).sz (Nat.le_trans (Nat.le_of_lt (by show h.objs.size < (h.push ob).objs.size; rw [Heap.size_push]; exact Nat.lt_succ_self _)) hD)⟩
    · have e2 : ys = (ys.toList).toArray := by simp
      refine DatIn.list (vs := ys.toList) (n := n) (by simp) ?_
      rw [e]
      exact .cons (.bool _) (.cons (.bool _) .nil)
end TC7
theorem resetIl : True := by
  w_top off
  first | (walk1; done) | trivial
section TIl
section
variable {prog : Program} {w : World} {A : Around} {E : Value → Shared → Prop} {s : Shared} {l : Addr} {vs : List Value} {ns : List Int} {k : Int} {t : Tok} {Q : Value → Shared → Prop} {n : Nat}
theorem il_isList (ho : s.heap.get? l = some (listOf vs.toArray n)) : s.heap.IsList l vs.toArray := ⟨_, ho, rfl, n, rfl⟩
theorem il_method {name : Str} {id : String} {pl : Sem Bool} {Q : Value × List Value → Shared → Prop} {its : Array Value} (ho : s.heap.get? l = some (listOf its n)) (slot : Slot "list" name id) (hty : typeOf (.builtin id) = pure (.type "method_descriptor"))
    (h : Q (.builtin id, [.ref l]) s) : wpAny (model prog w) A (getMethod (.ref l) name pl) Q E s :=
  getMethod_builtin ⟨_, ho, rfl⟩ PySem.F.plainAttrs_list slot hty (fun a e => by cases e; exact ⟨_, ho, rfl⟩) h
theorem il_at (hi : IntsAre vs ns) : ∀ (j : Nat) (h1 : j < vs.length) (h2 : j < ns.length), isInt k vs[j] = (ns[j] == k) := by
  induction hi with
  | nil => intro j h1; simp at h1
  | cons n t _ ih =>
    intro j h1 h2
    cases j with
    | zero => rfl
    | succ j => exact ih j (by simpa using h1) (by simpa using h2)
theorem il_index (ho : s.heap.get? l = some (listOf vs.toArray n)) (hi : IntsAre vs ns) (hs : ns.length ≤ 100) (hk : k ∈ ns)
    (h : Q (.int (ns.idxOf k : Nat) s.toks) { s with toks := s.toks + 1 }) : wpAny (model prog w) A (call (.builtin "list.index") [.ref l, .int k t]) Q E s := by
  have hlen := hi.length
  have hj : ns.idxOf k < ns.length := List.idxOf_lt_length_iff.mpr hk
  refine call_meets PySem.F.slot_list_index ⟨_, ho, rfl⟩ PySem.F.entry_list_index (PySem.F.args_list_index_2 _ _)
    (SeqAt.list_indexAt l vs.toArray n none #[] (.int k t) (isInt k) (ns.idxOf k) (by simpa [hlen] using hj) (by omega) ?_ ?_) ⟨ho, fun y hy => (eq_isInt k t hi y (by simpa using hy)).at _ _, h⟩
  · show isInt k vs[ns.idxOf k] = true
    rw [il_at hi _ (by omega) hj]
    simpa using List.getElem_idxOf hj
  · intro j hjs hlt
    show isInt k vs[j] = false
    rw [il_at hi j (by simpa using hjs) (by omega)]
    have h1 := List.not_of_lt_findIdx (p := (· == k)) (xs := ns) (i := j) hlt
    simpa using h1
theorem il_in (hl : s.heap.IsList l vs.toArray) (hi : IntsAre vs ns) (h : Q (.bool (decide (k ∈ ns))) s) : wpAny (model prog w) A (compareOp .In (.int k t) (.ref l)) Q E s := by
  refine SeqInW.in_listW (isInt k) (fun y hy => eq_isInt k t hi y (by simpa using hy)) hl ?_
  have e : vs.toArray.any (isInt k) = decide (k ∈ ns) := by
    rw [← Array.any_toList]
    show vs.any (isInt k) = _
    rw [any_isInt k hi]
    by_cases hk : k ∈ ns
    · rw [decide_eq_true hk]; simpa using hk
    · rw [decide_eq_false hk]; simp; exact fun x hx e => hk (e ▸ hx)
  rw [e]; exact h
end
theorem ints_filter {p : Value → Bool} {q : Int → Bool} (hpq : ∀ n t, p (.int n t) = q n) : ∀ {vs : List Value} {ns : List Int}, IntsAre vs ns → IntsAre (vs.filter p) (ns.filter q)
  | _, _, .nil => .nil
  | _, _, .cons n t h => by
    rw [List.filter_cons, List.filter_cons, hpq]
    split
    · exact .cons n t (ints_filter hpq h)
    · exact ints_filter hpq h
theorem paired_eq {vs : List Value} : ∀ {us : List Value}, Paired (fun v y => y = v) us vs → vs = us
  | _, .nil => rfl
  | _, .cons a r => by rw [a, paired_eq r]
theorem ints_get {vs : List Value} {ns : List Int} (hi : IntsAre vs ns) : ∀ (j : Nat) (v : Value), vs[j]? = some v → ∃ n t, v = .int n t := by
  induction hi with
  | nil => intro j v h; simp at h
  | cons n t _ ih =>
    intro j v h
    cases j with
    | zero => simp at h; exact ⟨n, t, h.symm⟩
    | succ j => exact ih j v (by simpa using h)
/-- what comp_but6 asks behind its source -/
inductive But6 (g : Heap) (m : Str → Option Value) (env : Env) (y : Str) (Q : Flow → Shared → Prop) (xv : Value) (s₁ : Shared) : Prop where
  | mk (D : Addr) (vs : List Value) (ns : List Int) (news : List (Addr × Obj)) (e : xv = .ref D) (hl : s₁.heap.IsList D vs.toArray) (hi : IntsAre vs ns) (h100 : ns.length ≤ 100) (F : Fr g env.locals s₁.heap m) (N : News g env.locals s₁.heap news)
    (hQ : ∀ l ws n h' tk, Fr g env.locals h' (fun z => if z = y then some (.ref l) else m z) → News g env.locals h' ((l, listOf ws.toArray n) :: news) → IntsAre ws (ns.filter (· != 6)) → Q .next { s₁ with heap := h', toks := tk }) : But6 g m env y Q xv s₁
/-- «behind = [hand for hand in SOURCE if hand != 6]» -/
theorem comp_but6 {w : World} {A : Around} {E : Value → Shared → Prop} {s : Shared} {iter : Expr} {x y : Str} {px py p1 p2 p3 p4 : Pos} {k0 : Nat} {scope : Scope} {pos spos : Pos} {env : Env} {Q : Flow → Shared → Prop} {g : Heap} {m : Str → Option Value} (hh : A.handled = none)
    (hsw : swapsWith (.ListComp (.Name x p1) [⟨.Name x px, iter, [.Compare (.Name x p2) [.NotEq] [.Constant (.int 6) k0 p3] p4], 0⟩] scope pos) (some (.Name y py)) spos.line env = pure true)
    (hclos : closureFor scope env = pure []) (hcell : ∀ z ∈ scope.names, z.2 ≠ .cell) (hkind : scope.kind = .function)
    (hnames : ∀ z ∈ scope.names, z.2 = .local → scope.names.lookup z.1 = some .local) (hx : scope.names.lookup x = some .local) (hxd : (x == ("__debug__" : Str)) = false)
    (hy : env.kindOf y = some .local) (hek : env.scope.kind = .function)
    (hs : ∀ x, foldedSetIterable iter env x = pure x)
    (h : wpAny (model Challenge.rw_pg0133_01.row.prog w) A (eval iter env) (But6 g m env y Q) E s) :
    wpAny (model Challenge.rw_pg0133_01.row.prog w) A (exec (.Assign [.Name y py] (.ListComp (.Name x p1) [⟨.Name x px, iter, [.Compare (.Name x p2) [.NotEq] [.Constant (.int 6) k0 p3] p4], 0⟩] scope pos) spos) env) Q E s := by
  refine wpAny_Assign_ListComp_free (fun v => match v with | .int n _ => n != 6 | _ => true) (fun v y => y = v) hsw hclos hcell hkind hnames hx hy (by rw [hek]; rfl) (wpAny_mono h (fun xv s₁ h₁ => ?_) fun _ _ e => e) hs
  obtain ⟨D, vs, ns, news, rfl, hl, hi, h100, F, N, hQ⟩ := h₁
  have hlt : D < s₁.heap.objs.size := by obtain ⟨o, ho, _⟩ := hl; exact Heap.lt_size ho
  refine wpAny_pyIter_list hl ?_
  have hne : D ≠ s₁.heap.objs.size := Nat.ne_of_lt hlt
  have W := Walks.list (prog := Challenge.rw_pg0133_01.row.prog) (w := w) hh s₁.heap.objs.size D hne vs.toArray
  have st1 : s₁.heap.StaysIn (s₁.heap.push { cls := .type "list_iterator", data := .fields #[.ref D, .int 0 0] }) := push_stays _ _
  have F1 := stays_fr st1 F
  refine ⟨_, _, _, _, _, _, m, rfl, W, ?_, ⟨⟨_, Heap.get?_push_size _ rfl, rfl, rfl⟩, isList_keeps st1 hl⟩, ?_, ?_, F1.ns, ⟨?_, ?_⟩, ?_⟩
  · simp [hi.length]; rw [sizeLine_eq]; omega
  · intro b hb
    simp only [List.mem_cons, List.not_mem_nil, or_false] at hb
    show b < (s₁.heap.push _).objs.size
    rw [Heap.size_push]
    rcases hb with rfl | rfl
    · exact Nat.lt_succ_self _
    · exact Nat.lt_succ_of_lt hlt
  · intro hm
    have : env.locals < s₁.heap.objs.size := by obtain ⟨o, _, _, ho, _⟩ := F.ns; exact Heap.lt_size ho
    rw [List.mem_singleton.mp hm] at this; exact Nat.lt_irrefl _ this
  · intro C i v s₃ m₃ E' hC hP hns hm hk htk
    obtain ⟨n, t, rfl⟩ := ints_get hi i v (by simpa using hP)
    refine wpAny_tests_one ?_
    refine wpAny_isTrue_Compare1 (wpAny_Name (wpAny_loadName_local (env := compEnvC scope [] C env) (by simp [compEnvC, relabel, hkind]) (lookup_relabel_local hx) hns hm ?_) hxd)
    refine wpAny_Constant_int ?_
    refine P.ne_int (wpAny_truthy_bool ?_)
    exact ⟨rfl, _, _, rfl, fun _ _ e => e⟩
  · intro C i v s₃ m₃ E' hC hP hp hns hm hk htk
    exact wpAny_Name (wpAny_loadName_local (env := compEnvC scope [] C env) (by simp [compEnvC, relabel, hkind]) (lookup_relabel_local hx) hns hm ⟨rfl, _, _, rfl, fun _ _ e => e⟩) hxd
  · intro l h' tk ys us hD hlD hpl hlen hP hPF hns hk
    obtain ⟨n, hl'⟩ := hpl
    have hst3 : ∀ b o, b ≠ env.locals → s₁.heap.get? b = some o → h'.get? b = some o := fun b o hb e => hk b o hb (fun q => by rw [List.mem_singleton.mp q, get_size_none] at e; cases e) (st1 _ _ e)
    have eu : us = vs := by
      apply List.ext_getElem?
      intro j
      cases hj : us[j]? with
      | none =>
        have h1 : us.length ≤ j := List.getElem?_eq_none_iff.mp hj
        exact (List.getElem?_eq_none (by simp at hlen; omega)).symm
      | some v => have := hP j v hj; simpa using this.symm
    have ey := paired_eq hPF
    have hst4 : ∀ p ∈ news, h'.get? p.1 = some p.2 := fun p hp => hst3 _ _ (N p hp).2.1 (N p hp).1
    refine hQ l ys.toList n h' tk ⟨hns, fun b o e => hst3 b o (fun q => absurd (Nat.lt_of_lt_of_le (Heap.lt_size e) F.above) (by rw [q]; exact Nat.lt_irrefl _)) (F.keep b o e), F.above⟩ ?_ ?_
    · intro p hp
      rcases List.mem_cons.mp hp with rfl | hp
      · refine ⟨hl', ?_, ?_⟩
        · rintro rfl
          obtain ⟨o, _, _, ho, _⟩ := F1.ns
          rw [hD] at ho; cases ho
        · cases e : g.get? l with
          | none => rfl
          | some o => have := st1 _ _ (F.keep _ _ e); rw [hD] at this; cases this
      · exact ⟨hst4 p hp, (N p hp).2⟩
    · rw [ey, eu]
      exact ints_filter (fun _ _ => rfl) hi
end TIl
theorem resetRg : True := by
  w_top off
  first | (walk1; done) | trivial
section TRg
/-- a loop over range(n), an own word on the frame's map and the ledger -/
theorem iter_range0 {w : World} {A : Around} {E : Value → Shared → Prop} {s : Shared} {env : Env} {h₀ : Heap} {x : Str} {body : List Stmt} {Q : Flow → Shared → Prop} {r : Addr} {n : Nat} {t₀ u₀ v₀ : Tok} {m₀ : Str → Option Value} {news : List (Addr × Obj)}
    (J : Nat → (Str → Option Value) → List (Addr × Obj) → Prop) (hh : A.handled = none) (hr : IsRange s.heap r 0 (n : Int) 1 t₀ u₀ v₀) (hn : n ≤ 1000000)
    (F : Fr h₀ env.locals s.heap m₀) (N : News h₀ env.locals s.heap news) (hj : J 0 m₀ news)
    (turn : ∀ i t m₁ nx h tk own, i < n → OwnOff own (nx.map (·.1)) → J i m₁ nx → Fr h₀ env.locals h (fun y => if y = x then some (.int (i : Nat) t) else m₁ y) → News h₀ env.locals h (nx ++ own) →
      wpAny (model Challenge.rw_pg0133_01.row.prog w) A (execs body env) (InvPostG h₀ env.locals (J (i + 1)) own { s with heap := h, toks := tk } Q) E { s with heap := h, toks := tk })
    (done : ∀ m₁ nx h tk, J n m₁ nx → Fr h₀ env.locals h m₁ → News h₀ env.locals h nx → Q .next { s with heap := h, toks := tk }) :
    wpAny (model Challenge.rw_pg0133_01.row.prog w) A (pyIter (.ref r)) (fun it s₂ => LoopAtV Challenge.rw_pg0133_01.row.prog w A h₀ env x body Q E it s₂) E s := by
  have hsz : Builtin.Range.rangeSize 0 (n : Int) 1 = (n : Int) := by rw [rangeSize_nat]; omega
  refine wpAny_pyIter_range hr (small_one (by omega) (by omega) (by omega) (by omega)) ?_
  have W : Walks Challenge.rw_pg0133_01.row.prog w A s.heap.objs.size [s.heap.objs.size] [s.heap.objs.size] n (fun i v => i < n ∧ ∃ t, v = .int (0 + i * 1) t)
      (fun i h => IsRangeIter h s.heap.objs.size (0 + (i : Nat) * 1) ((n : Int) - (i : Nat)) 1) := (Walks.range hh _ 0 1 n).bound
  refine kdr_loop J W (fun _ h => h) (fun _ h => h) ?_ ?_ ?_ ?_ (by show IsRangeIter _ _ _ _ _; rw [hsz]; simpa using Heap.get?_push_size _ rfl) (F.push _) (fun p hp => ⟨Heap.get?_push_of_some _ (N p hp).1, (N p hp).2⟩) hj ?_ ?_
  · intro i h hi b hb
    rw [List.mem_singleton.mp hb]
    exact ⟨_, hi⟩
  · intro hm
    exact absurd F.ns.lt ((List.mem_singleton.mp hm) ▸ Nat.lt_irrefl _)
  · intro b hb
    rw [List.mem_singleton.mp hb]
    exact next_is_new F
  · intro p hp hI
    exact absurd (Heap.lt_size (N p hp).1) ((List.mem_singleton.mp hI) ▸ Nat.lt_irrefl _)
  · rintro i v m₁ nx h tk own hi ⟨_, t, rfl⟩ hoff hJ F₁ N₁
    have e1 : (0 : Int) + (i : Int) * 1 = ((i : Nat) : Int) := by omega
    rw [e1] at F₁
    exact turn i t m₁ nx h tk own hi hoff hJ F₁ N₁
  · exact done
end TRg
theorem resetDf : True := by
  w_top off
  first | (walk1; done) | trivial
section TDf
noncomputable def aheadL (ns : List Int) : List Int := if 6 ∈ ns then ns.take (ns.idxOf 6) else ns
noncomputable def behindL (ns : List Int) : List Int := (if 6 ∈ ns then ns.drop (ns.idxOf 6) else []).filter (· != 6)
noncomputable def upto5 (ns : List Int) : List Int := ns.take (ns.idxOf 5)
noncomputable def cutN (ns : List Int) : Nat := if 6 ∈ ns then ns.idxOf 6 else ns.length
theorem take_cut (ns : List Int) : ns.take (cutN ns) = aheadL ns := by
  unfold cutN aheadL; split <;> simp
theorem drop_cut (ns : List Int) : (ns.drop (cutN ns)).filter (· != 6) = behindL ns := by
  unfold cutN behindL; split <;> simp
/-- «_law_bare»'s answer -/
noncomputable def bareD (ns : List Int) : Dat := .list [.bool (decide (codeL ns 13 = [13])), .bool (decide (codeL ns 9 = [9]))]
noncomputable def markD (ns : List Int) : Dat := .list ((([.bool (ns.any fun x => x == 6), .int ((aheadL ns).count 5 : Nat), .int ((behindL ns).count 5 : Nat)] ++ [.list ([38, 60, 62, 34, 13, 9].map fun c => .str (S (codeL ns c)))])
  ++ (if 5 ∈ aheadL ns then [bareD (upto5 (aheadL ns))] else []) ++ (if 6 ∈ ns then [.bool (decide (codeL (aheadL ns) 10 = [10]))] else [])) ++ (if 5 ∈ behindL ns then [bareD (aheadL ns ++ upto5 (behindL ns))] else []))
end TDf
theorem resetC8 : True := by
  w_top off
  first | (walk1; done) | trivial
local macro_rules | `(tactic| walk_at "mine list") => `(tactic| first | exact isList_keeps (Fr.keep (by k_asm)) (by assumption) | exact News.isList (by k_asm) (by k_mem))
section TC8

/-- the mark as it grows: its items' data, and all that it holds new -/
inductive MkSt (g : Heap) (L : Nat) (m : Str → Option Value) (mk : Nat) (base : List (Addr × Obj)) (ds : List Dat) (h : Heap) : Prop where
  | mk' (F : Fr g L h m) (h1 : L < mk) (h2 : ds.length ≤ 8) (items : List Value) (n : Nat) (tl : List (Addr × Obj)) (N : News g L h (base ++ (mk, listOf (List.toArray items) n) :: tl)) (hne : ∀ p ∈ tl ++ base, p.1 ≠ mk) (hL : ∀ p ∈ tl, L < p.1) (hD : DatAll tl items ds) : MkSt g L m mk base ds h
theorem MkSt.keeps {g h h' : Heap} {L : Nat} {m : Str → Option Value} {mk : Nat} {base : List (Addr × Obj)} {ds : List Dat} (M : MkSt g L m mk base ds h) (hs : h.StaysIn h') : MkSt g L m mk base ds h' := by
  obtain ⟨F, h1, h2, items, n, tl, N, r, q, z⟩ := M
  exact ⟨stays_fr hs F, h1, h2, items, n, tl, stays_news hs N, r, q, z⟩
theorem mk_append {prog : Program} {w : World} {A : Around} {E : Value → Shared → Prop} {s : Shared} {g h₁ : Heap} {L : Nat} {m : Str → Option Value} {mk : Nat} {base : List (Addr × Obj)} {ds : List Dat} {x : Value} {d : Dat} {Q : Value → Shared → Prop}
    (M : MkSt g L m mk base ds s.heap) (M₁ : MkSt g L m mk base ds h₁) (h8 : ds.length ≤ 7) (hd : OutD d h₁ x s.heap)
    (hQ : ∀ h', MkSt g L m mk base (ds ++ [d]) h' → Q .none { s with heap := h' }) : wpAny (model prog w) A (call (.builtin "list.append") [.ref mk, x]) Q E s := by
  obtain ⟨tl', hn, hdat⟩ := hd
  obtain ⟨F, h1, h2, items, n, tl, N, hne, hL, hD⟩ := M
  obtain ⟨F1, _, _, i1, n1, t1, N1, _, _, _⟩ := M₁
  have hin : ∀ {q : Addr × Obj} {l : List (Addr × Obj)}, q ∈ base ++ q :: l := List.mem_append_right _ (.head _)
  have hmk : mk < h₁.objs.size := Heap.lt_size (N1 _ hin).1
  have hLs : L < h₁.objs.size := by obtain ⟨o, _, _, ho, _⟩ := F1.ns; exact Heap.lt_size ho
  have hz : items.length ≤ 8 := by rw [hD.length]; exact h2
  refine append_at (N _ hin).1 (fun h' hs ho => hQ h' ?_) (by rw [sizeLine_eq]; simp; omega)
  have keep : ∀ b o, b ≠ mk → s.heap.get? b = some o → h'.get? b = some o := fun b o hb e => hs.extBut b o hb e
  have hgs : g.objs.size ≤ L := F.above
  refine ⟨F.change hs (N _ hin).2.1 (N _ hin).2.2, h1, by simp; omega, items ++ [x], n + 1, tl' ++ tl, ?_, ?_, ?_, ?_⟩
  · intro p hp
    rcases List.mem_append.mp hp with hp | hp
    · have q := N p (List.mem_append_left _ hp)
      exact ⟨keep _ _ (hne p (List.mem_append_right _ hp)) q.1, q.2⟩
    · rcases List.mem_cons.mp hp with rfl | hp
      · exact ⟨by simpa [W.listOf] using ho, (N _ hin).2⟩
      · rcases List.mem_append.mp hp with hp | hp
        · have h9 : h₁.objs.size ≤ (p.1 : Nat) := (hn p hp).2
          refine ⟨keep _ _ (Nat.ne_of_gt (Nat.lt_of_lt_of_le hmk h9)) (hn p hp).1, Nat.ne_of_gt (Nat.lt_of_lt_of_le hLs h9), ?_⟩
          cases e : g.get? p.1 with
          | none => rfl
          | some o => exact absurd (Nat.lt_of_lt_of_le (Heap.lt_size e) (Nat.le_trans hgs (Nat.le_of_lt (Nat.lt_of_lt_of_le hLs h9)))) (Nat.lt_irrefl _)
        · have q := N p (List.mem_append_right _ (.tail _ hp))
          exact ⟨keep _ _ (hne p (List.mem_append_left _ hp)) q.1, q.2⟩
  · intro p hp
    rcases List.mem_append.mp hp with hp | hp
    · rcases List.mem_append.mp hp with hp | hp
      · have h9 : h₁.objs.size ≤ (p.1 : Nat) := (hn p hp).2
        exact Nat.ne_of_gt (Nat.lt_of_lt_of_le hmk h9)
      · exact hne p (List.mem_append_left _ hp)
    · exact hne p (List.mem_append_right _ hp)
  · intro p hp
    rcases List.mem_append.mp hp with hp | hp
    · have h9 : h₁.objs.size ≤ (p.1 : Nat) := (hn p hp).2
      exact Nat.lt_of_lt_of_le hLs h9
    · exact hL p hp
  · exact (hD.mono fun p hp => List.mem_append_right _ hp).append (.one (hdat.mono fun p hp => List.mem_append_left _ hp))
theorem mk_start {g h : Heap} {L : Nat} {m : Str → Option Value} {mk : Nat} {base : List (Addr × Obj)} {ds : List Dat} {items : List Value} {n : Nat} (F : Fr g L h m) (N : News g L h ((mk, listOf (List.toArray items) n) :: base)) (hm : L < mk) (hne : ∀ p ∈ base, p.1 ≠ mk) (hD : DatAll [] items ds) (h8 : ds.length ≤ 8) : MkSt g L m mk base ds h :=
  ⟨F, hm, h8, items, n, [], fun p hp => N p (by
    rcases List.mem_append.mp hp with q | q
    · exact .tail _ q
    · rw [List.mem_singleton.mp q]; exact .head _), hne, (fun _ hp => nomatch hp), hD⟩
/-- the mark at a later heap of the walk -/
theorem MkSt.later {g h' : Heap} {L : Nat} {m : Str → Option Value} {mk : Nat} {base : List (Addr × Obj)} {ds : List Dat} {items : List Value} {n : Nat} {tl news : List (Addr × Obj)} (h1 : L < mk) (h2 : ds.length ≤ 8) (hne : ∀ p ∈ tl ++ base, p.1 ≠ mk) (hL : ∀ p ∈ tl, L < p.1) (hD : DatAll tl items ds)
    (F : Fr g L h' m) (N : News g L h' news) (hs : ∀ p ∈ base ++ (mk, listOf (List.toArray items) n) :: tl, p ∈ news) : MkSt g L m mk base ds h' :=
  ⟨F, h1, h2, items, n, tl, fun p hp => N p (hs p hp), hne, hL, hD⟩
local macro_rules | `(tactic| walk_at "mine heap") => `(tactic| first | exact Fr.keep (by k_asm) _ _ (by assumption) | exact News.get (by k_asm) (by k_mem))
local macro_rules | `(tactic| walk_at "getMethod ref") => `(tactic| (k_here; (with_unfolding_all first | refine' il_method ?q1 PySem.F.slot_list_index PySem.F.type_list_index ?_ | refine' il_method ?q1 PySem.F.slot_list_count PySem.F.type_list_count ?_ | refine' il_method ?q1 PySem.F.slot_list_append PySem.F.type_list_append ?_); (case q1 => walk_at "mine heap")))
local macro_rules | `(tactic| walk_at "call builtin:list.index") => `(tactic| (k_here; (refine' il_index ?q1 ?q2 ?q3 ?q4 ?_); (case q1 => walk_at "mine heap"); (case q2 => assumption); (case q3 => omega); (case q4 => assumption)))
local macro_rules | `(tactic| walk_at "compareOp In int ref") => `(tactic| (k_here; (refine' il_in ?q1 ?q2 ?_); (case q1 => walk_at "mine list"); (case q2 => assumption)))
local macro_rules | `(tactic| walk_at "call builtin:list.count") => `(tactic| (k_here; (refine' count_list_ints ?q1 ?q2 ?_); (case q1 => walk_at "mine list"); (case q2 => assumption)))
local macro_rules | `(tactic| walk_at "call ref") => `(tactic| (k_here; (refine' tl_use (law_code _ _ _ _ _ ?kI _ _ ?kl ?kb) ?k1 ?k2 ?k3 ?k5 ?kf ?kk ?kd ?ku ?kp ?_; (walk_at "mine room"); (case kp => exact ⟨NamesAt.keeps (by assumption) (Fr.keep (by k_asm)), (by walk_at "mine list")⟩); (case kI => assumption); (case kl => assumption); (case kb => assumption); (walk_at "mine ret"))))
theorem strs_dat {ns : List Int} {tl : List (Addr × Obj)} : ∀ {l : List Nat} {ys : List Value}, Paired (fun c y => ∃ t', y = .str (S (codeL ns c)) t') l ys → DatAll tl ys (l.map fun c => .str (S (codeL ns c)))
  | _, _, .nil => .nil
  | _, _, .cons ⟨t, e⟩ r => by subst e; exact .cons (.str _ _) (strs_dat r)
set_option maxHeartbeats 8000000 in
theorem law_mark (w : World) (a r : Addr) (vs : List Value) (n0 : Nat) (ns : List Int) (hI : IntsAre vs ns) (hn : ns.length ≤ 5) (hb : ∀ n ∈ ns, 0 ≤ n) : Tl 2 w 113 [.ref a, .ref r] (fun h => NamesAt w h a ∧ h.get? r = some (listOf vs.toArray n0))
    (OutD (markD ns)) := by
  have kf : hd.heap_39 = hd.heap_39 ∧ Challenge.rw_pg0133_01 = Challenge.rw_pg0133_01 := by k_fill; exact ⟨rfl, rfl⟩
  refine' tl_ofC (mm := fun _ => none) (cm := fun y => if y = Str.ofString "row" then some (.ref r) else if y = Str.ofString "names" then some (.ref a) else none) ?ho ?hcd ?hb ?hl ?hmm ?hcm ?hn ?a ?b ?c ?_
  walk_at "mine enterC"
  unfold BdC
  intro p loose mean mg mb dp un gd outer A₀ base g h L s tk cells Q B F N Y X T hdp hun hp hret
  obtain ⟨hNA, hr⟩ := hp
  have hp : g.IsList r vs.toArray := ⟨_, hr, rfl, n0, rfl⟩
  k_cells Y
  rename_i o1 o2 d1 d2
  replace d1 : o1.data = .cell (some (.ref r)) := d1
  replace d2 : o2.data = .cell (some (.ref a)) := d2
  refine wpAny_execs_cons (wpAny_Assign_Name ?_)
  refine wpAny_mono (Q := fun v s' => ∃ t tk', v = .int (cutN ns : Nat) t ∧ s' = { s with heap := h, toks := tk' }) ?_ ?_ (fun _ _ e => e)
  · refine IfExp_ ?_
    iterate 3 walk1
    refine il_in (isList_keeps (Fr.keep F) hp) hI (wpAny_truthy_bool ?_)
    by_cases h6 : 6 ∈ ns
    · rw [decide_eq_true h6, if_pos rfl]
      iterate 8 walk1
      exact ⟨_, _, by rw [cutN, if_pos h6], rfl⟩
    · rw [decide_eq_false h6, if_neg Bool.false_ne_true]
      iterate 7 walk1
      exact ⟨_, _, by rw [cutN, if_neg h6], rfl⟩
  rintro v1 s1 ⟨t1, tk1, rfl, rfl⟩
  walk1
  refine wpAny_execs_cons ?_
  iterate 10 walk1
  rename_i h1 Da wa h2 hIA hC1 hC2 l1 h3 F3 N3
  have hA : IntsAre wa (aheadL ns) := by rw [← take_cut]; simpa using hIA
  have hA5 : (aheadL ns).length ≤ 5 := by rw [← take_cut]; simp; omega
  have hAb : ∀ n ∈ aheadL ns, 0 ≤ n := by rw [← take_cut]; exact fun n hm => hb n (List.mem_of_mem_take hm)
  clear hIA hC1 hC2
  refine ec ?_
  intro R hR
  refine comp_but6 (g := g) (m := fun y => if y = Str.ofString "ahead" then some (.ref Da) else if y = Str.ofString "cut" then some (.int (cutN ns : Nat) t1) else none) rfl (by rfl) (by rfl) (by decide) rfl (by decide) (by decide) (by decide) (by rfl) rfl (by intro _; rfl) ?_
  iterate 7 walk1
  refine kmk_slice_ints (s := { s with heap := h3, toks := _ }) F3 N3 (isList_keeps (Fr.keep F3) hp) (IsPart.int _ _) IsPart.none hI (kmk_from hI (Int.natCast_nonneg _)) rfl ?_ (by with_unfolding_all rfl) (by kmk_pure) (by kmk_size)
  intro Db wb h4 F4 N4 l2 hIB hC1 hC2
  refine ⟨Db, wb, _, _, rfl, N4.isList (by k_mem), hIB, by simp; omega, F4, N4, ?_⟩
  intro Dc wc nc h5 tk5 F5 N5 hIC
  have hB : IntsAre wc (behindL ns) := by rw [← drop_cut]; simpa using hIC
  clear hIB hIC hC1 hC2
  dsimp only [envOfC] at F5 N5
  refine hR _ ?_
  clear hR R
  refine wpAny_execs_cons ?_
  iterate 28 walk1
  rename_i mk h6 l3 h7 F7 N7
  have hBl : (behindL ns).length ≤ 5 := by
    rw [← drop_cut]; exact Nat.le_trans (List.length_filter_le _ _) (by simp; omega)
  have hBb : ∀ n ∈ behindL ns, 0 ≤ n := by
    rw [← drop_cut]; exact fun n hm => hb n (List.mem_of_mem_drop (List.mem_filter.mp hm).1)
  have M : MkSt g L (fun y => if y = Str.ofString "mark" then some (.ref mk) else if y = Str.ofString "behind" then some (.ref Dc) else if y = Str.ofString "ahead" then some (.ref Da) else if y = Str.ofString "cut" then some (.int (cutN ns : Nat) t1) else none) mk [(Dc, listOf wc.toArray nc), (Db, listOf wb.toArray 0), (Da, listOf wa.toArray 0), (L + 1 + 1, o1), (L + 1, o2)] [.bool (ns.any fun x => x == 6), .int ((aheadL ns).count 5 : Nat), .int ((behindL ns).count 5 : Nat)] h7 :=
    mk_start F7 N7 (by omega) (by
      obtain ⟨q1, q2, q3, q4, q5⟩ := l3
      intro p hp
      simp only [List.mem_cons, List.not_mem_nil, or_false] at hp
      rcases hp with rfl | rfl | rfl | rfl | rfl <;> (show @Ne Nat _ _; omega)) (.cons (.bool _) (.cons (.int _ _) (.cons (.int _ _) .nil))) (by simp)
  clear l3
  refine ec ?_
  intro R hR
  refine wpAny_Expr ?_
  refine MethodCall_ ?_
  refine nameX_L F7 (by rfl) ?_
  refine il_method (N7.get (.head _)) PySem.F.slot_list_append PySem.F.type_list_append ?_
  refine callWith_method1 ?_
  refine spliced_more ?_
  refine comp_rule (by rfl) (by decide) rfl (by decide) (by decide) ?_
  refine wpAny_Constant_str ?_
  refine wpAny_pyIter_str fun ob St hW hst => ?_
  refine ⟨_, _, _, _, _, _, fun _ v y => ∃ c, (∃ u, v = .str (S [c]) u) ∧ ∃ t', y = .str (S (codeL ns c)) t', rfl, hW _ rfl, by decide, hst, ?_, fun _ _ _ _ q _ => q, ?_, ?_⟩
  · intro b hb; rw [List.mem_singleton.mp hb]; simp [Heap.size_push]
  · intro C i v h₃ tk₃ m₃ hC1 hC2 hPv hNs hm hk
    obtain ⟨c, u, hc, rfl⟩ := hPv
    have hst3 : h7.StaysIn h₃ := keep_mem (push_stays h7 ob) (fun b hb => by rw [List.mem_singleton.mp hb]; exact get_size_none h7) hk
    have F3 := stays_fr hst3 F7
    have N3 := stays_news hst3 N7
    clear hk
    dsimp only
    k_steps
    all_goals exact Gr.st (by assumption)
  · intro D h' tk' ys vs' hD hl hlen hP hPF hsz hk
    have hst3 : h7.StaysIn h' := keep_mem (push_stays h7 ob) (fun b hb => by rw [List.mem_singleton.mp hb]; exact get_size_none h7) hk
    have e := strs_dat (tl := []) (paired_signs (l := [38, 60, 62, 34, 13, 9]) (R := fun c y => ∃ t', y = .str (S (codeL ns c)) t') hlen hP hPF)
    obtain ⟨n, hl⟩ := hl
    refine spliced_none ?_
    refine mk_append (s := { s with heap := h', toks := tk' }) (M.keeps hst3) M (by simp) ⟨[(D, listOf ys n)], ?_, DatIn.list (vs := ys.toList) (n := n) (by simp) (e.mono (fun _ hp => absurd hp List.not_mem_nil))⟩ ?_
    · intro p hp
      rw [List.mem_singleton.mp hp]
      exact ⟨hl, Nat.le_trans (Nat.le_of_lt (by show h7.objs.size < (h7.push ob).objs.size; rw [Heap.size_push]; exact Nat.lt_succ_self _)) hD⟩
    clear hl hPF hP hk hst3 e F7 N7 M
    intro h8 M
    refine hR _ ?_
    clear hR R
    refine wpAny_execs_cons ?_
    generalize hds : _ ++ [Dat.list _] = ds at M
    have hdl : ds.length = 4 := by rw [← hds]; rfl
    refine wpAny_mono (Q := fun f s' => f = .next ∧ ∃ h' tk', s' = { s with heap := h', toks := tk' } ∧ MkSt g L (fun y => if y = Str.ofString "mark" then some (.ref mk) else if y = Str.ofString "behind" then some (.ref Dc) else if y = Str.ofString "ahead" then some (.ref Da) else if y = Str.ofString "cut" then some (.int (cutN ns : Nat) t1) else none) mk [(Dc, listOf wc.toArray nc), (Db, listOf wb.toArray 0), (Da, listOf wa.toArray 0), (L + 1 + 1, o1), (L + 1, o2)] (ds ++ (if 5 ∈ aheadL ns then [bareD (upto5 (aheadL ns))] else [])) h') ?_ ?_ (fun _ _ e => e)
    · refine cutP ?_
      intro R hR
      obtain ⟨F8, q1, q2, its8, n8, tl8, N8, q3, q4, q5⟩ := id M
      simp only [List.cons_append, List.nil_append] at N8
      refine wpAny_If (wpAny_isTrue_Compare1 (wpAny_Constant_int ?_))
      refine nameX_L F8 (by rfl) ?_
      refine il_in (N8.isList (by k_mem)) hA (wpAny_truthy_bool ?_)
      by_cases h5 : 5 ∈ aheadL ns
      · rw [decide_eq_true h5, if_pos rfl]
        rw [if_pos h5] at hR
        refine wpAny_execs_cons (wpAny_Expr ?_)
        refine MethodCall_ ?_
        refine nameX_L F8 (by rfl) ?_
        refine il_method (N8.get (by k_mem)) PySem.F.slot_list_append PySem.F.type_list_append ?_
        refine callWith_method1 ?_
        refine spliced_more ?_
        iterate 20 walk1
        refine kmk_slice_ints (s := { s with heap := h8, toks := _ }) F8 N8 (N8.isList (by k_mem)) IsPart.none (IsPart.int _ _) hA (kmk_upto hA (Int.natCast_nonneg _)) rfl ?_ (by with_unfolding_all rfl) (by kmk_pure) (by kmk_size)
        intro De we h9 F9 N9 l9 hIE hC1 hC2
        have hE : IntsAre we (upto5 (aheadL ns)) := by simpa [upto5] using hIE
        have hE5 : (upto5 (aheadL ns)).length ≤ 5 := by unfold upto5; rw [List.length_take]; omega
        have hEb : ∀ n ∈ upto5 (aheadL ns), 0 ≤ n := fun n hm => hAb n (List.mem_of_mem_take hm)
        clear hIE hC1 hC2
        have M9 : MkSt g L _ mk _ ds h9 := MkSt.later q1 q2 q3 q4 q5 F9 N9 (fun p hp => .tail _ hp)
        iterate 2 walk1
        refine' tl_use (law_bare w a De we (upto5 (aheadL ns)) hE hE5 hEb) ?k1 ?k2 ?k3 ?k5 ?kf ?kk ?kd ?ku ?kp ?_
        walk_at "mine room"
        case kp => exact ⟨NamesAt.keeps hNA (Fr.keep F9), N9.isList (.head _)⟩
        intro r9 h10 tk10 G9 O9
        refine spliced_none ?_
        refine mk_append (s := { s with heap := h10, toks := tk10 }) (M9.keeps G9.st) M9 (by omega) O9 ?_
        intro h11 M11
        exact wpAny_execs_nil (hR _ _ ⟨rfl, _, _, rfl, M11⟩)
      · rw [decide_eq_false h5, if_neg Bool.false_ne_true]
        rw [if_neg h5] at hR
        exact wpAny_execs_nil (hR _ _ ⟨rfl, _, _, rfl, by rw [List.append_nil]; exact M⟩)
    rintro _ _ ⟨rfl, h9, tk9, rfl, M⟩
    generalize hds2 : ds ++ (if 5 ∈ aheadL ns then [bareD (upto5 (aheadL ns))] else []) = ds2 at M
    have hdl2 : ds2.length ≤ 5 := by rw [← hds2, List.length_append]; split <;> simp <;> omega
    refine wpAny_execs_cons ?_
    refine wpAny_mono (Q := fun f s' => f = .next ∧ ∃ h' tk', s' = { s with heap := h', toks := tk' } ∧ MkSt g L (fun y => if y = Str.ofString "mark" then some (.ref mk) else if y = Str.ofString "behind" then some (.ref Dc) else if y = Str.ofString "ahead" then some (.ref Da) else if y = Str.ofString "cut" then some (.int (cutN ns : Nat) t1) else none) mk [(Dc, listOf wc.toArray nc), (Db, listOf wb.toArray 0), (Da, listOf wa.toArray 0), (L + 1 + 1, o1), (L + 1, o2)] (ds2 ++ (if 6 ∈ ns then [.bool (decide (codeL (aheadL ns) 10 = [10]))] else [])) h') ?_ ?_ (fun _ _ e => e)
    · refine cutP ?_
      intro R hR
      obtain ⟨F8, q1, q2, its8, n8, tl8, N8, q3, q4, q5⟩ := id M
      simp only [List.cons_append, List.nil_append] at N8
      refine wpAny_If (wpAny_isTrue_Compare1 (wpAny_Constant_int ?_))
      walk1
      refine il_in (isList_keeps (Fr.keep F8) hp) hI (wpAny_truthy_bool ?_)
      by_cases h6 : 6 ∈ ns
      · rw [decide_eq_true h6, if_pos rfl]
        rw [if_pos h6] at hR
        refine wpAny_execs_cons (wpAny_Expr ?_)
        refine MethodCall_ ?_
        refine nameX_L F8 (by rfl) ?_
        refine il_method (N8.get (by k_mem)) PySem.F.slot_list_append PySem.F.type_list_append ?_
        refine callWith_method1 ?_
        refine spliced_more ?_
        iterate 12 walk1
        refine' tl_use (law_code w a Da wa (aheadL ns) hA 10 _ hA5 hAb) ?k1 ?k2 ?k3 ?k5 ?kf ?kk ?kd ?ku ?kp ?_
        walk_at "mine room"
        case kp => exact ⟨NamesAt.keeps hNA (Fr.keep F8), N8.isList (by k_mem)⟩
        intro r9 h10 tk10 G9 O9
        obtain ⟨t9, e9⟩ := O9
        subst e9
        refine wpAny_Constant_str ?_
        refine eq_str ?_
        refine spliced_none ?_
        refine mk_append (s := { s with heap := h10, toks := _ }) (d := .bool (decide (codeL (aheadL ns) 10 = [10]))) (M.keeps G9.st) M (by omega) ⟨[], (fun _ hp => nomatch hp), ?_⟩ ?_
        · have e : (S (codeL (aheadL ns) 10) == Str.ofString "\n") = decide (codeL (aheadL ns) 10 = [10]) := beq_S _ [10]
          rw [e]; exact .bool _
        intro h11 M11
        exact wpAny_execs_nil (hR _ _ ⟨rfl, _, _, rfl, M11⟩)
      · rw [decide_eq_false h6, if_neg Bool.false_ne_true]
        rw [if_neg h6] at hR
        exact wpAny_execs_nil (hR _ _ ⟨rfl, _, _, rfl, by rw [List.append_nil]; exact M⟩)
    rintro _ _ ⟨rfl, h12, tk12, rfl, M⟩
    generalize hds3 : ds2 ++ (if 6 ∈ ns then [Dat.bool (decide (codeL (aheadL ns) 10 = [10]))] else []) = ds3 at M
    have hdl3 : ds3.length ≤ 6 := by rw [← hds3, List.length_append]; split <;> simp <;> omega
    refine wpAny_execs_cons ?_
    refine wpAny_mono (Q := fun f s' => f = .next ∧ ∃ h' tk', s' = { s with heap := h', toks := tk' } ∧ MkSt g L (fun y => if y = Str.ofString "mark" then some (.ref mk) else if y = Str.ofString "behind" then some (.ref Dc) else if y = Str.ofString "ahead" then some (.ref Da) else if y = Str.ofString "cut" then some (.int (cutN ns : Nat) t1) else none) mk [(Dc, listOf wc.toArray nc), (Db, listOf wb.toArray 0), (Da, listOf wa.toArray 0), (L + 1 + 1, o1), (L + 1, o2)] (ds3 ++ (if 5 ∈ behindL ns then [bareD (aheadL ns ++ upto5 (behindL ns))] else [])) h') ?_ ?_ (fun _ _ e => e)
    · refine cutP ?_
      intro R hR
      obtain ⟨F8, q1, q2, its8, n8, tl8, N8, q3, q4, q5⟩ := id M
      simp only [List.cons_append, List.nil_append] at N8
      refine wpAny_If (wpAny_isTrue_Compare1 (wpAny_Constant_int ?_))
      refine nameX_L F8 (by rfl) ?_
      refine il_in (N8.isList (by k_mem)) hB (wpAny_truthy_bool ?_)
      by_cases h5 : 5 ∈ behindL ns
      · rw [decide_eq_true h5, if_pos rfl]
        rw [if_pos h5] at hR
        refine wpAny_execs_cons (wpAny_Expr ?_)
        refine MethodCall_ ?_
        refine nameX_L F8 (by rfl) ?_
        refine il_method (N8.get (by k_mem)) PySem.F.slot_list_append PySem.F.type_list_append ?_
        refine callWith_method1 ?_
        refine spliced_more ?_
        iterate 22 walk1
        refine kmk_slice_ints (s := { s with heap := h12, toks := _ }) F8 N8 (N8.isList (by k_mem)) IsPart.none (IsPart.int _ _) hB (kmk_upto hB (Int.natCast_nonneg _)) rfl ?_ (by with_unfolding_all rfl) (by kmk_pure) (by kmk_size)
        intro De we h9' F9 N9 l9 hIE hC1 hC2
        have hE : IntsAre we (upto5 (behindL ns)) := by simpa [upto5] using hIE
        have hE5 : (upto5 (behindL ns)).length ≤ 5 := by unfold upto5; rw [List.length_take]; omega
        clear hIE hC1 hC2
        refine kmk_add_ints (s := { s with heap := h9', toks := _ }) F9 N9 (N9.isList (by k_mem)) (N9.isList (.head _)) hA hE ?_ (by rw [sizeLine_eq]; omega)
        intro Df wf h10' F10 N10 l10 hF
        have hF5 : (aheadL ns ++ upto5 (behindL ns)).length ≤ 5 := by
          have q1 : (aheadL ns).length + (behindL ns).length ≤ ns.length := by
            rw [← take_cut, ← drop_cut]
            have := List.length_filter_le (· != (6 : Int)) (ns.drop (cutN ns))
            simp only [List.length_take, List.length_drop] at *
            omega
          have q2 : (upto5 (behindL ns)).length ≤ (behindL ns).length := by unfold upto5; rw [List.length_take]; omega
          rw [List.length_append]; omega
        have hFb : ∀ n ∈ aheadL ns ++ upto5 (behindL ns), 0 ≤ n := fun n hm => (List.mem_append.mp hm).elim (hAb n) fun q => hBb n (List.mem_of_mem_take q)
        have M9 : MkSt g L _ mk _ ds3 h10' := MkSt.later q1 q2 q3 q4 q5 F10 N10 (fun p hp => .tail _ (.tail _ hp))
        iterate 2 walk1
        refine' tl_use (law_bare w a Df wf _ hF hF5 hFb) ?k1 ?k2 ?k3 ?k5 ?kf ?kk ?kd ?ku ?kp ?_
        walk_at "mine room"
        case kp => exact ⟨NamesAt.keeps hNA (Fr.keep F10), N10.isList (.head _)⟩
        intro r9 h11 tk11 G9 O9
        refine spliced_none ?_
        refine mk_append (s := { s with heap := h11, toks := tk11 }) (M9.keeps G9.st) M9 (by omega) O9 ?_
        intro h14 M11
        exact wpAny_execs_nil (hR _ _ ⟨rfl, _, _, rfl, M11⟩)
      · rw [decide_eq_false h5, if_neg Bool.false_ne_true]
        rw [if_neg h5] at hR
        exact wpAny_execs_nil (hR _ _ ⟨rfl, _, _, rfl, by rw [List.append_nil]; exact M⟩)
    rintro _ _ ⟨rfl, h13, tk13, rfl, M⟩
    obtain ⟨F8, q1, q2, its8, n8, tl8, N8, q3, q4, q5⟩ := M
    refine wpAny_execs_cons (wpAny_Return_some (nameX_L F8 (by rfl) ?_))
    subst hds3 hds2 hds
    refine hret _ _ _ (Gr.of_fr F8) ⟨(mk, listOf its8.toArray n8) :: tl8, ?_, DatIn.list (.head _) (q5.mono fun _ hp => .tail _ hp)⟩
    intro p hp
    rcases List.mem_cons.mp hp with rfl | hp'
    · exact ⟨(N8 _ (List.mem_append_right _ (.head _))).1, Nat.le_of_lt (Nat.lt_of_le_of_lt F8.above q1)⟩
    · exact ⟨(N8 _ (List.mem_append_right _ (.tail _ hp'))).1, Nat.le_of_lt (Nat.lt_of_le_of_lt F8.above (q4 p hp'))⟩
end TC8
theorem resetMt1 : True := by
  w_top off
  first | (walk1; done) | trivial
section TMt1
/-- the signs of the texts -/
noncomputable def okC (c : Nat) : Prop := c ∈ [38, 60, 62, 34, 13, 10, 9, 32, 46, 58, 97, 98, 35, 59, 120, 122]
/-- signs that stand within a reference behind its '&' -/
noncomputable def inner (x : Nat) : Prop := x ∈ [97, 109, 112, 59, 108, 116, 103, 113, 117, 111, 35, 49, 51, 48, 57, 120, 68, 65]
theorem inner_nm {x : Nat} (h : inner x) (i : Nat) : nm i x = none := by
  have key : ∀ x ∈ [97, 109, 112, 59, 108, 116, 103, 113, 117, 111, 35, 49, 51, 48, 57, 120, 68, 65], x ∉ [38, 60, 62, 34, 13, 10, 9] := by decide
  exact nm_out (key x h)
theorem nm_inner {i c : Nat} {z : List Nat} (h : nm i c = some z) : (∀ x ∈ z, inner x) ∧ ∃ y, z = y ++ [59] := by
  have q := nm_all (P := fun p => (∀ x ∈ p.2, x ∈ [97, 109, 112, 59, 108, 116, 103, 113, 117, 111, 35, 49, 51, 48, 57, 120, 68, 65]) ∧ p.2.getLast? = some 59) (by decide) h
  exact ⟨q.1, List.getLast?_eq_some_iff.mp q.2⟩
/-- what a sign's reference looks like -/
noncomputable def CodeOk (c : Nat) (t : List Nat) : Prop := t = [c] ∨ ((∃ i, (nm i c).isSome = true) ∧ ∃ z, t = 38 :: z ∧ (∀ x ∈ z, inner x) ∧ ∃ y, z = y ++ [59])
theorem codeOk_ne {c : Nat} {z y : List Nat} (h : z = y ++ [59]) : (38 :: z : List Nat) ≠ [c] := by subst h; simp
theorem codeStep_ok {c : Nat} {t : List Nat} (n : Int) (h : CodeOk c t) : CodeOk c (codeStep c t n) := by
  unfold codeStep
  split
  · split
    · split
      · rename_i z hz
        obtain ⟨h1, y, h2⟩ := nm_inner hz
        exact .inr ⟨⟨_, by rw [hz]; rfl⟩, z, rfl, h1, y, h2⟩
      · exact h
    · rcases h with h | ⟨hs, z, rfl, h1, y, h2⟩
      · exact absurd h (by assumption)
      · refine .inr ⟨hs, [97, 109, 112, 59] ++ z, rfl, ?_, [97, 109, 112, 59] ++ y, by rw [h2]; simp⟩
        intro x hx
        rcases List.mem_append.mp hx with q | q
        · simp only [List.mem_cons, List.not_mem_nil, or_false] at q
          rcases q with q | q | q | q <;> (subst q; unfold inner; decide)
        · exact h1 x q
  · exact h
theorem codeL_ok (ns : List Int) (c : Nat) : CodeOk c (codeL ns c) := by
  obtain ⟨ms, rfl⟩ : ∃ ms : List Int, ns = ms.reverse := ⟨ns.reverse, by simp⟩
  induction ms with
  | nil => exact .inl rfl
  | cons n ms ih => rw [List.reverse_cons, codeL_snoc]; exact codeStep_ok n ih
theorem escL_append (h : Nat) (a b : List Nat) : escL h (a ++ b) = escL h a ++ escL h b := by simp [escL]
theorem escL_inner (h : Nat) : ∀ (z : List Nat), (∀ x ∈ z, inner x) → escL h z = z
  | [], _ => rfl
  | x :: z, hx => by
    show esc1 h x ++ escL h z = x :: z
    rw [escL_inner h z fun y hy => hx y (.tail _ hy), esc1, inner_nm (hx x (.head _))]; rfl
theorem nm_amp {n : Nat} (h : n < 5) : nm n 38 = some [97, 109, 112, 59] := by
  have key : ∀ n < 5, nm n 38 = some [97, 109, 112, 59] := by decide
  exact key n h
theorem escL_code {c : Nat} {t : List Nat} {n : Int} (h0 : 0 ≤ n) (h5 : n < 5) (h : CodeOk c t) : escL n.toNat t = codeStep c t n := by
  unfold codeStep
  rw [if_pos h5]
  by_cases ht : t = [c]
  · rw [if_pos ht, ht]
    show esc1 n.toNat c ++ [] = _
    rw [List.append_nil, esc1]
    all_goals (cases nm n.toNat c <;> rfl)
  · rw [if_neg ht]
    rcases h with h | ⟨_, z, rfl, h1, _⟩
    · exact absurd h ht
    · show esc1 n.toNat 38 ++ escL n.toNat z = _
      rw [escL_inner _ z h1, esc1, nm_amp (by omega)]; rfl
theorem handL_esc {n : Int} (h0 : 0 ≤ n) (h5 : n < 5) (l : List Nat) : handL n l = escL n.toNat l := by
  obtain ⟨m, rfl⟩ := Int.eq_ofNat_of_zero_le h0
  have h : m < 5 := Int.ofNat_lt.mp h5
  clear h0 h5
  iterate 5 (rcases m with _ | m; · rfl)
  exact absurd h (Nat.not_lt.mpr (Nat.le_add_left 5 m))
theorem flatMap_esc (ns : List Int) {n : Int} (h0 : 0 ≤ n) (h5 : n < 5) (b : List Nat) : handL n (b.flatMap (codeL ns)) = b.flatMap (codeL (ns ++ [n])) := by
  rw [handL_esc h0 h5, escL, List.flatMap_assoc]
  congr 1; funext c
  rw [codeL_snoc]
  exact escL_code h0 h5 (codeL_ok ns c)
/-- the bare text, hand by hand -/
noncomputable def wsB (pre : List Int) (c : Nat) : Bool := [32, 13, 10, 9].contains c && decide (codeL pre c = [c])
noncomputable def cutB (pre : List Int) (b : List Nat) : List Nat := b.takeWhile fun c => c != 58 && decide (codeL pre 10 ≠ [c])
noncomputable def bareStep (pre : List Int) (n : Int) (b : List Nat) : List Nat :=
  if n = 5 then rst (wsB pre) (35 :: 32 :: b) else if n = 6 then lastSeg (cutB pre b) else b
noncomputable def bareFrom : List Int → List Int → List Nat → List Nat
  | _, [], b => b
  | pre, n :: r, b => bareFrom (pre ++ [n]) r (bareStep pre n b)
noncomputable def toldL (ns : List Int) (l : List Nat) : List Nat := (bareFrom [] ns l).flatMap (codeL ns)
theorem rst_snoc (p : Nat → Bool) (l : List Nat) (c : Nat) : rst p (l ++ [c]) = if p c = true then rst p l else l ++ [c] := by
  unfold rst
  rw [List.reverse_append]
  show ((c :: l.reverse).dropWhile p).reverse = _
  rw [List.dropWhile_cons]
  split
  · rfl
  · simp
theorem rst_flat (pre : List Int) (p q : Nat → Bool) : ∀ (b : List Nat), (∀ c ∈ b, codeL pre c = [c] → p c = q c) → (∀ c ∈ b, codeL pre c ≠ [c] → q c = false) → p 59 = false → rst p (b.flatMap (codeL pre)) = (rst q b).flatMap (codeL pre) := by
  intro b
  obtain ⟨a, rfl⟩ : ∃ a : List Nat, b = a.reverse := ⟨b.reverse, by simp⟩
  induction a with
  | nil => intro _ _ _; rfl
  | cons c a ih =>
    intro h1 h2 h3
    rw [List.reverse_cons] at h1 h2 ⊢
    rw [rst_snoc, List.flatMap_append]
    have ih' := ih (fun c hc => h1 c (List.mem_append_left _ hc)) (fun c hc => h2 c (List.mem_append_left _ hc)) h3
    have hm : c ∈ a.reverse ++ [c] := List.mem_append_right _ (.head _)
    show rst p (a.reverse.flatMap (codeL pre) ++ (codeL pre c ++ [])) = _
    rw [List.append_nil]
    by_cases hc : codeL pre c = [c]
    · rw [hc, rst_snoc, h1 c hm hc]
      split
      · exact ih'
      · rw [List.flatMap_append]; show _ = _ ++ (codeL pre c ++ []); rw [hc]; rfl
    · rw [h2 c hm hc, if_neg Bool.false_ne_true]
      rcases codeL_ok pre c with h | ⟨_, z, hz, _, y, hy⟩
      · exact absurd h hc
      · have e : codeL pre c = (38 :: y) ++ [59] := by rw [hz, hy]; rfl
        rw [e, ← List.append_assoc, rst_snoc, h3, if_neg Bool.false_ne_true, List.flatMap_append]
        show _ = _ ++ (codeL pre c ++ [])
        rw [List.append_nil, e]; simp
theorem rst_hash (p : Nat → Bool) (h35 : p 35 = false) (h32 : p 32 = true) (x : List Nat) : rst p (35 :: 32 :: x) = if rst p x = [] then [35] else 35 :: 32 :: rst p x := by
  obtain ⟨a, rfl⟩ : ∃ a : List Nat, x = a.reverse := ⟨x.reverse, by simp⟩
  induction a with
  | nil => simp [rst, h35, h32]
  | cons c a ih =>
    rw [List.reverse_cons]
    have e : 35 :: 32 :: (a.reverse ++ [c]) = (35 :: 32 :: a.reverse) ++ [c] := rfl
    rw [e, rst_snoc, rst_snoc]
    split
    · exact ih
    · simp
end TMt1
theorem resetMt2 : True := by
  w_top off
  first | (walk1; done) | trivial
section TMt2
theorem space_ok {c : Nat} (h : okC c) : Unicode.isSpace c = [32, 13, 10, 9].contains c := by
  unfold okC at h
  have key : ∀ c ∈ ([38, 60, 62, 34, 13, 10, 9, 32, 46, 58, 97, 98, 35, 59, 120, 122] : List Nat), Unicode.isSpace c = [32, 13, 10, 9].contains c := by decide +kernel
  exact key c h
theorem nm_some {i c : Nat} (h : (nm i c).isSome = true) : c ∈ [38, 60, 62, 34, 13, 10, 9] := by
  apply Classical.byContradiction; intro q
  rw [nm_out q] at h; cases h
theorem code_plain (pre : List Int) {c : Nat} (h : c ∉ [38, 60, 62, 34, 13, 10, 9]) : codeL pre c = [c] := by
  rcases codeL_ok pre c with q | ⟨⟨i, hi⟩, _⟩
  · exact q
  · exact absurd (nm_some hi) h
theorem flatMap_comment (pre : List Int) (b : List Nat) (hb : ∀ c ∈ b, okC c) : handL 5 (b.flatMap (codeL pre)) = (bareStep pre 5 b).flatMap (codeL (pre ++ [5])) := by
  have e5 : codeL (pre ++ [5]) = codeL pre := by funext c; rw [codeL_snoc]; rfl
  rw [e5]
  show commentL (b.flatMap (codeL pre)) = (rst (wsB pre) (35 :: 32 :: b)).flatMap (codeL pre)
  have h35 : Unicode.isSpace 35 = false := by decide +kernel
  have h32 : Unicode.isSpace 32 = true := by decide +kernel
  have h59 : Unicode.isSpace 59 = false := by decide +kernel
  rw [commentL, ← rst_hash Unicode.isSpace h35 h32]
  have e : 35 :: 32 :: b.flatMap (codeL pre) = (35 :: 32 :: b).flatMap (codeL pre) := by
    rw [List.flatMap_cons, List.flatMap_cons, code_plain pre (c := 35) (by decide), code_plain pre (c := 32) (by decide)]; rfl
  rw [e]
  have hok : ∀ c ∈ 35 :: 32 :: b, okC c := by
    intro c hc
    rcases List.mem_cons.mp hc with h | hc
    · subst h; unfold okC; decide
    · rcases List.mem_cons.mp hc with h | hc
      · subst h; unfold okC; decide
      · exact hb c hc
  refine rst_flat pre _ _ _ (fun c hc h => ?_) (fun c hc h => ?_) h59
  · rw [space_ok (hok c hc), wsB, decide_eq_true h, Bool.and_true]
  · rw [wsB, decide_eq_false h, Bool.and_false]
theorem takeWhile_flat (pre : List Int) (p q : Nat → Bool) : ∀ (b : List Nat), (∀ c ∈ b, codeL pre c = [c] → p c = q c) → (∀ c ∈ b, codeL pre c ≠ [c] → q c = true ∧ ∀ x ∈ codeL pre c, p x = true) → (b.flatMap (codeL pre)).takeWhile p = (b.takeWhile q).flatMap (codeL pre)
  | [], _, _ => rfl
  | c :: b, h1, h2 => by
    have ih := takeWhile_flat pre p q b (fun c hc => h1 c (.tail _ hc)) (fun c hc => h2 c (.tail _ hc))
    rw [List.flatMap_cons, List.takeWhile_cons]
    by_cases hc : codeL pre c = [c]
    · rw [hc, ← h1 c (.head _) hc]
      show List.takeWhile p (c :: b.flatMap (codeL pre)) = _
      rw [List.takeWhile_cons]
      split
      · rw [ih, List.flatMap_cons, hc]; rfl
      · rfl
    · obtain ⟨hq, hp⟩ := h2 c (.head _) hc
      rw [hq, if_pos rfl, List.flatMap_cons, ← ih]
      have : ∀ (u v : List Nat), (∀ x ∈ u, p x = true) → (u ++ v).takeWhile p = u ++ v.takeWhile p := by
        intro u v hu
        induction u with
        | nil => rfl
        | cons x u ihu => rw [List.cons_append, List.takeWhile_cons, hu x (.head _), if_pos rfl, ihu fun y hy => hu y (.tail _ hy)]; rfl
      exact this _ _ hp
theorem inner_ne {x : Nat} (h : inner x) : x ≠ 10 ∧ x ≠ 58 ∧ x ≠ 46 := by
  have key : ∀ x ∈ [97, 109, 112, 59, 108, 116, 103, 113, 117, 111, 35, 49, 51, 48, 57, 120, 68, 65], x ≠ 10 ∧ x ≠ 58 ∧ x ≠ 46 := by decide
  exact key x h
theorem inner_lt {x : Nat} (h : inner x) : x < 1114112 := by
  have key : ∀ x ∈ [97, 109, 112, 59, 108, 116, 103, 113, 117, 111, 35, 49, 51, 48, 57, 120, 68, 65], x < 1114112 := by decide
  exact key x h
theorem code_chars (pre : List Int) {c : Nat} (h : codeL pre c ≠ [c]) : c ∈ [38, 60, 62, 34, 13, 10, 9] ∧ ∀ x ∈ codeL pre c, x ≠ 10 ∧ x ≠ 58 ∧ x ≠ 46 := by
  rcases codeL_ok pre c with q | ⟨⟨i, hi⟩, z, hz, hin, _⟩
  · exact absurd q h
  · refine ⟨nm_some hi, fun x hx => ?_⟩
    rw [hz] at hx
    rcases List.mem_cons.mp hx with e | hx
    · subst e; decide
    · exact inner_ne (hin x hx)
theorem code10 (pre : List Int) {c : Nat} (h : codeL pre 10 = [c]) : c = 10 := by
  rcases codeL_ok pre 10 with q | ⟨_, z, hz, _, y, hy⟩
  · rw [q] at h; simpa using h.symm
  · rw [hz] at h; exact absurd h (codeOk_ne hy)
theorem takeWhile_two (l : List Nat) : (l.takeWhile (· != 10)).takeWhile (· != 58) = l.takeWhile fun x => x != 10 && x != 58 := by
  induction l with
  | nil => rfl
  | cons x l ih =>
    by_cases h1 : x = 10
    · subst h1; simp
    · by_cases h2 : x = 58
      · subst h2; simp
      · simp [List.takeWhile_cons, h1, h2]; simpa using ih
theorem reverse_flat (f : Nat → List Nat) (b : List Nat) : (b.flatMap f).reverse = b.reverse.flatMap fun c => (f c).reverse := by
  induction b with
  | nil => rfl
  | cons c b ih => rw [List.flatMap_cons, List.reverse_append, ih, List.reverse_cons, List.flatMap_append]; simp
theorem lastSeg_flat (pre : List Int) (b : List Nat) : lastSeg (b.flatMap (codeL pre)) = (lastSeg b).flatMap (codeL pre) := by
  have key : ∀ a : List Nat, (a.flatMap fun c => (codeL pre c).reverse).takeWhile (· != 46) = (a.takeWhile (· != 46)).flatMap fun c => (codeL pre c).reverse := by
    intro a
    induction a with
    | nil => rfl
    | cons c a ih =>
      rw [List.flatMap_cons, List.takeWhile_cons]
      by_cases hc : c = 46
      · subst hc
        rw [code_plain pre (c := 46) (by decide)]; rfl
      · have hx : ∀ x ∈ (codeL pre c).reverse, (x != 46) = true := by
          intro x hx
          rw [List.mem_reverse] at hx
          by_cases h : codeL pre c = [c]
          · rw [h] at hx; rw [List.mem_singleton.mp hx]; simpa using hc
          · simpa using ((code_chars pre h).2 x hx).2.2
        have : ∀ (u v : List Nat), (∀ x ∈ u, (x != 46) = true) → (u ++ v).takeWhile (· != 46) = u ++ v.takeWhile (· != 46) := by
          intro u v hu
          induction u with
          | nil => rfl
          | cons x u ihu => rw [List.cons_append, List.takeWhile_cons, hu x (.head _), if_pos rfl, ihu fun y hy => hu y (.tail _ hy)]; rfl
        rw [this _ _ hx, ih]
        have hc' : (c != 46) = true := by simpa using hc
        rw [hc', if_pos rfl, List.flatMap_cons]
  unfold lastSeg
  rw [reverse_flat, key, reverse_flat]
  congr 1; funext c; rw [List.reverse_reverse]
theorem flatMap_strip (pre : List Int) (b : List Nat) : handL 6 (b.flatMap (codeL pre)) = (bareStep pre 6 b).flatMap (codeL (pre ++ [6])) := by
  have e6 : codeL (pre ++ [6]) = codeL pre := by funext c; rw [codeL_snoc]; rfl
  rw [e6]
  show stripL (b.flatMap (codeL pre)) = (lastSeg (cutB pre b)).flatMap (codeL pre)
  rw [stripL, takeWhile_two, ← lastSeg_flat, cutB]
  congr 1
  refine takeWhile_flat pre _ _ b (fun c hc h => ?_) (fun c hc h => ?_)
  · by_cases h10 : c = 10
    · subst h10; simp [h]
    · have : codeL pre 10 ≠ [c] := fun q => h10 (code10 pre q)
      simp [h10, this]
  · obtain ⟨h1, h2⟩ := code_chars pre h
    refine ⟨?_, fun x hx => by simp [(h2 x hx).1, (h2 x hx).2.1]⟩
    have h58 : c ≠ 58 := by rintro rfl; exact absurd h1 (by decide)
    have : codeL pre 10 ≠ [c] := fun q => by
      have := code10 pre q; subst this; exact h q
    simp [h58, this]
theorem takeWhile_sub {p : Nat → Bool} {l : List Nat} {c : Nat} (h : c ∈ l.takeWhile p) : c ∈ l := (List.takeWhile_sublist p).subset h
theorem rst_sub {p : Nat → Bool} {l : List Nat} {c : Nat} (h : c ∈ rst p l) : c ∈ l := by rw [rst_take] at h; exact List.mem_of_mem_take h
theorem lastSeg_sub {l : List Nat} {c : Nat} (h : c ∈ lastSeg l) : c ∈ l := by
  unfold lastSeg at h
  rw [List.mem_reverse] at h
  exact List.mem_reverse.mp (takeWhile_sub h)
theorem bareStep_ok (pre : List Int) (n : Int) (b : List Nat) (hb : ∀ c ∈ b, okC c) : ∀ c ∈ bareStep pre n b, okC c := by
  intro c hc
  unfold bareStep at hc
  split at hc
  · rcases List.mem_cons.mp (rst_sub hc) with h | h
    · subst h; unfold okC; decide
    · rcases List.mem_cons.mp h with h | h
      · subst h; unfold okC; decide
      · exact hb c h
  · split at hc
    · exact hb c (takeWhile_sub (lastSeg_sub hc))
    · exact hb c hc
theorem hand_flat (pre : List Int) {n : Int} (h0 : 0 ≤ n) (h6 : n ≤ 6) (b : List Nat) (hb : ∀ c ∈ b, okC c) : handL n (b.flatMap (codeL pre)) = (bareStep pre n b).flatMap (codeL (pre ++ [n])) := by
  by_cases h5 : n < 5
  · have : bareStep pre n b = b := by unfold bareStep; rw [if_neg (by omega), if_neg (by omega)]
    rw [this]; exact flatMap_esc pre h0 h5 b
  · have : n = 5 ∨ n = 6 := by omega
    rcases this with h | h
    · subst h; exact flatMap_comment pre b hb
    · subst h; exact flatMap_strip pre b
theorem run_from : ∀ (ns pre : List Int) (b : List Nat), (∀ n ∈ ns, 0 ≤ n ∧ n ≤ 6) → (∀ c ∈ b, okC c) → runL ns (b.flatMap (codeL pre)) = (bareFrom pre ns b).flatMap (codeL (pre ++ ns))
  | [], pre, b, _, _ => by rw [List.append_nil]; rfl
  | n :: ns, pre, b, hn, hb => by
    show runL ns (handL n (b.flatMap (codeL pre))) = (bareFrom (pre ++ [n]) ns (bareStep pre n b)).flatMap _
    rw [hand_flat pre (hn n (.head _)).1 (hn n (.head _)).2 b hb, run_from ns (pre ++ [n]) _ (fun m hm => hn m (.tail _ hm)) (bareStep_ok pre n b hb)]
    simp
/-- nothing is written until the end: the two roads meet -/
theorem run_told (ns : List Int) (l : List Nat) (hn : ∀ n ∈ ns, 0 ≤ n ∧ n ≤ 6) (hl : ∀ c ∈ l, okC c) : runL ns l = toldL ns l := by
  have h := run_from ns [] l hn hl
  have e : l.flatMap (codeL []) = l := by
    show l.flatMap (fun c => [c]) = l
    simp
  rw [e] at h
  exact h
end TMt2
theorem resetMt3 : True := by
  w_top off
  first | (walk1; done) | trivial
section TMt3
/-- k times «# » -/
noncomputable def hashes : Nat → List Nat
  | 0 => []
  | k + 1 => 35 :: 32 :: hashes k
theorem hashes_snoc : ∀ (k : Nat) (b : List Nat), hashes k ++ 35 :: 32 :: b = hashes (k + 1) ++ b
  | 0, _ => rfl
  | k + 1, b => by show 35 :: 32 :: (hashes k ++ 35 :: 32 :: b) = 35 :: 32 :: (hashes (k + 1) ++ b); rw [hashes_snoc k b]
theorem codeStep_bare {c : Nat} {t : List Nat} {n : Int} (h : CodeOk c t) (hs : codeStep c t n = [c]) : t = [c] := by
  apply Classical.byContradiction; intro ht
  rcases h with q | ⟨_, z, rfl, _, y, hy⟩
  · exact ht q
  · unfold codeStep at hs
    rw [if_neg ht] at hs
    split at hs
    · simp at hs
    · exact ht hs
theorem code_bare (pre : List Int) (c : Nat) : ∀ (r : List Int), codeL (pre ++ r) c = [c] → codeL pre c = [c] := by
  intro r
  obtain ⟨a, rfl⟩ : ∃ a : List Int, r = a.reverse := ⟨r.reverse, by simp⟩
  induction a with
  | nil => intro h; simpa using h
  | cons n a ih =>
    intro h
    rw [List.reverse_cons, ← List.append_assoc, codeL_snoc] at h
    exact ih (codeStep_bare (codeL_ok _ c) h)
theorem wsB_mono {pre r : List Int} {c : Nat} (h : wsB (pre ++ r) c = true) : wsB pre c = true := by
  unfold wsB at h ⊢
  rw [Bool.and_eq_true, decide_eq_true_eq] at h ⊢
  exact ⟨h.1, code_bare pre c r h.2⟩
theorem rst_settled {p : Nat → Bool} {b : List Nat} {c : Nat} (h : p c = false) : rst p (b ++ [c]) = b ++ [c] := by rw [rst_snoc, h, if_neg Bool.false_ne_true]
/-- once stripped, nothing more is stripped -/
theorem bare_settled : ∀ (r pre : List Int) (b : List Nat) (c : Nat), 6 ∉ r → wsB pre c = false → bareFrom pre r (b ++ [c]) = hashes (r.count 5) ++ (b ++ [c])
  | [], _, _, _, _, _ => rfl
  | n :: r, pre, b, c, h6, hc => by
    have hr : 6 ∉ r := fun q => h6 (.tail _ q)
    have hc' : wsB (pre ++ [n]) c = false := by
      cases q : wsB (pre ++ [n]) c with
      | false => rfl
      | true => rw [wsB_mono q] at hc; cases hc
    show bareFrom (pre ++ [n]) r (bareStep pre n (b ++ [c])) = _
    unfold bareStep
    by_cases h5 : n = 5
    · subst h5
      rw [if_pos rfl]
      have e : 35 :: 32 :: (b ++ [c]) = (35 :: 32 :: b) ++ [c] := rfl
      rw [e, rst_settled hc, bare_settled r _ _ c hr hc', ← e, hashes_snoc, List.count_cons_self]
    · have h6' : n ≠ 6 := fun q => h6 (q ▸ .head _)
      rw [if_neg h5, if_neg h6', bare_settled r _ _ c hr hc', List.count_cons_of_ne (by simpa using h5)]
/-- the first 5 strips -/
noncomputable def afterHash (r : List Int) (p : Nat → Bool) (b : List Nat) : List Nat := if 5 ∈ r then hashes (r.count 5 - 1) ++ rst p (35 :: 32 :: b) else b
theorem rst_last (p : Nat → Bool) (h35 : p 35 = false) (b : List Nat) : ∃ u c, rst p (35 :: b) = u ++ [c] ∧ p c = false := by
  obtain ⟨a, rfl⟩ : ∃ a : List Nat, b = a.reverse := ⟨b.reverse, by simp⟩
  induction a with
  | nil => exact ⟨[], 35, by simp [rst, h35], h35⟩
  | cons c a ih =>
    rw [List.reverse_cons]
    have e : 35 :: (a.reverse ++ [c]) = (35 :: a.reverse) ++ [c] := rfl
    rw [e, rst_snoc]
    split
    · exact ih
    · rename_i hc
      exact ⟨_, c, rfl, by simpa using hc⟩
theorem ws35 (pre : List Int) : wsB pre 35 = false := by unfold wsB; rfl
theorem upto5_cons_ne {n : Int} {r : List Int} (h : n ≠ 5) : upto5 (n :: r) = n :: upto5 r := by
  unfold upto5
  have e : List.idxOf 5 (n :: r) = List.idxOf 5 r + 1 := by
    rw [List.idxOf_cons]
    have : (n == 5) = false := by simpa using h
    rw [this]; rfl
  rw [e]; rfl
theorem upto5_cons_eq {r : List Int} : upto5 (5 :: r) = [] := by
  unfold upto5
  simp
/-- a row without a 6 -/
theorem bare_noSix : ∀ (r pre : List Int) (b : List Nat), 6 ∉ r → bareFrom pre r b = afterHash r (wsB (pre ++ upto5 r)) b
  | [], _, _, _ => rfl
  | n :: r, pre, b, h6 => by
    have hr : 6 ∉ r := fun q => h6 (.tail _ q)
    show bareFrom (pre ++ [n]) r (bareStep pre n b) = _
    by_cases h5 : n = 5
    · subst h5
      unfold bareStep afterHash
      rw [if_pos rfl, if_pos (.head _), upto5_cons_eq, List.append_nil]
      obtain ⟨u, c, e, hc⟩ := rst_last (wsB pre) (ws35 pre) (32 :: b)
      rw [e]
      have hc' : wsB (pre ++ [5]) c = false := by
        cases q : wsB (pre ++ [5]) c with
        | false => rfl
        | true => rw [wsB_mono q] at hc; cases hc
      rw [bare_settled r _ _ _ hr hc', List.count_cons_self]; rfl
    · have h6' : n ≠ 6 := fun q => h6 (q ▸ .head _)
      have e : bareStep pre n b = b := by unfold bareStep; rw [if_neg h5, if_neg h6']
      rw [e, bare_noSix r _ b hr, upto5_cons_ne h5, List.append_assoc]
      unfold afterHash
      have hm : (5 ∈ n :: r) ↔ (5 ∈ r) := by
        constructor
        · intro q; rcases List.mem_cons.mp q with q | q
          · exact absurd q.symm h5
          · exact q
        · exact fun q => .tail _ q
      rw [List.count_cons_of_ne (by simpa using h5)]
      by_cases hq : 5 ∈ r
      · rw [if_pos hq, if_pos (hm.mpr hq)]; rfl
      · rw [if_neg hq, if_neg (fun z => hq (hm.mp z))]
/-- nothing is left to cut -/
noncomputable def Clean (pre : List Int) (b : List Nat) : Prop := ∀ c ∈ b, c ≠ 46 ∧ c ≠ 58 ∧ codeL pre 10 ≠ [c]
theorem clean_mono {pre : List Int} {b : List Nat} (r : List Int) (h : Clean pre b) : Clean (pre ++ r) b := by
  intro c hc
  refine ⟨(h c hc).1, (h c hc).2.1, fun q => ?_⟩
  have e := code10 _ q
  subst e
  exact (h 10 hc).2.2 (code_bare pre 10 r q)
theorem takeWhile_all {p : Nat → Bool} : ∀ {l : List Nat}, (∀ c ∈ l, p c = true) → l.takeWhile p = l
  | [], _ => rfl
  | c :: l, h => by rw [List.takeWhile_cons, h c (.head _), if_pos rfl, takeWhile_all fun x hx => h x (.tail _ hx)]
theorem clean_step {pre : List Int} {b : List Nat} (h : Clean pre b) : lastSeg (cutB pre b) = b := by
  have e : cutB pre b = b := takeWhile_all fun c hc => by
    have := h c hc
    simp [this.2.1, this.2.2]
  rw [e, lastSeg, takeWhile_all, List.reverse_reverse]
  intro c hc
  simpa using (h c (List.mem_reverse.mp hc)).1
theorem clean_cut (pre : List Int) (b : List Nat) : Clean pre (lastSeg (cutB pre b)) := by
  intro c hc
  have h1 : c ≠ 46 := by
    unfold lastSeg at hc
    rw [List.mem_reverse] at hc
    have : ∀ (l : List Nat), c ∈ l.takeWhile (· != 46) → (c != 46) = true := by
      intro l
      induction l with
      | nil => intro h; simp at h
      | cons x l ih =>
        intro h
        rw [List.takeWhile_cons] at h
        split at h
        · rcases List.mem_cons.mp h with e | h
          · subst e; assumption
          · exact ih h
        · simp at h
    simpa using this _ hc
  have h2 : (c != 58 && decide (codeL pre 10 ≠ [c])) = true := by
    have hc' := lastSeg_sub hc
    unfold cutB at hc'
    have : ∀ (l : List Nat), c ∈ l.takeWhile (fun c => c != 58 && decide (codeL pre 10 ≠ [c])) → (c != 58 && decide (codeL pre 10 ≠ [c])) = true := by
      intro l
      induction l with
      | nil => intro h; simp at h
      | cons x l ih =>
        intro h
        rw [List.takeWhile_cons] at h
        split at h
        · rcases List.mem_cons.mp h with e | h
          · subst e; assumption
          · exact ih h
        · simp at h
    exact this _ hc'
  rw [Bool.and_eq_true, decide_eq_true_eq] at h2
  exact ⟨h1, by simpa using h2.1, h2.2⟩
theorem clean_sub {pre : List Int} {b d : List Nat} (h : Clean pre b) (hs : ∀ c ∈ d, c ∈ b ∨ c = 35 ∨ c = 32) : Clean pre d := by
  intro c hc
  rcases hs c hc with q | q | q
  · exact h c q
  · subst q; exact ⟨by decide, by decide, fun z => by have := code10 pre z; omega⟩
  · subst q; exact ⟨by decide, by decide, fun z => by have := code10 pre z; omega⟩
/-- behind the first 6, further ones do nothing -/
theorem bare_clean : ∀ (r pre : List Int) (b : List Nat), Clean pre b → bareFrom pre r b = bareFrom pre (r.filter (· != 6)) b
  | [], _, _, _ => rfl
  | n :: r, pre, b, h => by
    by_cases h6 : n = 6
    · subst h6
      have e : bareStep pre 6 b = b := clean_step h
      show bareFrom (pre ++ [6]) r (bareStep pre 6 b) = bareFrom pre (List.filter _ (6 :: r)) b
      rw [e, bare_clean r _ b (clean_mono [6] h), List.filter_cons_of_neg (by decide)]
      have key : ∀ (q p1 p2 : List Int) (b : List Nat), codeL p1 = codeL p2 → bareFrom p1 q b = bareFrom p2 q b := by
        intro q
        induction q with
        | nil => intro _ _ _ _; rfl
        | cons m q ih =>
          intro p1 p2 b he
          show bareFrom (p1 ++ [m]) q (bareStep p1 m b) = bareFrom (p2 ++ [m]) q (bareStep p2 m b)
          have e1 : bareStep p1 m b = bareStep p2 m b := by unfold bareStep wsB cutB; rw [he]
          rw [e1]
          exact ih _ _ _ (by funext c; rw [codeL_snoc, codeL_snoc, he])
      exact key _ _ _ _ (by funext c; rw [codeL_snoc]; rfl)
    · rw [List.filter_cons_of_pos (by simpa using h6)]
      show bareFrom (pre ++ [n]) r (bareStep pre n b) = bareFrom (pre ++ [n]) (r.filter (· != 6)) (bareStep pre n b)
      refine bare_clean r _ _ (clean_mono [n] (clean_sub h fun c hc => ?_))
      unfold bareStep at hc
      split at hc
      · rcases List.mem_cons.mp (rst_sub hc) with q | q
        · exact .inr (.inl q)
        · rcases List.mem_cons.mp q with q | q
          · exact .inr (.inr q)
          · exact .inl q
      · exact .inl hc
end TMt3
theorem resetMt4 : True := by
  w_top off
  first | (walk1; done) | trivial
section TMt4
theorem bareFrom_append : ∀ (a pre b : List Int) (x : List Nat), bareFrom pre (a ++ b) x = bareFrom (pre ++ a) b (bareFrom pre a x)
  | [], pre, b, x => by rw [List.append_nil]; rfl
  | n :: a, pre, b, x => by
    show bareFrom (pre ++ [n]) (a ++ b) (bareStep pre n x) = _
    rw [bareFrom_append a (pre ++ [n]) b, List.append_assoc]; rfl
theorem codeStep6 (c : Nat) (t : List Nat) : codeStep c t 6 = t := rfl
theorem code_skip6 (a u : List Int) : codeL (a ++ 6 :: u) = codeL (a ++ u) := by
  funext c
  simp [codeL, List.foldl_append, codeStep6]
theorem split6 {ns : List Int} (h : 6 ∈ ns) : ns = aheadL ns ++ 6 :: ns.drop (ns.idxOf 6 + 1) ∧ behindL ns = (ns.drop (ns.idxOf 6 + 1)).filter (· != 6) ∧ 6 ∉ aheadL ns := by
  have hlt : ns.idxOf 6 < ns.length := List.idxOf_lt_length_iff.mpr h
  have hg : ns[ns.idxOf 6] = 6 := by have := List.getElem_idxOf hlt; simpa using this
  have hd : ns.drop (ns.idxOf 6) = 6 :: ns.drop (ns.idxOf 6 + 1) := by rw [List.drop_eq_getElem_cons hlt, hg]
  refine ⟨?_, ?_, ?_⟩
  · unfold aheadL; rw [if_pos h, ← hd, List.take_append_drop]
  · unfold behindL; rw [if_pos h, hd, List.filter_cons_of_neg (by decide)]
  · unfold aheadL; rw [if_pos h]
    intro q
    obtain ⟨i, hi, he⟩ := List.getElem_of_mem q
    rw [List.getElem_take] at he
    have hi' : i < ns.idxOf 6 := by simp at hi; omega
    have := List.not_of_lt_findIdx (p := (· == 6)) (xs := ns) (i := i) hi'
    simp at this
    exact this he
theorem behind_no6 (ns : List Int) : 6 ∉ behindL ns := by
  unfold behindL
  intro q
  have := (List.mem_filter.mp q).2
  simp at this
/-- what is left bare, in one formula -/
theorem bare_nf (ns : List Int) (l : List Nat) : bareFrom [] ns l =
    if 6 ∈ ns then afterHash (behindL ns) (wsB (aheadL ns ++ upto5 (behindL ns))) (lastSeg (cutB (aheadL ns) (afterHash (aheadL ns) (wsB (upto5 (aheadL ns))) l)))
    else afterHash (aheadL ns) (wsB (upto5 (aheadL ns))) l := by
  by_cases h : 6 ∈ ns
  · rw [if_pos h]
    obtain ⟨h1, h2, h3⟩ := split6 h
    generalize hr : ns.drop (ns.idxOf 6 + 1) = r at h1 h2
    have e1 : bareFrom [] ns l = bareFrom (aheadL ns) (6 :: r) (bareFrom [] (aheadL ns) l) := by
      conv => lhs; rw [h1]
      rw [bareFrom_append, List.nil_append]
    rw [e1, bare_noSix _ [] l h3, List.nil_append]
    generalize afterHash (aheadL ns) (wsB (upto5 (aheadL ns))) l = b
    show bareFrom (aheadL ns ++ [6]) r (lastSeg (cutB (aheadL ns) b)) = _
    rw [bare_clean r _ _ (clean_mono [6] (clean_cut _ _)), ← h2, bare_noSix _ _ _ (behind_no6 ns)]
    have e2 : wsB (aheadL ns ++ [6] ++ upto5 (behindL ns)) = wsB (aheadL ns ++ upto5 (behindL ns)) := by
      funext c
      unfold wsB
      rw [List.append_assoc, List.singleton_append, code_skip6]
    rw [e2]
  · rw [if_neg h, bare_noSix ns [] l h]
    have e : aheadL ns = ns := by unfold aheadL; rw [if_neg h]
    rw [e, List.nil_append]
/-- line ends go with tabs -/
theorem nm_tab_nl (i : Nat) : (nm i 9).isSome = (nm i 10).isSome := by
  match i with
  | 0 => rfl | 1 => rfl | 2 => rfl | 3 => rfl | 4 => rfl
  | n + 5 => unfold nm; rfl
theorem nm_tab_cr (i : Nat) (h : (nm i 9).isSome = true) : (nm i 13).isSome = true := by
  match i with
  | 0 => cases h | 1 => rfl | 2 => cases h | 3 => cases h | 4 => rfl
  | n + 5 => unfold nm at h; cases h
theorem codeStep_eq_bare {c : Nat} {t : List Nat} {n : Int} (h : CodeOk c t) : codeStep c t n = [c] ↔ t = [c] ∧ (n < 5 → nm n.toNat c = none) := by
  constructor
  · intro hs
    have ht := codeStep_bare h hs
    refine ⟨ht, fun h5 => ?_⟩
    unfold codeStep at hs
    rw [if_pos h5, if_pos ht] at hs
    cases hn : nm n.toNat c with
    | none => rfl
    | some z => rw [hn] at hs; obtain ⟨_, y, hy⟩ := nm_inner hn; exact absurd hs (codeOk_ne hy)
  · rintro ⟨ht, hn⟩
    unfold codeStep
    by_cases h5 : n < 5
    · rw [if_pos h5, if_pos ht, hn h5]; exact ht
    · rw [if_neg h5]; exact ht
theorem bare_tab_nl (ns : List Int) : codeL ns 9 = [9] ↔ codeL ns 10 = [10] := by
  obtain ⟨ms, rfl⟩ : ∃ ms : List Int, ns = ms.reverse := ⟨ns.reverse, by simp⟩
  induction ms with
  | nil => simp [codeL]
  | cons n ms ih =>
    rw [List.reverse_cons, codeL_snoc, codeL_snoc, codeStep_eq_bare (codeL_ok _ 9), codeStep_eq_bare (codeL_ok _ 10), ih]
    have := nm_tab_nl n.toNat
    have e : nm n.toNat 9 = none ↔ nm n.toNat 10 = none := by
      rw [← Option.isNone_iff_eq_none, ← Option.isNone_iff_eq_none]
      cases h1 : nm n.toNat 9 <;> cases h2 : nm n.toNat 10 <;> simp_all
    rw [e]
theorem bare_cr_tab (ns : List Int) : codeL ns 13 = [13] → codeL ns 9 = [9] := by
  obtain ⟨ms, rfl⟩ : ∃ ms : List Int, ns = ms.reverse := ⟨ns.reverse, by simp⟩
  induction ms with
  | nil => intro _; rfl
  | cons n ms ih =>
    rw [List.reverse_cons, codeL_snoc, codeL_snoc, codeStep_eq_bare (codeL_ok _ 9), codeStep_eq_bare (codeL_ok _ 13)]
    rintro ⟨h1, h2⟩
    refine ⟨ih h1, fun h5 => ?_⟩
    cases h9 : nm n.toNat 9 with
    | none => rfl
    | some z =>
      have := nm_tab_cr n.toNat (by rw [h9]; rfl)
      rw [h2 h5] at this; cases this
/-- a line end's reference goes with a tab's -/
noncomputable def TabNl (a b : List Nat) : Prop := (a = [9] ∧ b = [10]) ∨ ∃ u, (a = 38 :: u ++ [48, 57, 59] ∧ b = 38 :: u ++ [49, 48, 59]) ∨ (a = 38 :: u ++ [120, 57, 59] ∧ b = 38 :: u ++ [120, 65, 59])
theorem tabNl_fun {a b b' : List Nat} (h : TabNl a b) (h' : TabNl a b') : b = b' := by
  have inj : ∀ {u v s t : List Nat}, s.length = t.length → 38 :: u ++ s = 38 :: v ++ t → u = v ∧ s = t := by
    intro u v s t hl e
    have e' : u ++ s = v ++ t := by simpa using e
    have hlen : u.length = v.length := by have := congrArg List.length e'; simp at this; omega
    exact List.append_inj e' hlen
  rcases h with ⟨rfl, rfl⟩ | ⟨u, ⟨rfl, rfl⟩ | ⟨rfl, rfl⟩⟩
  · rcases h' with ⟨_, rfl⟩ | ⟨v, ⟨e, _⟩ | ⟨e, _⟩⟩
    · rfl
    · simp at e
    · simp at e
  · rcases h' with ⟨e, _⟩ | ⟨v, ⟨e, rfl⟩ | ⟨e, _⟩⟩
    · simp at e
    · rw [(inj rfl e).1]
    · have q := (inj (s := [48, 57, 59]) (t := [120, 57, 59]) rfl e).2; exact absurd q (by decide)
  · rcases h' with ⟨e, _⟩ | ⟨v, ⟨e, _⟩ | ⟨e, rfl⟩⟩
    · simp at e
    · have q := (inj (s := [120, 57, 59]) (t := [48, 57, 59]) rfl e).2; exact absurd q (by decide)
    · rw [(inj rfl e).1]
theorem tabNl_code (ns : List Int) : TabNl (codeL ns 9) (codeL ns 10) := by
  obtain ⟨ms, rfl⟩ : ∃ ms : List Int, ns = ms.reverse := ⟨ns.reverse, by simp⟩
  induction ms with
  | nil => exact .inl ⟨rfl, rfl⟩
  | cons n ms ih =>
    rw [List.reverse_cons, codeL_snoc, codeL_snoc]
    unfold codeStep
    by_cases h5 : n < 5
    · rw [if_pos h5, if_pos h5]
      rcases ih with ⟨e1, e2⟩ | ⟨u, ⟨e1, e2⟩ | ⟨e1, e2⟩⟩
      · rw [if_pos e1, if_pos e2, e1, e2]
        have hc : ∀ i : Nat, TabNl (match nm i 9 with | some z => 38 :: z | none => [9]) (match nm i 10 with | some z => 38 :: z | none => [10]) := by
          intro i
          match i with
          | 0 => exact .inl ⟨rfl, rfl⟩
          | 1 => exact .inr ⟨[35], .inl ⟨rfl, rfl⟩⟩
          | 2 => exact .inl ⟨rfl, rfl⟩
          | 3 => exact .inl ⟨rfl, rfl⟩
          | 4 => exact .inr ⟨[35], .inr ⟨rfl, rfl⟩⟩
          | k + 5 => exact .inl ⟨rfl, rfl⟩
        exact hc _
      · rw [e1, e2, if_neg (by simp), if_neg (by simp)]
        exact .inr ⟨[97, 109, 112, 59] ++ u, .inl ⟨by simp, by simp⟩⟩
      · rw [e1, e2, if_neg (by simp), if_neg (by simp)]
        exact .inr ⟨[97, 109, 112, 59] ++ u, .inr ⟨by simp, by simp⟩⟩
    · rw [if_neg h5, if_neg h5]; exact ih
theorem code_all {ns ms : List Int} (h : ∀ c ∈ [38, 60, 62, 34, 13, 9], codeL ns c = codeL ms c) : codeL ns = codeL ms := by
  funext c
  by_cases hc : c ∈ [38, 60, 62, 34, 13, 10, 9]
  · simp only [List.mem_cons, List.not_mem_nil, or_false] at hc
    rcases hc with hc | hc | hc | hc | hc | hc | hc
    · exact h c (by simp [hc])
    · exact h c (by simp [hc])
    · exact h c (by simp [hc])
    · exact h c (by simp [hc])
    · exact h c (by simp [hc])
    · subst hc
      have h9 := h 9 (by simp)
      exact tabNl_fun (tabNl_code ns) (h9 ▸ tabNl_code ms)
    · exact h c (by simp [hc])
  · rw [code_plain ns hc, code_plain ms hc]
theorem ws_all {p q : List Int} (h1 : codeL p 13 = [13] ↔ codeL q 13 = [13]) (h2 : codeL p 9 = [9] ↔ codeL q 9 = [9]) : wsB p = wsB q := by
  funext c
  unfold wsB
  by_cases hc : c ∈ [32, 13, 10, 9]
  · simp only [List.mem_cons, List.not_mem_nil, or_false] at hc
    rcases hc with hc | hc | hc | hc <;> subst hc
    · rw [code_plain p (by decide), code_plain q (by decide)]
    · simp [h1]
    · have : codeL p 10 = [10] ↔ codeL q 10 = [10] := by rw [← bare_tab_nl, ← bare_tab_nl]; exact h2
      simp [this]
    · simp [h2]
  · have : ([32, 13, 10, 9] : List Nat).contains c = false := by simpa using hc
    rw [this]; rfl
theorem cut_all {p q : List Int} (h : codeL p 10 = [10] ↔ codeL q 10 = [10]) : cutB p = cutB q := by
  funext b
  unfold cutB
  congr 1
  funext c
  have : codeL p 10 = [c] ↔ codeL q 10 = [c] := by
    constructor
    · intro e; have := code10 p e; subst this; exact h.mp e
    · intro e; have := code10 q e; subst this; exact h.mpr e
  simp [this]
end TMt4
theorem resetMt5 : True := by
  w_top off
  first | (walk1; done) | trivial
section TMt5
/-- the hands alone say: alike -/
structure Same (ns ms : List Int) : Prop where
  six : 6 ∈ ns ↔ 6 ∈ ms
  ca : (aheadL ns).count 5 = (aheadL ms).count 5
  cb : (behindL ns).count 5 = (behindL ms).count 5
  codes : ∀ c ∈ [38, 60, 62, 34, 13, 9], codeL ns c = codeL ms c
  a5 : 5 ∈ aheadL ns → ((codeL (upto5 (aheadL ns)) 13 = [13] ↔ codeL (upto5 (aheadL ms)) 13 = [13]) ∧ (codeL (upto5 (aheadL ns)) 9 = [9] ↔ codeL (upto5 (aheadL ms)) 9 = [9]))
  n6 : 6 ∈ ns → (codeL (aheadL ns) 10 = [10] ↔ codeL (aheadL ms) 10 = [10])
  b5 : 5 ∈ behindL ns → ((codeL (aheadL ns ++ upto5 (behindL ns)) 13 = [13] ↔ codeL (aheadL ms ++ upto5 (behindL ms)) 13 = [13]) ∧ (codeL (aheadL ns ++ upto5 (behindL ns)) 9 = [9] ↔ codeL (aheadL ms ++ upto5 (behindL ms)) 9 = [9]))
theorem mem_count {r q : List Int} (h : r.count 5 = q.count 5) : 5 ∈ r ↔ 5 ∈ q := by
  rw [← List.count_pos_iff, ← List.count_pos_iff, h]
theorem any6 (ns : List Int) : (ns.any fun x => x == 6) = decide (6 ∈ ns) := by
  by_cases h : 6 ∈ ns
  · rw [decide_eq_true h]; simpa using h
  · rw [decide_eq_false h]; simp; intro x hx e; exact h (e ▸ hx)
theorem bareD_eq {p q : List Int} : bareD p = bareD q ↔ ((codeL p 13 = [13] ↔ codeL q 13 = [13]) ∧ (codeL p 9 = [9] ↔ codeL q 9 = [9])) := by
  unfold bareD
  simp
theorem opt_len {α : Type} {p q : Prop} [Decidable p] [Decidable q] (h : p ↔ q) (a b : α) : (if p then [a] else []).length = (if q then [b] else []).length := by
  by_cases hp : p
  · simp [hp, h.mp hp]
  · have hq : ¬ q := fun z => hp (h.mpr z)
    simp [hp, hq]
theorem opt_eq {α : Type} {p q : Prop} [Decidable p] [Decidable q] (h : p ↔ q) {a b : α} : (if p then [a] else []) = (if q then [b] else []) ↔ (p → a = b) := by
  by_cases hp : p
  · rw [if_pos hp, if_pos (h.mp hp)]; simp [hp]
  · rw [if_neg hp, if_neg (fun z => hp (h.mpr z))]; simp [hp]
theorem mark_same (ns ms : List Int) : markD ns = markD ms ↔ Same ns ms := by
  unfold markD
  rw [any6, any6, Dat.list.injEq]
  constructor
  · intro h
    simp only [List.cons_append, List.nil_append, List.cons.injEq, Dat.bool.injEq, Dat.int.injEq, List.append_assoc, decide_eq_decide] at h
    obtain ⟨h1, h2, h3, h4, h5⟩ := h
    have c1 : (aheadL ns).count 5 = (aheadL ms).count 5 := by omega
    have c2 : (behindL ns).count 5 = (behindL ms).count 5 := by omega
    obtain ⟨p1, h6⟩ := List.append_inj h5 (opt_len (mem_count c1) _ _)
    obtain ⟨p2, p3⟩ := List.append_inj h6 (opt_len h1 _ _)
    rw [opt_eq (mem_count c1)] at p1
    rw [opt_eq h1] at p2
    rw [opt_eq (mem_count c2)] at p3
    rw [Dat.list.injEq] at h4
    refine ⟨h1, c1, c2, fun c hc => ?_, fun q => bareD_eq.mp (p1 q), fun q => ?_, fun q => bareD_eq.mp (p3 q)⟩
    · have := (List.map_inj_left.mp h4) c hc
      rw [Dat.str.injEq] at this
      exact S_inj.mp this
    · have := p2 q
      rw [Dat.bool.injEq, decide_eq_decide] at this
      exact this
  · intro h
    have e1 : (fun c => Dat.str (S (codeL ns c))) = fun c => Dat.str (S (codeL ms c)) := by rw [code_all h.codes]
    have q1 := (opt_eq (mem_count h.ca)).mpr fun q => (bareD_eq (p := upto5 (aheadL ns)) (q := upto5 (aheadL ms))).mpr (h.a5 q)
    have q2 := (opt_eq h.six (a := Dat.bool (decide (codeL (aheadL ns) 10 = [10]))) (b := Dat.bool (decide (codeL (aheadL ms) 10 = [10])))).mpr fun q => by rw [Dat.bool.injEq, decide_eq_decide]; exact h.n6 q
    have q3 := (opt_eq (mem_count h.cb)).mpr fun q => (bareD_eq (p := aheadL ns ++ upto5 (behindL ns)) (q := aheadL ms ++ upto5 (behindL ms))).mpr (h.b5 q)
    have d1 : decide (6 ∈ ns) = decide (6 ∈ ms) := decide_eq_decide.mpr h.six
    rw [q1, q2, q3, e1, d1, h.ca, h.cb]
theorem afterHash_same {r q : List Int} {p p' : Nat → Bool} (hc : r.count 5 = q.count 5) (hp : 5 ∈ r → p = p') : afterHash r p = afterHash q p' := by
  funext b
  unfold afterHash
  by_cases h : 5 ∈ r
  · rw [if_pos h, if_pos ((mem_count hc).mp h), hc, hp h]
  · rw [if_neg h, if_neg (fun z => h ((mem_count hc).mpr z))]
theorem same_bare {ns ms : List Int} (h : Same ns ms) (l : List Nat) : bareFrom [] ns l = bareFrom [] ms l := by
  rw [bare_nf, bare_nf, afterHash_same h.ca (fun q => ws_all (h.a5 q).1 (h.a5 q).2), afterHash_same h.cb (fun q => ws_all (h.b5 q).1 (h.b5 q).2)]
  by_cases h6 : 6 ∈ ns
  · rw [if_pos h6, if_pos (h.six.mp h6), cut_all (h.n6 h6)]
  · rw [if_neg h6, if_neg (fun z => h6 (h.six.mpr z))]
/-- alike by the hands: alike on every text -/
theorem same_run {ns ms : List Int} (h : Same ns ms) (hn : ∀ n ∈ ns, 0 ≤ n ∧ n ≤ 6) (hm : ∀ n ∈ ms, 0 ≤ n ∧ n ≤ 6) (l : List Nat) (hl : ∀ c ∈ l, okC c) : runL ns l = runL ms l := by
  rw [run_told ns l hn hl, run_told ms l hm hl, toldL, toldL, same_bare h, code_all h.codes]
end TMt5
theorem resetMt6 : True := by
  w_top off
  first | (walk1; done) | trivial
section TMt6
noncomputable def t1L : List Nat := [98, 38, 98, 60, 98, 62, 98, 34, 98, 13, 98, 9, 98, 10, 98]
noncomputable def t2L : List Nat := [120, 46, 98, 13, 9]
noncomputable def t3L : List Nat := [120, 46, 98, 13, 9, 58, 122]
theorem rst_mid {p : Nat → Bool} {c : Nat} (h : p c = false) (u w : List Nat) : rst p (u ++ c :: w) = u ++ c :: rst p w := by
  obtain ⟨a, rfl⟩ : ∃ a : List Nat, w = a.reverse := ⟨w.reverse, by simp⟩
  induction a with
  | nil => exact rst_settled h
  | cons x a ih =>
    rw [List.reverse_cons]
    have e : u ++ c :: (a.reverse ++ [x]) = (u ++ c :: a.reverse) ++ [x] := by simp
    rw [e, rst_snoc, rst_snoc]
    split
    · exact ih
    · simp
noncomputable def tl5 (r : List Int) (p : Nat → Bool) (w : List Nat) : List Nat := if 5 ∈ r then rst p w else w
theorem ah_mid {r : List Int} {p : Nat → Bool} {c : Nat} (h : p c = false) (u w : List Nat) : afterHash r p (u ++ c :: w) = hashes (r.count 5) ++ (u ++ c :: tl5 r p w) := by
  unfold afterHash tl5
  by_cases h5 : 5 ∈ r
  · rw [if_pos h5, if_pos h5]
    have e : 35 :: 32 :: (u ++ c :: w) = (35 :: 32 :: u) ++ c :: w := rfl
    rw [e, rst_mid h]
    have hp : 0 < r.count 5 := List.count_pos_iff.mpr h5
    show hashes (r.count 5 - 1) ++ 35 :: 32 :: (u ++ c :: rst p w) = _
    rw [hashes_snoc]
    congr 2; omega
  · rw [if_neg h5, if_neg h5]
    have : r.count 5 = 0 := List.count_eq_zero.mpr h5
    rw [this]; rfl
theorem hashes_mem : ∀ {k : Nat} {c : Nat}, c ∈ hashes k → c = 35 ∨ c = 32
  | 0, _, h => by simp [hashes] at h
  | k + 1, c, h => by
    rcases List.mem_cons.mp h with h | h
    · exact .inl h
    · rcases List.mem_cons.mp h with h | h
      · exact .inr h
      · exact hashes_mem h
theorem hashes_code (ns : List Int) : ∀ k, (hashes k).flatMap (codeL ns) = hashes k
  | 0 => rfl
  | k + 1 => by
    show codeL ns 35 ++ (codeL ns 32 ++ (hashes k).flatMap (codeL ns)) = _
    rw [hashes_code ns k, code_plain ns (c := 35) (by decide), code_plain ns (c := 32) (by decide)]; rfl
theorem takeWhile_app {p : Nat → Bool} : ∀ (u v : List Nat), (∀ x ∈ u, p x = true) → (u ++ v).takeWhile p = u ++ v.takeWhile p
  | [], _, _ => rfl
  | x :: u, v, hu => by rw [List.cons_append, List.takeWhile_cons, hu x (.head _), if_pos rfl, takeWhile_app u v fun y hy => hu y (.tail _ hy)]; rfl
theorem cut_app (pre : List Int) (u v : List Nat) (hu : ∀ x ∈ u, x ≠ 58 ∧ x ≠ 10) : cutB pre (u ++ v) = u ++ cutB pre v := by
  refine takeWhile_app u v fun x hx => ?_
  have : codeL pre 10 ≠ [x] := fun q => (hu x hx).2 (code10 pre q)
  simp [(hu x hx).1, this]
theorem seg_dot (u v : List Nat) (hv : 46 ∉ v) : lastSeg (u ++ 46 :: v) = v := by
  unfold lastSeg
  have e : (u ++ 46 :: v).reverse = v.reverse ++ 46 :: u.reverse := by simp
  rw [e, takeWhile_app]
  · simp
  · intro x hx
    have : x ≠ 46 := fun q => hv (q ▸ List.mem_reverse.mp hx)
    simpa using this
theorem seg_none (v : List Nat) (hv : 46 ∉ v) : lastSeg v = v := by
  unfold lastSeg
  rw [takeWhile_all, List.reverse_reverse]
  intro x hx
  have : x ≠ 46 := fun q => hv (q ▸ List.mem_reverse.mp hx)
  simpa using this
theorem hashes_add : ∀ (a b : Nat), hashes a ++ hashes b = hashes (a + b)
  | 0, b => by rw [Nat.zero_add]; rfl
  | a + 1, b => by rw [Nat.succ_add]; show 35 :: 32 :: (hashes a ++ hashes b) = _; rw [hashes_add a b]; rfl
theorem ws98 (pre : List Int) : wsB pre 98 = false := rfl
theorem ws122 (pre : List Int) : wsB pre 122 = false := rfl
noncomputable abbrev wA (ns : List Int) := wsB (upto5 (aheadL ns))
noncomputable abbrev wBh (ns : List Int) := wsB (aheadL ns ++ upto5 (behindL ns))
theorem behind_nil {ns : List Int} (h : 6 ∉ ns) : behindL ns = [] := by unfold behindL; rw [if_neg h]; rfl
theorem tl5_nil (r : List Int) (p : Nat → Bool) : tl5 r p [] = [] := by unfold tl5; split <;> rfl
theorem tl5_sub {r : List Int} {p : Nat → Bool} {w : List Nat} {c : Nat} (h : c ∈ tl5 r p w) : c ∈ w := by
  unfold tl5 at h; split at h
  · exact rst_sub h
  · exact h
theorem h_ne {k c : Nat} (h : c ∈ hashes k) : c ≠ 58 ∧ c ≠ 10 ∧ c ≠ 46 := by rcases hashes_mem h with q | q <;> (subst q; decide)
/-- what is left bare of the three texts -/
theorem bare2 (ns : List Int) : bareFrom [] ns t2L = if 6 ∈ ns then hashes ((behindL ns).count 5) ++ 98 :: tl5 (behindL ns) (wBh ns) (tl5 (aheadL ns) (wA ns) [13, 9]) else hashes ((aheadL ns).count 5) ++ 120 :: 46 :: 98 :: tl5 (aheadL ns) (wA ns) [13, 9] := by
  have e : t2L = [120, 46] ++ 98 :: [13, 9] := rfl
  rw [bare_nf, e, ah_mid (ws98 _)]
  by_cases h : 6 ∈ ns
  · rw [if_pos h, if_pos h]
    have hw : ∀ x ∈ tl5 (aheadL ns) (wA ns) [13, 9], x = 13 ∨ x = 9 := fun x hx => by simpa using tl5_sub hx
    have e2 : cutB (aheadL ns) (hashes ((aheadL ns).count 5) ++ ([120, 46] ++ 98 :: tl5 (aheadL ns) (wA ns) [13, 9])) = hashes ((aheadL ns).count 5) ++ ([120, 46] ++ 98 :: tl5 (aheadL ns) (wA ns) [13, 9]) := by
      have := cut_app (aheadL ns) (hashes ((aheadL ns).count 5) ++ ([120, 46] ++ 98 :: tl5 (aheadL ns) (wA ns) [13, 9])) [] (by
        intro x hx
        rcases List.mem_append.mp hx with q | q
        · exact ⟨(h_ne q).1, (h_ne q).2.1⟩
        · simp only [List.cons_append, List.nil_append, List.mem_cons] at q
          rcases q with q | q | q | q
          · subst q; decide
          · subst q; decide
          · subst q; decide
          · rcases hw x q with q | q <;> (subst q; decide))
      rw [List.append_nil] at this
      rw [this]; simp [cutB]
    rw [e2]
    have e3 : hashes ((aheadL ns).count 5) ++ ([120, 46] ++ 98 :: tl5 (aheadL ns) (wA ns) [13, 9]) = (hashes ((aheadL ns).count 5) ++ [120]) ++ 46 :: (98 :: tl5 (aheadL ns) (wA ns) [13, 9]) := by simp
    rw [e3, seg_dot _ _ (by
      intro q
      rcases List.mem_cons.mp q with q | q
      · exact absurd q (by decide)
      · rcases hw _ q with q | q <;> exact absurd q (by decide))]
    have := ah_mid (r := behindL ns) (ws98 (aheadL ns ++ upto5 (behindL ns))) [] (tl5 (aheadL ns) (wA ns) [13, 9])
    simpa using this
  · rw [if_neg h, if_neg h]; rfl
theorem bare3 (ns : List Int) : bareFrom [] ns t3L = if 6 ∈ ns then hashes ((behindL ns).count 5) ++ 98 :: tl5 (behindL ns) (wBh ns) [13, 9] else hashes ((aheadL ns).count 5) ++ t3L := by
  have e : t3L = [120, 46, 98, 13, 9, 58] ++ 122 :: [] := rfl
  rw [bare_nf, e, ah_mid (ws122 _), tl5_nil]
  by_cases h : 6 ∈ ns
  · rw [if_pos h, if_pos h]
    have e2 : cutB (aheadL ns) (hashes ((aheadL ns).count 5) ++ ([120, 46, 98, 13, 9, 58] ++ [122])) = hashes ((aheadL ns).count 5) ++ [120, 46, 98, 13, 9] := by
      have := cut_app (aheadL ns) (hashes ((aheadL ns).count 5) ++ [120, 46, 98, 13, 9]) [58, 122] (by
        intro x hx
        rcases List.mem_append.mp hx with q | q
        · exact ⟨(h_ne q).1, (h_ne q).2.1⟩
        · simp only [List.mem_cons, List.not_mem_nil, or_false] at q
          rcases q with q | q | q | q | q <;> (subst q; decide))
      have e3 : cutB (aheadL ns) [58, 122] = [] := rfl
      rw [e3] at this
      simpa using this
    rw [e2]
    have e3 : hashes ((aheadL ns).count 5) ++ [120, 46, 98, 13, 9] = (hashes ((aheadL ns).count 5) ++ [120]) ++ 46 :: [98, 13, 9] := by simp
    rw [e3, seg_dot _ _ (by decide)]
    have := ah_mid (r := behindL ns) (ws98 (aheadL ns ++ upto5 (behindL ns))) [] [13, 9]
    simpa using this
  · rw [if_neg h, if_neg h]
theorem bare1 (ns : List Int) : bareFrom [] ns t1L = hashes ((behindL ns).count 5 + (aheadL ns).count 5) ++ ([98, 38, 98, 60, 98, 62, 98, 34, 98, 13, 98, 9] ++ 98 :: (if 6 ∈ ns ∧ codeL (aheadL ns) 10 = [10] then [] else [10, 98])) := by
  have e : t1L = [98, 38, 98, 60, 98, 62, 98, 34, 98, 13, 98, 9, 98, 10] ++ 98 :: [] := rfl
  rw [bare_nf, e, ah_mid (ws98 _), tl5_nil]
  by_cases h : 6 ∈ ns
  · rw [if_pos h]
    have hp : ∀ x ∈ hashes ((aheadL ns).count 5) ++ [98, 38, 98, 60, 98, 62, 98, 34, 98, 13, 98, 9, 98], x ≠ 58 ∧ x ≠ 10 := by
      intro x hx
      rcases List.mem_append.mp hx with q | q
      · exact ⟨(h_ne q).1, (h_ne q).2.1⟩
      · simp only [List.mem_cons, List.not_mem_nil, or_false] at q
        rcases q with q | q | q | q | q | q | q | q | q | q | q | q | q <;> (subst q; decide)
    have e2 := cut_app (aheadL ns) (hashes ((aheadL ns).count 5) ++ [98, 38, 98, 60, 98, 62, 98, 34, 98, 13, 98, 9, 98]) [10, 98] hp
    have e3 : cutB (aheadL ns) [10, 98] = if codeL (aheadL ns) 10 = [10] then [] else [10, 98] := by
      unfold cutB
      by_cases q : codeL (aheadL ns) 10 = [10]
      · rw [if_pos q]; simp [q]
      · have q2 : codeL (aheadL ns) 10 ≠ [98] := fun z => absurd (code10 _ z) (by decide)
        rw [if_neg q]; simp [q, q2]
    rw [e3] at e2
    have e4 : hashes ((aheadL ns).count 5) ++ ([98, 38, 98, 60, 98, 62, 98, 34, 98, 13, 98, 9, 98, 10] ++ [98]) = (hashes ((aheadL ns).count 5) ++ [98, 38, 98, 60, 98, 62, 98, 34, 98, 13, 98, 9, 98]) ++ [10, 98] := by simp
    rw [e4, e2, seg_none _ (by
      intro q
      rcases List.mem_append.mp q with q | q
      · rcases List.mem_append.mp q with q | q
        · exact (h_ne q).2.2 rfl
        · exact absurd q (by decide)
      · split at q <;> exact absurd q (by decide))]
    by_cases q : codeL (aheadL ns) 10 = [10]
    · rw [if_pos q, if_pos ⟨h, q⟩]
      have := ah_mid (r := behindL ns) (ws98 (aheadL ns ++ upto5 (behindL ns))) (hashes ((aheadL ns).count 5) ++ [98, 38, 98, 60, 98, 62, 98, 34, 98, 13, 98, 9]) []
      rw [tl5_nil] at this
      rw [← hashes_add]
      simpa using this
    · rw [if_neg q, if_neg (fun z => q z.2)]
      have := ah_mid (r := behindL ns) (ws98 (aheadL ns ++ upto5 (behindL ns))) (hashes ((aheadL ns).count 5) ++ [98, 38, 98, 60, 98, 62, 98, 34, 98, 13, 98, 9, 98, 10]) []
      rw [tl5_nil] at this
      rw [← hashes_add]
      simpa using this
  · rw [if_neg h, if_neg (fun z => h z.1), behind_nil h]
    simp
end TMt6
theorem resetMt7 : True := by
  w_top off
  first | (walk1; done) | trivial
section TMt7
theorem head_inj : ∀ {k k' x x' : Nat} {u v : List Nat}, x ≠ 35 → x' ≠ 35 → hashes k ++ x :: u = hashes k' ++ x' :: v → k = k' ∧ x = x' ∧ u = v
  | 0, 0, _, _, _, _, _, _, h => by
    have h' : _ :: _ = _ :: _ := h
    injection h' with h1 h2
    exact ⟨rfl, h1, h2⟩
  | 0, k + 1, _, _, _, _, hx, _, h => by
    have h' : _ :: _ = 35 :: _ := h
    injection h' with h1 _
    exact absurd h1 hx
  | k + 1, 0, _, _, _, _, _, hx, h => by
    have h' : 35 :: _ = _ :: _ := h
    injection h' with h1 _
    exact absurd h1.symm hx
  | k + 1, k' + 1, _, _, u, v, hx, hx', h => by
    have h' : 35 :: 32 :: (hashes k ++ _ :: u) = 35 :: 32 :: (hashes k' ++ _ :: v) := h
    injection h' with _ h'
    injection h' with _ h'
    obtain ⟨h1, h2, h3⟩ := head_inj hx hx' h'
    exact ⟨by omega, h2, h3⟩
theorem split_inj {x : Nat} : ∀ {u u' v v' : List Nat}, x ∉ u → x ∉ u' → u ++ x :: v = u' ++ x :: v' → u = u' ∧ v = v'
  | [], [], _, _, _, _, h => by
    have h' : x :: _ = x :: _ := h
    injection h' with _ h2
    exact ⟨rfl, h2⟩
  | [], y :: u', _, _, _, hu, h => by
    have h' : x :: _ = y :: _ := h
    injection h' with h1 _
    exact absurd (h1 ▸ .head _) hu
  | y :: u, [], _, _, hu, _, h => by
    have h' : y :: _ = x :: _ := h
    injection h' with h1 _
    exact absurd (h1 ▸ .head _) hu
  | y :: u, z :: u', _, _, hu, hu', h => by
    have h' : y :: (u ++ x :: _) = z :: (u' ++ x :: _) := h
    injection h' with h1 h2
    obtain ⟨h3, h4⟩ := split_inj (fun q => hu (.tail _ q)) (fun q => hu' (.tail _ q)) h2
    exact ⟨by rw [h1, h3], h4⟩
theorem code98 (ns : List Int) {c : Nat} (hc : c ≠ 98) : 98 ∉ codeL ns c := by
  rcases codeL_ok ns c with q | ⟨_, z, hz, hin, _⟩
  · rw [q]; simpa using fun e => hc e.symm
  · rw [hz]
    intro h
    rcases List.mem_cons.mp h with h | h
    · exact absurd h (by decide)
    · have := hin 98 h
      unfold inner at this
      exact absurd this (by decide)
theorem code_ne_nil (ns : List Int) (c : Nat) : codeL ns c ≠ [] := by
  have := (codeL_len c ns).2
  intro q; rw [q] at this; simp at this
theorem run1 (ns : List Int) : toldL ns t1L = hashes ((behindL ns).count 5 + (aheadL ns).count 5) ++ 98 :: (codeL ns 38 ++ 98 :: (codeL ns 60 ++ 98 :: (codeL ns 62 ++ 98 :: (codeL ns 34 ++ 98 :: (codeL ns 13 ++ 98 :: (codeL ns 9 ++ 98 :: (if 6 ∈ ns ∧ codeL (aheadL ns) 10 = [10] then [] else codeL ns 10 ++ [98]))))))) := by
  have h98 := code_plain ns (c := 98) (by decide)
  rw [toldL, bare1, List.flatMap_append, hashes_code]
  congr 1
  split
  · simp [List.flatMap_cons, h98]
  · simp [List.flatMap_cons, h98]
theorem run2 (ns : List Int) : toldL ns t2L = if 6 ∈ ns then hashes ((behindL ns).count 5) ++ 98 :: (tl5 (behindL ns) (wBh ns) (tl5 (aheadL ns) (wA ns) [13, 9])).flatMap (codeL ns) else hashes ((aheadL ns).count 5) ++ 120 :: 46 :: 98 :: (tl5 (aheadL ns) (wA ns) [13, 9]).flatMap (codeL ns) := by
  have h98 := code_plain ns (c := 98) (by decide)
  have h120 := code_plain ns (c := 120) (by decide)
  have h46 := code_plain ns (c := 46) (by decide)
  rw [toldL, bare2]
  split
  · rw [List.flatMap_append, hashes_code, List.flatMap_cons, h98]; rfl
  · rw [List.flatMap_append, hashes_code, List.flatMap_cons, List.flatMap_cons, List.flatMap_cons, h98, h120, h46]; rfl
theorem run3 {ns : List Int} (h : 6 ∈ ns) : toldL ns t3L = hashes ((behindL ns).count 5) ++ 98 :: (tl5 (behindL ns) (wBh ns) [13, 9]).flatMap (codeL ns) := by
  have h98 := code_plain ns (c := 98) (by decide)
  rw [toldL, bare3, if_pos h, List.flatMap_append, hashes_code, List.flatMap_cons, h98]; rfl
/-- the three ends that a tail may have -/
noncomputable def Tail (w : List Nat) : Prop := w = [] ∨ w = [13] ∨ w = [13, 9]
theorem tail_rst {p : Nat → Bool} {w : List Nat} (h : Tail w) : Tail (rst p w) := by
  rcases h with h | h | h
  · subst h; exact .inl rfl
  · subst h
    have : rst p [13] = if p 13 = true then rst p [] else [13] := rst_snoc p [] 13
    rw [this]; split
    · exact .inl rfl
    · exact .inr (.inl rfl)
  · subst h
    have e1 : rst p [13, 9] = if p 9 = true then rst p [13] else [13, 9] := rst_snoc p [13] 9
    have e2 : rst p [13] = if p 13 = true then rst p [] else [13] := rst_snoc p [] 13
    rw [e1, e2]; split
    · split
      · exact .inl rfl
      · exact .inr (.inl rfl)
    · exact .inr (.inr rfl)
theorem tail_tl5 {r : List Int} {p : Nat → Bool} {w : List Nat} (h : Tail w) : Tail (tl5 r p w) := by
  unfold tl5; split
  · exact tail_rst h
  · exact h
theorem tail_inj {ns ms : List Int} (h13 : codeL ns 13 = codeL ms 13) (h9 : codeL ns 9 = codeL ms 9) {w w' : List Nat} (hw : Tail w) (hw' : Tail w') (h : w.flatMap (codeL ns) = w'.flatMap (codeL ms)) : w = w' := by
  have n13 := code_ne_nil ms 13
  have n9 := code_ne_nil ms 9
  rcases hw with rfl | rfl | rfl <;> rcases hw' with rfl | rfl | rfl <;> simp_all
theorem rst_tail {p q : List Int} (h : rst (wsB p) [13, 9] = rst (wsB q) [13, 9]) : (codeL p 13 = [13] ↔ codeL q 13 = [13]) ∧ (codeL p 9 = [9] ↔ codeL q 9 = [9]) := by
  have e : ∀ p : List Int, rst (wsB p) [13, 9] = if codeL p 9 = [9] then (if codeL p 13 = [13] then [] else [13]) else [13, 9] := by
    intro p
    have e1 : rst (wsB p) [13, 9] = if wsB p 9 = true then rst (wsB p) [13] else [13, 9] := rst_snoc _ [13] 9
    have e2 : rst (wsB p) [13] = if wsB p 13 = true then rst (wsB p) [] else [13] := rst_snoc _ [] 13
    have w9 : wsB p 9 = decide (codeL p 9 = [9]) := rfl
    have w13 : wsB p 13 = decide (codeL p 13 = [13]) := rfl
    have e3 : rst (wsB p) [] = [] := rfl
    rw [e1, e2, w9, w13, e3]
    simp
  rw [e, e] at h
  have c1 := bare_cr_tab p
  have c2 := bare_cr_tab q
  by_cases a9 : codeL p 9 = [9] <;> by_cases b9 : codeL q 9 = [9] <;> by_cases a13 : codeL p 13 = [13] <;> by_cases b13 : codeL q 13 = [13] <;> simp_all
theorem rst_idem {p q : Nat → Bool} (h : ∀ c, q c = true → p c = true) (l : List Nat) : rst q (rst p l) = rst p l := by
  obtain ⟨a, rfl⟩ : ∃ a : List Nat, l = a.reverse := ⟨l.reverse, by simp⟩
  induction a with
  | nil => rfl
  | cons c a ih =>
    rw [List.reverse_cons, rst_snoc]
    split
    · exact ih
    · rename_i hc
      refine rst_settled ?_
      cases hq : q c with
      | false => rfl
      | true => exact absurd (h c hq) hc
theorem upto5_pre (r : List Int) : ∃ t, r = upto5 r ++ t := ⟨r.drop (r.idxOf 5), by unfold upto5; rw [List.take_append_drop]⟩
theorem tl_twice {ns : List Int} (h5 : 5 ∈ aheadL ns) : tl5 (behindL ns) (wBh ns) (tl5 (aheadL ns) (wA ns) [13, 9]) = tl5 (aheadL ns) (wA ns) [13, 9] := by
  unfold tl5
  rw [if_pos h5]
  split
  · refine rst_idem (fun c hc => ?_) _
    obtain ⟨t, ht⟩ := upto5_pre (aheadL ns)
    have hc' : wsB (aheadL ns ++ upto5 (behindL ns)) c = true := hc
    rw [ht, List.append_assoc] at hc'
    have := wsB_mono hc'
    exact this
  · rfl
theorem no46 (ns : List Int) {w : List Nat} (hw : Tail w) : 46 ∉ w.flatMap (codeL ns) := by
  intro h
  obtain ⟨c, hc, hx⟩ := List.mem_flatMap.mp h
  have hcc : c = 13 ∨ c = 9 := by rcases hw with rfl | rfl | rfl <;> simp_all
  by_cases q : codeL ns c = [c]
  · rw [q] at hx
    have := List.mem_singleton.mp hx
    omega
  · exact ((code_chars ns q).2 46 hx).2.2 rfl
/-- the three texts decide -/
theorem texts_same {ns ms : List Int} (h1 : toldL ns t1L = toldL ms t1L) (h2 : toldL ns t2L = toldL ms t2L) (h3 : toldL ns t3L = toldL ms t3L) : Same ns ms := by
  have T0 : Tail [13, 9] := .inr (.inr rfl)
  have six : 6 ∈ ns ↔ 6 ∈ ms := by
    have key : ∀ r : List Int, 46 ∈ toldL r t2L ↔ 6 ∉ r := by
      intro r
      rw [run2]
      by_cases h : 6 ∈ r
      · rw [if_pos h]
        refine ⟨fun q => ?_, fun q => absurd h q⟩
        rcases List.mem_append.mp q with q | q
        · exact absurd rfl (h_ne q).2.2
        · rcases List.mem_cons.mp q with q | q
          · exact absurd q (by decide)
          · exact absurd q (no46 r (tail_tl5 (tail_tl5 T0)))
      · rw [if_neg h]
        exact ⟨fun _ => h, fun _ => List.mem_append_right _ (.tail _ (.head _))⟩
    have := key ns
    rw [h2, key ms] at this
    constructor
    · intro a; apply Classical.byContradiction; intro b; exact (this.mp b) a
    · intro a; apply Classical.byContradiction; intro b; exact (this.mpr b) a
  rw [run1, run1] at h1
  obtain ⟨k1, _, g1⟩ := head_inj (by decide) (by decide) h1
  obtain ⟨c38, g1⟩ := split_inj (code98 ns (by decide)) (code98 ms (by decide)) g1
  obtain ⟨c60, g1⟩ := split_inj (code98 ns (by decide)) (code98 ms (by decide)) g1
  obtain ⟨c62, g1⟩ := split_inj (code98 ns (by decide)) (code98 ms (by decide)) g1
  obtain ⟨c34, g1⟩ := split_inj (code98 ns (by decide)) (code98 ms (by decide)) g1
  obtain ⟨c13, g1⟩ := split_inj (code98 ns (by decide)) (code98 ms (by decide)) g1
  obtain ⟨c9, g1⟩ := split_inj (code98 ns (by decide)) (code98 ms (by decide)) g1
  have codes : ∀ c ∈ [38, 60, 62, 34, 13, 9], codeL ns c = codeL ms c := by
    intro c hc
    simp only [List.mem_cons, List.not_mem_nil, or_false] at hc
    rcases hc with h | h | h | h | h | h <;> (subst h; assumption)
  rw [run2, run2] at h2
  by_cases h6 : 6 ∈ ns
  · have h6' := six.mp h6
    rw [if_pos h6, if_pos h6'] at h2
    obtain ⟨kb, _, g2⟩ := head_inj (by decide) (by decide) h2
    have ka : (aheadL ns).count 5 = (aheadL ms).count 5 := by omega
    rw [run3 h6, run3 h6'] at h3
    obtain ⟨_, _, g3⟩ := head_inj (by decide) (by decide) h3
    refine ⟨six, ka, kb, codes, fun q => ?_, fun _ => ?_, fun q => ?_⟩
    · have q' := (mem_count ka).mp q
      rw [tl_twice q, tl_twice q'] at g2
      have e := tail_inj c13 c9 (tail_tl5 T0) (tail_tl5 T0) g2
      unfold tl5 at e
      rw [if_pos q, if_pos q'] at e
      exact rst_tail e
    · by_cases a : codeL (aheadL ns) 10 = [10] <;> by_cases b : codeL (aheadL ms) 10 = [10]
      · exact ⟨fun _ => b, fun _ => a⟩
      · rw [if_pos ⟨h6, a⟩, if_neg (fun z => b z.2)] at g1; simp at g1
      · rw [if_neg (fun z => a z.2), if_pos ⟨h6', b⟩] at g1; simp at g1
      · exact ⟨fun z => absurd z a, fun z => absurd z b⟩
    · have q' := (mem_count kb).mp q
      have e := tail_inj c13 c9 (tail_tl5 T0) (tail_tl5 T0) g3
      unfold tl5 at e
      rw [if_pos q, if_pos q'] at e
      exact rst_tail e
  · have h6' : 6 ∉ ms := fun z => h6 (six.mpr z)
    rw [if_neg h6, if_neg h6'] at h2
    obtain ⟨ka, _, g2⟩ := head_inj (by decide) (by decide) h2
    have kb : (behindL ns).count 5 = (behindL ms).count 5 := by rw [behind_nil h6, behind_nil h6']
    refine ⟨six, ka, kb, codes, fun q => ?_, fun q => absurd q h6, fun q => ?_⟩
    · have q' := (mem_count ka).mp q
      injection g2 with _ g2
      injection g2 with _ g2
      have e := tail_inj c13 c9 (tail_tl5 T0) (tail_tl5 T0) g2
      unfold tl5 at e
      rw [if_pos q, if_pos q'] at e
      exact rst_tail e
    · rw [behind_nil h6] at q; simp at q
/-- three texts decide about all -/
theorem three_decide {ns ms : List Int} (hn : ∀ n ∈ ns, 0 ≤ n ∧ n ≤ 6) (hm : ∀ n ∈ ms, 0 ≤ n ∧ n ≤ 6) :
    (runL ns t1L = runL ms t1L ∧ runL ns t2L = runL ms t2L ∧ runL ns t3L = runL ms t3L) ↔ markD ns = markD ms := by
  have o1 : ∀ c ∈ t1L, okC c := by unfold okC t1L; decide
  have o2 : ∀ c ∈ t2L, okC c := by unfold okC t2L; decide
  have o3 : ∀ c ∈ t3L, okC c := by unfold okC t3L; decide
  rw [mark_same]
  constructor
  · rintro ⟨h1, h2, h3⟩
    rw [run_told ns _ hn o1, run_told ms _ hm o1] at h1
    rw [run_told ns _ hn o2, run_told ms _ hm o2] at h2
    rw [run_told ns _ hn o3, run_told ms _ hm o3] at h3
    exact texts_same h1 h2 h3
  · intro h
    exact ⟨same_run h hn hm _ o1, same_run h hn hm _ o2, same_run h hn hm _ o3⟩
end TMt7
theorem resetC9a : True := by
  w_top off
  first | (walk1; done) | trivial
section TC9a


theorem il_item {w : World} {A : Around} {E : Value → Shared → Prop} {s : Shared} {l : Addr} {vs : List Value} {ns : List Int} {k : Nat} {u : Tok} {n : Int} {Q : Value → Shared → Prop} {value slice : Expr}
    (hl : s.heap.IsList l vs.toArray) (hi : IntsAre vs ns) (hk : ns[k]? = some n) (h5 : k ≤ 1000)
    (hs : subscripted slice false (.ref l) (.int (k : Nat) u) = operate [.ref l, .int (k : Nat) u] (getItem (.ref l) (.int (k : Nat) u)))
    (hQ : ∀ t, Q (.int n t) s) : wpAny (model Challenge.rw_pg0133_01.row.prog w) A (subscriptTail value slice (.ref l) (.int (k : Nat) u)) Q E s := by
  have key : ∀ {vs : List Value} {ns : List Int}, IntsAre vs ns → ∀ (k : Nat) (n : Int), ns[k]? = some n → ∃ t, vs[k]? = some (.int n t) := by
    intro vs ns h
    induction h with
    | nil => intro k n h; simp at h
    | cons m t _ ih =>
      intro k n h
      cases k with
      | zero => simp at h; exact ⟨t, by simp [h]⟩
      | succ k => exact ih k n (by simpa using h)
  obtain ⟨t, ht⟩ := key hi k n hk
  exact tail_any hl.typeIs slot_list_getitem.lookup (wpAny_getItem_list hl (Int.natCast_nonneg _) (by omega) (by simpa using ht) (hQ t)) hs
theorem str_last {w : World} {A : Around} {E : Value → Shared → Prop} {s : Shared} {u : List Nat} {c : Nat} {t v : Tok} {Q : Value → Shared → Prop} {value slice : Expr} (hlen : u.length ≤ 1000)
    (hs : subscripted slice false (.str (S (u ++ [c])) t) (.int (-1) v) = operate [.str (S (u ++ [c])) t, .int (-1) v] (getItem (.str (S (u ++ [c])) t) (.int (-1) v)))
    (hQ : Q (.str (S [c]) s.toks) { s with toks := s.toks + 1 }) : wpAny (model Challenge.rw_pg0133_01.row.prog w) A (subscriptTail value slice (.str (S (u ++ [c])) t) (.int (-1) v)) Q E s := by
  refine tail_any (typeIs_str s _ t) PySem.F.slot_str_getitem.lookup (PyProof.Rows.getItem_str (by decide) ?_ hQ) hs
  have e : seqIndex? (-1) (S (u ++ [c])).length = some u.length := by
    rw [S_len]
    unfold seqIndex?
    simp
    omega
  rw [e]
  simp [S]
theorem str_at {w : World} {A : Around} {E : Value → Shared → Prop} {s : Shared} {b : List Nat} {k c : Nat} {t v : Tok} {Q : Value → Shared → Prop} {value slice : Expr} (hk : b[k]? = some c) (hlen : b.length ≤ 1000)
    (hs : subscripted slice false (.str (S b) t) (.int (k : Nat) v) = operate [.str (S b) t, .int (k : Nat) v] (getItem (.str (S b) t) (.int (k : Nat) v)))
    (hQ : Q (.str (S [c]) s.toks) { s with toks := s.toks + 1 }) : wpAny (model Challenge.rw_pg0133_01.row.prog w) A (subscriptTail value slice (.str (S b) t) (.int (k : Nat) v)) Q E s := by
  have hlt : k < b.length := by
    apply Classical.byContradiction; intro q
    rw [List.getElem?_eq_none (by omega)] at hk; cases hk
  refine tail_any (typeIs_str s _ t) PySem.F.slot_str_getitem.lookup (PyProof.Rows.getItem_str ?_ ?_ hQ) hs
  · have h1 : ¬ ((k : Int) < -(2 ^ 63)) := by omega
    have h2 : ¬ ((k : Int) ≥ 2 ^ 63) := by omega
    rw [decide_eq_false h1, decide_eq_false h2]; rfl
  have e : seqIndex? (k : Int) (S b).length = some k := by
    rw [S_len]
    unfold seqIndex?
    simp
    omega
  rw [e]
  simpa [S] using hk
theorem in_ws {w : World} {A : Around} {E : Value → Shared → Prop} {s : Shared} {c : Nat} {l : List Nat} {x : Str} {t u : Tok} {Q : Value → Shared → Prop} (hx : x = S l) (h : Q (.bool (decide (c ∈ l))) s) : wpAny (model Challenge.rw_pg0133_01.row.prog w) A (compareOp .In (.str (S [c]) u) (.str x t)) Q E s := by
  subst hx
  refine in_str ?_
  rw [in_S, Bool.not_not]; exact h
theorem in_two {w : World} {A : Around} {E : Value → Shared → Prop} {s : Shared} {c : Nat} {l : List Nat} {x : Str} {t u : Tok} {Q : Bool → Shared → Prop} (hx : x = S l) (h1 : c ∈ l → Q true s) (h2 : c ∉ l → Q false s) : wpAny (model Challenge.rw_pg0133_01.row.prog w) A (compareOp .In (.str (S [c]) u) (.str x t)) (fun v s' => wpAny (model Challenge.rw_pg0133_01.row.prog w) A (truthy v) Q E s') E s := by
  refine in_ws hx (wpAny_truthy_bool ?_)
  by_cases hc : c ∈ l
  · rw [decide_eq_true hc]; exact h1 hc
  · rw [decide_eq_false hc]; exact h2 hc
theorem ws_eq : Str.ofString " \r\n\t" = S [32, 13, 10, 9] := by decide +kernel
theorem bareFrom_take (ns : List Int) (l : List Nat) {i : Nat} {n : Int} (h : ns[i]? = some n) : bareFrom [] (ns.take (i + 1)) l = bareStep (ns.take i) n (bareFrom [] (ns.take i) l) := by
  have app : ∀ (a pre : List Int) (x : List Nat), bareFrom pre (a ++ [n]) x = bareStep (pre ++ a) n (bareFrom pre a x) := by
    intro a
    induction a with
    | nil => intro pre x; rw [List.append_nil]; rfl
    | cons m a ih => intro pre x; show bareFrom (pre ++ [m]) (a ++ [n]) (bareStep pre m x) = _; rw [ih, List.append_assoc]; rfl
  rw [take_snoc h, app, List.nil_append]
theorem bareStep_len (pre : List Int) (n : Int) (b : List Nat) : (bareStep pre n b).length ≤ b.length + 2 := by
  unfold bareStep
  split
  · exact rst_len _ _
  · split
    · exact Nat.le_trans (lastSeg_len _) (Nat.le_trans (List.takeWhile_sublist _).length_le (by omega))
    · omega
theorem bare_len (ns : List Int) (l : List Nat) : ∀ i, i ≤ ns.length → (bareFrom [] (ns.take i) l).length ≤ l.length + 2 * i
  | 0, _ => by rw [List.take_zero]; exact Nat.le_refl _
  | i + 1, hi => by
    have h := List.getElem?_eq_getElem (l := ns) (i := i) (by omega)
    rw [bareFrom_take ns l h]
    have := bare_len ns l i (by omega)
    have := bareStep_len (ns.take i) ns[i] (bareFrom [] (ns.take i) l)
    omega
theorem slice_init (u : List Nat) (c : Nat) : Txt.slice (S (u ++ [c])) none (some (-1)) = S u := by
  have e : Builtin.Str.strSliceIndices none (some (-1)) 1 (S (u ++ [c])).length = Builtin.Str.strSliceIndices (some ((0 : Nat) : Int)) (some ((u.length : Nat) : Int)) 1 (S (u ++ [c])).length := by
    rw [S_len]
    simp only [Builtin.Str.strSliceIndices, List.length_append, List.length_singleton]
    congr 1 <;> ((repeat' split) <;> omega)
  have q := slice_S (u ++ [c]) (a := 0) (b := u.length) (Nat.zero_le _) (by simp)
  have q2 : ((u ++ [c]).take u.length).drop 0 = u := by simp
  rw [q2] at q
  rw [← q]
  unfold Txt.slice
  rw [e]
theorem slice_to (l : List Nat) (k : Nat) (hk : k ≤ l.length) : Txt.slice (S l) none (some (k : Int)) = S (l.take k) := by
  have e : Builtin.Str.strSliceIndices none (some (k : Int)) 1 (S l).length = Builtin.Str.strSliceIndices (some ((0 : Nat) : Int)) (some ((k : Nat) : Int)) 1 (S l).length := by
    simp only [Builtin.Str.strSliceIndices]
    congr 1 <;> ((repeat' split) <;> omega)
  have q := slice_S l (a := 0) (b := k) (Nat.zero_le _) hk
  rw [List.drop_zero] at q
  rw [← q]
  unfold Txt.slice
  rw [e]
theorem inv_endC {h₀ h' : Heap} {L : Addr} {m' : Str → Option Value} {own nx news' : List (Addr × Obj)} {J : (Str → Option Value) → List (Addr × Obj) → Prop} {s₁ : Shared} {tk : Nat} (F : Fr h₀ L h' m') (N : News h₀ L h' news') (hs : ∀ p ∈ nx ++ own, p ∈ news') (hoff : OwnOff own (nx.map (·.1))) (hJ : J m' nx) : InvEndG h₀ L J own s₁ { s₁ with heap := h', toks := tk } :=
  ⟨_, _, _, _, nx, rfl, F, N, fun p hp => hs p (List.mem_append_left _ hp), fun p hp => hs p (List.mem_append_right _ hp), hoff, hJ⟩
theorem news_sub {h₀ h : Heap} {L : Addr} {a b : List (Addr × Obj)} (N : News h₀ L h a) (hs : ∀ p ∈ b, p ∈ a) : News h₀ L h b := fun p hp => N p (hs p hp)
end TC9a
theorem resetC9p : True := by
  w_top off
  first | (walk1; done) | trivial
section TC9p
theorem seg_app (a u : List Nat) : lastSeg (a ++ 46 :: u) = lastSeg u := by
  have e : ∀ (p : Nat → Bool) (x z : List Nat), p 46 = false → (x ++ 46 :: z).takeWhile p = x.takeWhile p := by
    intro p x z h
    induction x with
    | nil => rw [List.nil_append, List.takeWhile_cons, h]; rfl
    | cons b x ih => rw [List.cons_append, List.takeWhile_cons, List.takeWhile_cons, ih]
  unfold lastSeg
  rw [List.reverse_append, List.reverse_cons, List.append_assoc]
  show ((u.reverse ++ 46 :: a.reverse).takeWhile _).reverse = _
  rw [e _ _ _ (by decide)]
theorem seg_free (v : List Nat) (hv : 46 ∉ v) : lastSeg v = v := by
  unfold lastSeg
  rw [takeWhile_free (by simpa using hv), List.reverse_reverse]
theorem seg_join : ∀ (ps : List Str) (p : Str), (∀ q ∈ ps ++ [p], 46 ∉ q.cps.toList) → lastSeg (Str.join ⟨#[46]⟩ (ps ++ [p])).cps.toList = p.cps.toList
  | [], p, h => seg_free _ (h p (.head _))
  | [q], p, h => by
    show lastSeg (q ++ ⟨#[46]⟩ ++ p).cps.toList = _
    simp only [Str.cps_append, Array.toList_append, List.append_assoc]
    show lastSeg (q.cps.toList ++ 46 :: p.cps.toList) = _
    rw [seg_app, seg_free _ (h p (.tail _ (.head _)))]
  | q :: r :: ps, p, h => by
    have ih := seg_join (r :: ps) p fun a ha => h a (.tail _ ha)
    show lastSeg (q ++ ⟨#[46]⟩ ++ Str.join ⟨#[46]⟩ (r :: (ps ++ [p]))).cps.toList = _
    simp only [Str.cps_append, Array.toList_append, List.append_assoc]
    show lastSeg (q.cps.toList ++ 46 :: (Str.join ⟨#[46]⟩ (r :: (ps ++ [p]))).cps.toList) = _
    rw [seg_app]
    exact ih
theorem split_ne (x y : Str) : Txt.split x y ≠ [] := by
  unfold Txt.split
  split
  · simp
  · split
    · simp
    · intro h
      have := len_partsBetween x (Builtin.Str.occurrences x y 0 x.length (x.length + 1)) y.length
      rw [h] at this; simp at this
theorem split_last (l : List Nat) : ∃ ps, Txt.split (S l) (Str.ofString ".") = ps ++ [S (lastSeg l)] := by
  have e46 : Str.ofString "." = ⟨#[46]⟩ := rfl
  rw [e46]
  have hne := split_ne (S l) ⟨#[46]⟩
  have hj := StrLaws.join_split (S l) ⟨#[46]⟩
  have hf := StrLaws.split_free (S l) 46
  generalize Txt.split (S l) ⟨#[46]⟩ = parts at *
  obtain ⟨ps, p, rfl⟩ : ∃ ps p, parts = ps ++ [p] := ⟨parts.dropLast, parts.getLast hne, (List.dropLast_concat_getLast hne).symm⟩
  refine ⟨ps, ?_⟩
  have := seg_join ps p hf
  rw [hj, S_cps] at this
  rw [this, ← S_of]
theorem glue_flat (f : Nat → List Nat) : ∀ l : List Nat, Txt.join (Str.ofString "") (l.map fun c => S (f c)) = S (l.flatMap f)
  | l => by
    have e0 : Str.ofString "" = S [] := rfl
    have key : ∀ l : List Nat, Str.join (S []) (l.map fun c => S (f c)) = S (l.flatMap f) := by
      intro l
      induction l with
      | nil => rfl
      | cons c r ih =>
        cases r with
        | nil => show S (f c) = _; simp
        | cons d r =>
          show S (f c) ++ S [] ++ Str.join (S []) ((d :: r).map fun c => S (f c)) = _
          rw [ih, S_add, S_add, List.append_nil]; rfl
    rw [e0]
    show Builtin.Str.glued (S []) _ = _
    rw [← key l]
    exact StrLaws.glued_eq_join _ _
theorem tw_stop {p : Nat → Bool} : ∀ {b : List Nat} {k : Nat}, (∀ c ∈ b.take k, p c = true) → (k = b.length ∨ ∃ c, b[k]? = some c ∧ p c = false) → b.takeWhile p = b.take k
  | [], _, _, _ => by simp
  | c :: r, 0, _, h => by
    rcases h with h | ⟨d, h1, h2⟩
    · simp at h
    · simp at h1; subst h1; rw [List.takeWhile_cons, h2]; rfl
  | c :: r, k + 1, h, h' => by
    rw [List.takeWhile_cons, if_pos (h c (by simp)), List.take_succ_cons, tw_stop (b := r) (k := k) (fun d hd => h d (by rw [List.take_succ_cons]; exact .tail _ hd)) (by
      rcases h' with h' | h'
      · left; simpa using h'
      · right; simpa using h')]
theorem ends_any (pre : List Int) (c : Nat) : (!([Str.ofString ":", S (codeL pre 10)].any (· == S [c]))) = (c != 58 && decide (codeL pre 10 ≠ [c])) := by
  have e : Str.ofString ":" = S [58] := rfl
  rw [e]
  simp only [List.any_cons, List.any_nil, beq_S, Bool.or_false, Bool.not_or]
  congr 1
  · by_cases h : c = 58
    · subst h; rfl
    · have : ([58] : List Nat) ≠ [c] := fun q => h (by simpa using q.symm)
      rw [decide_eq_false this]; simp [h]
  · simp
theorem list_last {w : World} {A : Around} {E : Value → Shared → Prop} {s : Shared} {value slice : Expr} {l : Addr} {vi : List Value} {v : Value} {u : Tok} {Q : Value → Shared → Prop} (hl : s.heap.IsList l (vi ++ [v]).toArray)
    (hs : subscripted slice false (.ref l) (.int (-1) u) = operate [.ref l, .int (-1) u] (getItem (.ref l) (.int (-1) u))) (h : Q v s) :
    wpAny (model Challenge.rw_pg0133_01.row.prog w) A (subscriptTail value slice (.ref l) (.int (-1) u)) Q E s :=
  tail_any hl.typeIs slot_list_getitem.lookup (wpAny_getItem_list_neg hl (by decide) (by simp; omega) (by decide) (by
    have e : ((-1 : Int) + ((vi ++ [v]).toArray.size : Int)).toNat = vi.length := by simp; omega
    rw [e]; simp) h) hs
end TC9p
theorem resetC9b : True := by
  w_top off
  first | (walk1; done) | trivial
section TC9b


local macro_rules | `(tactic| walk_at "call ref") => `(tactic| (k_here; (refine' tl_use (law_code _ _ _ _ _ ?kI _ _ ?kl ?kb) ?k1 ?k2 ?k3 ?k5 ?kf ?kk ?kd ?ku ?kp ?_; (walk_at "mine room"); (case kp => exact ⟨NamesAt.keeps (by assumption) (Fr.keep (by k_asm)), (by walk_at "mine list")⟩); (case kI => assumption); (case kl => assumption); (case kb => assumption); (walk_at "mine ret"))))
theorem strs_are {f : Nat → List Nat} : ∀ {l : List Nat} {ys : List Value}, Paired (fun c y => ∃ t', y = .str (S (f c)) t') l ys → StrsAre ys (l.map fun c => S (f c))
  | _, _, .nil => .nil
  | _, _, .cons ⟨t, e⟩ r => by subst e; exact .cons _ _ (strs_are r)
theorem fit_sum {ns : List Int} : ∀ (b : List Nat), ((b.map fun c => S (codeL ns c)).map (·.length)).sum ≤ b.length * (5 * ns.length + 1)
  | [] => by simp
  | c :: r => by
    have h1 := fit_sum (ns := ns) r
    have h2 := (codeL_len c ns).1
    rw [List.map_cons, List.map_cons, List.sum_cons, S_len, List.length_cons, Nat.succ_mul]
    omega
set_option maxHeartbeats 8000000 in
theorem law_told (w : World) (a r : Addr) (vs : List Value) (n0 : Nat) (ns : List Int) (hI : IntsAre vs ns) (l : List Nat) (t : Tok) (hn : ns.length ≤ 5) (hb : ∀ n ∈ ns, 0 ≤ n) (hl : l.length ≤ 16) : Tl 1 w 103 [.ref a, .ref r, .str (S l) t] (fun h => NamesAt w h a ∧ h.get? r = some (listOf vs.toArray n0))
    (fun _ r _ => ∃ t', r = .str (S (toldL ns l)) t') := by
  have kf : hd.heap_39 = hd.heap_39 ∧ Challenge.rw_pg0133_01 = Challenge.rw_pg0133_01 := by k_fill; exact ⟨rfl, rfl⟩
  refine' tl_ofC (mm := fun y => if y = Str.ofString "text" then some (.str (S l) t) else none) (cm := fun y => if y = Str.ofString "row" then some (.ref r) else if y = Str.ofString "names" then some (.ref a) else none) ?ho ?hcd ?hb ?hl ?hmm ?hcm ?hn ?a ?b ?c ?_
  walk_at "mine enterC"
  unfold BdC
  intro p loose mean mg mb dp un gd outer A₀ base g h L s tk cells Q B F N Y X T hdp hun hp hret
  obtain ⟨hNA, hr⟩ := hp
  have hp : g.IsList r vs.toArray := ⟨_, hr, rfl, n0, rfl⟩
  k_cells Y
  rename_i o1 o2 d1 d2
  replace d1 : o1.data = .cell (some (.ref r)) := d1
  replace d2 : o2.data = .cell (some (.ref a)) := d2
  refine wpAny_execs_cons ?_
  iterate 3 walk1
  refine wpAny_execs_cons ?_
  refine For_invV g (by rfl) (by rfl) ?_
  iterate 12 walk1
  refine range1_rows (by k_asm) (by k_asm) ?_
  intro h2 tk2 ta tb tc hR F2 N2 _
  have hlen : vs.length = ns.length := hI.length
  refine iter_range0 (n := ns.length) (fun i m nx => nx = [(L + 1 + 1, o1), (L + 1, o2)] ∧ ∃ t', m (Str.ofString "bare") = some (.str (S (bareFrom [] (ns.take i) l)) t')) rfl (by simpa [hlen] using hR) (by omega) F2 N2 ⟨rfl, _, rfl⟩ ?_ ?_
  · rintro i t1 m₁ nx h3 tk3 own hi hoff ⟨rfl, t2, hm⟩ F₁ N₁
    refine cutP ?_
    intro R hR
    obtain ⟨n, hin⟩ : ∃ n, ns[i]? = some n := ⟨_, List.getElem?_eq_getElem hi⟩
    have hn0 : 0 ≤ n := hb n (List.mem_of_getElem? hin)
    have F3 := fr_put F₁ hm (by decide)
    clear F₁
    have hfit := bare_len ns l i (by omega)
    refine wpAny_execs_cons (wpAny_If (wpAny_isTrue_Compare1 ?_))
    iterate 3 walk1
    refine il_item (isList_keeps (Fr.keep F3) hp) hI hin (by omega) (by with_unfolding_all rfl) ?_
    intro t4
    refine wpAny_Constant_int ?_
    refine eq_int (wpAny_truthy_bool ?_)
    generalize hb0 : bareFrom [] (ns.take i) l = b0 at F3 hfit
    have hpre : (ns.take i).length ≤ 5 := by simp; omega
    have hfitS : (S b0).length ≤ 100 := by rw [S_len]; omega
    by_cases h5 : n = 5
    · have e5 : (n == 5) = true := by simpa using h5
      rw [e5, if_pos rfl]
      refine wpAny_execs_cons ?_
      iterate 6 walk1
      rename_i t5 k5 _ h6 F6 N6
      have eh : Str.ofString "# " ++ S b0 = S ((35 :: 32 :: b0)) := S_add [35, 32] b0
      rw [eh] at F6
      obtain ⟨u0, c0, hu0⟩ : ∃ u c, 35 :: 32 :: b0 = u ++ [c] := ⟨(35 :: 32 :: b0).dropLast, (35 :: 32 :: b0).getLast (by simp), (List.dropLast_concat_getLast (by simp)).symm⟩
      rw [hu0] at F6
      have hl0 : (u0 ++ [c0]).length ≤ 50 := by rw [← hu0]; simp; omega
      refine wpAny_execs_cons ?_
      refine While_inv2 (h₀ := g) (L := L) (n₀ := u0.length) (fun N m nx => nx = [(L + 1 + 1, o1), (L + 1, o2)] ++ own ∧ m (Str.ofString "k") = some (.int (i : Nat) t1) ∧ ∃ u c t', m (Str.ofString "bare") = some (.str (S (u ++ [c])) t') ∧ N = u.length ∧ rst (wsB (ns.take i)) (u ++ [c]) = rst (wsB (ns.take i)) (35 :: 32 :: b0) ∧ (∃ v, u ++ [c] = 35 :: v) ∧ (u ++ [c]).length ≤ 50)
        F6 N6 ⟨rfl, rfl, u0, c0, _, rfl, rfl, by rw [hu0], ⟨_, hu0.symm⟩, hl0⟩ ?_
      rintro N m₂ nx h7 tk7 F7 N7 ⟨rfl, hk7, u, c, t7, hb7, rfl, hrst, ⟨v, hv⟩, hlen7⟩
      have F8 := fr_put' (fr_put' F7 hk7) (k := Str.ofString "bare") (by rw [if_neg (by decide)]; exact hb7)
      clear F7
      refine cutP ?_
      intro R2 hR2
      refine isTrue_and ?_
      iterate 6 walk1
      refine str_last (by simp at hlen7; omega) (by with_unfolding_all rfl) ?_
      refine wpAny_Constant_str ?_
      have fin : wsB (ns.take i) c = false → rst (wsB (ns.take i)) (35 :: 32 :: b0) = u ++ [c] := fun q => by rw [← hrst]; exact rst_settled q
      refine in_two ws_eq ?_ ?_
      · intro hc
        rw [if_pos rfl]
        iterate 15 walk1
        refine kmk_slice_ints (s := { s with heap := h7, toks := _ }) F8 N7 (isList_keeps (Fr.keep F8) hp) IsPart.none (IsPart.int _ _) hI (kmk_upto hI (Int.natCast_nonneg _)) rfl ?_ (by with_unfolding_all rfl) (by kmk_pure) (by kmk_size)
        intro De we h9 F9 N9 l9 hIE _ _
        have hE : IntsAre we (ns.take i) := by simpa using hIE
        have hEb : ∀ n ∈ ns.take i, 0 ≤ n := fun n hm => hb n (List.mem_of_mem_take hm)
        iterate 6 walk1
        refine str_last (by simp at hlen7; omega) (by with_unfolding_all rfl) ?_
        iterate 1 walk1
        refine ⟨X.keeps F9.keep, ?_⟩
        refine' tl_use (law_code w a De we (ns.take i) hE c _ hpre hEb) ?k1 ?k2 ?k3 ?k5 ?kf ?kk ?kd ?ku ?kp ?_
        walk_at "mine room"
        case kp => exact ⟨NamesAt.keeps hNA (Fr.keep F9), N9.isList (.head _)⟩
        intro r9 h10 tk10 G9 O9
        obtain ⟨t9, e9⟩ := O9
        subst e9
        have F10 := Gr.fr G9 F9
        have N10 := Gr.news G9 N9
        dsimp only
        iterate 5 walk1
        refine str_last (by simp at hlen7; omega) (by with_unfolding_all rfl) ?_
        refine eq_str (wpAny_truthy_bool ?_)
        have ew : (S (codeL (ns.take i) c) == S [c]) = wsB (ns.take i) c := by
          rw [beq_S]; unfold wsB
          rw [show ([32, 13, 10, 9] : List Nat).contains c = true by simpa using hc]; rfl
        rw [ew]
        cases hw : wsB (ns.take i) c with
        | true =>
          rw [if_pos rfl]
          refine isTrue_and_nil (hR2 _ _ ?_)
          rw [if_pos rfl]
          refine cutP ?_
          intro R3 hR3
          refine wpAny_execs_cons ?_
          iterate 10 walk1
          refine slice_strN_ns (s := { s with heap := h10, toks := _ }) F10 N10 ?_ (by with_unfolding_all rfl) (by intro _; with_unfolding_all rfl) (by rw [S_len, sizeLine_eq]; omega)
          intro h11 t11 k11 F11 N11
          rw [slice_init]
          iterate 1 walk1
          rename_i h12 F12 N12
          have hc35 : c ≠ 35 := by rintro rfl; revert hc; decide
          have hune : u ≠ [] := by
            rintro rfl
            exact hc35 (by simpa using (List.cons.inj hv).1)
          obtain ⟨u', c', hu'⟩ : ∃ u' c', u = u' ++ [c'] := ⟨u.dropLast, u.getLast hune, (List.dropLast_concat_getLast hune).symm⟩
          refine wpAny_execs_nil (hR3 _ _ ?_)
          subst hu'
          refine ⟨_, _, _, _, u'.length, rfl, F12, news_sub N12 (fun p hp => .tail _ hp), by simp, rfl, rfl, u', c', _, rfl, rfl, ?_, ?_, ?_⟩
          · rw [← hrst, rst_snoc _ (u' ++ [c']), hw, if_pos rfl]
          · cases u' with
            | nil => exact ⟨[], by rw [List.nil_append] at hv ⊢; exact congrArg (· :: []) (List.cons.inj hv).1⟩
            | cons q u' => exact ⟨u' ++ [c'], by simp only [List.cons_append] at hv ⊢; rw [(List.cons.inj hv).1]⟩
          · simp at hlen7 ⊢; omega
        | false =>
          rw [if_neg Bool.false_ne_true]
          refine hR2 _ _ ?_
          rw [if_neg Bool.false_ne_true]
          refine wpAny_execs_nil (wpAny_execs_nil ?_)
          refine hR _ _ (inv_endC (nx := [(L + 1 + 1, o1), (L + 1, o2)]) F10 N10 (fun p hp => .tail _ hp) hoff ?_)
          refine ⟨rfl, t7, ?_⟩
          rw [bareFrom_take ns l hin, hb0, h5]
          exact congrArg (fun q => some (Value.str (S q) t7)) (fin hw).symm
      · intro hc
        have hw : wsB (ns.take i) c = false := by
          unfold wsB
          have : ([32, 13, 10, 9] : List Nat).contains c = false := by simpa using hc
          rw [this]; rfl
        rw [if_neg Bool.false_ne_true]
        refine hR2 _ _ ?_
        rw [if_neg Bool.false_ne_true]
        refine wpAny_execs_nil (wpAny_execs_nil ?_)
        refine hR _ _ (inv_endC (nx := [(L + 1 + 1, o1), (L + 1, o2)]) F8 N7 (fun p hp => hp) hoff ?_)
        refine ⟨rfl, t7, ?_⟩
        rw [bareFrom_take ns l hin, hb0, h5]
        exact congrArg (fun q => some (Value.str (S q) t7)) (fin hw).symm
    · have e5 : (n == 5) = false := by simpa using h5
      rw [e5, if_neg Bool.false_ne_true]
      refine wpAny_execs_cons (wpAny_If (wpAny_isTrue_Compare1 ?_))
      iterate 3 walk1
      refine il_item (isList_keeps (Fr.keep F3) hp) hI hin (by omega) (by with_unfolding_all rfl) ?_
      intro t5
      refine wpAny_Constant_int ?_
      refine eq_int (wpAny_truthy_bool ?_)
      by_cases h6 : n = 6
      · have e6 : (n == 6) = true := by simpa using h6
        rw [e6, if_pos rfl]
        refine wpAny_execs_cons ?_
        iterate 18 walk1
        refine kmk_slice_ints (s := { s with heap := h3, toks := _ }) F3 N₁ (isList_keeps (Fr.keep F3) hp) IsPart.none (IsPart.int _ _) hI (kmk_upto hI (Int.natCast_nonneg _)) rfl ?_ (by with_unfolding_all rfl) (by kmk_pure) (by kmk_size)
        intro De we h9 F9 N9 l9 hIE _ _
        have hE : IntsAre we (ns.take i) := by simpa using hIE
        have hEb : ∀ n ∈ ns.take i, 0 ≤ n := fun n hm => hb n (List.mem_of_mem_take hm)
        iterate 3 walk1
        refine ⟨X.keeps F9.keep, ?_⟩
        refine' tl_use (law_code w a De we (ns.take i) hE 10 _ hpre hEb) ?k1 ?k2 ?k3 ?k5 ?kf ?kk ?kd ?ku ?kp ?_
        walk_at "mine room"
        case kp => exact ⟨NamesAt.keeps hNA (Fr.keep F9), N9.isList (.head _)⟩
        intro r9 h10 tk10 G9 O9
        obtain ⟨t9, e9⟩ := O9
        subst e9
        have F10 := Gr.fr G9 F9
        have N10 := Gr.news G9 N9
        dsimp only
        iterate 3 walk1
        refine wpAny_execs_cons ?_
        iterate 3 walk1
        rename_i le _ _ _ l1 _ hh6 F6 N6
        refine wpAny_execs_cons ?_
        refine While_inv2 (h₀ := g) (L := L) (n₀ := b0.length) (fun N m nx => nx = ((le, W.listOf #[Value.str (Str.ofString ":") (tk3 + 1 + 1), Value.str (S (codeL (List.take i ns) 10)) t9] 0) :: (De, W.listOf we.toArray 0) :: ([(L + 1 + 1, o1), (L + 1, o2)] ++ own)) ∧ m (Str.ofString "ends") = some (.ref le) ∧ m (Str.ofString "bare") = some (.str (S b0) t2) ∧
          ∃ k t', m (Str.ofString "stop") = some (.int (k : Nat) t') ∧ k ≤ b0.length ∧ N = b0.length - k ∧ ∀ c ∈ b0.take k, (c != 58 && decide (codeL (ns.take i) 10 ≠ [c])) = true)
          F6 N6 ⟨rfl, rfl, rfl, 0, _, rfl, Nat.zero_le _, rfl, by simp⟩ ?_
        rintro N m₂ nx h7 tk7 F7 N7 ⟨rfl, he7, hb7, k, t7, hs7, hk7, rfl, hall⟩
        have F8 := fr_put' (fr_put' (fr_put' F7 he7) (k := Str.ofString "bare") (by rw [if_neg (by decide)]; exact hb7)) (k := Str.ofString "stop") (by rw [if_neg (by decide), if_neg (by decide)]; exact hs7)
        clear F7
        refine wpAny_mono (Q := fun b s' => (∃ tk', s' = { s with heap := h7, toks := tk' }) ∧ ((b = true ∧ ∃ c, b0[k]? = some c ∧ (c != 58 && decide (codeL (ns.take i) 10 ≠ [c])) = true) ∨ (b = false ∧ (k = b0.length ∨ ∃ c, b0[k]? = some c ∧ (c != 58 && decide (codeL (ns.take i) 10 ≠ [c])) = false)))) ?_ ?_ (fun _ _ e => e)
        · refine isTrue_and ?_
          iterate 9 walk1
          rw [S_len]
          refine lt_int (wpAny_truthy_bool ?_)
          by_cases hk : k < b0.length
          · obtain ⟨c, hc⟩ : ∃ c, b0[k]? = some c := ⟨_, List.getElem?_eq_getElem hk⟩
            rw [decide_eq_true (show (k : Int) < (b0.length : Int) by omega), if_pos rfl]
            refine isTrue_and ?_
            iterate 4 walk1
            refine str_at hc (by omega) (by with_unfolding_all rfl) ?_
            iterate 1 walk1
            refine notin_list_strs (N7.isList (.head _)) (.cons _ _ (.cons _ _ .nil)) (wpAny_truthy_bool ?_)
            rw [ends_any]
            cases hP : (c != 58 && decide (codeL (ns.take i) 10 ≠ [c])) with
            | true =>
              rw [if_pos rfl]
              refine isTrue_and_nil ?_
              exact ⟨⟨_, rfl⟩, .inl ⟨rfl, c, hc, hP⟩⟩
            | false =>
              rw [if_neg Bool.false_ne_true]
              exact ⟨⟨_, rfl⟩, .inr ⟨rfl, .inr ⟨c, hc, hP⟩⟩⟩
          · rw [decide_eq_false (show ¬ (k : Int) < (b0.length : Int) by omega), if_neg Bool.false_ne_true]
            refine ⟨⟨_, rfl⟩, .inr ⟨?_, .inl (by omega)⟩⟩
            first | trivial | rfl
        · rintro b1 _ ⟨⟨tk8, rfl⟩, ⟨eb1, c, hc, hP⟩ | ⟨eb1, hP⟩⟩ <;> subst eb1
          · rw [if_pos rfl]
            refine cutP ?_
            intro R3 hR3
            refine wpAny_execs_cons ?_
            iterate 5 walk1
            rename_i h9' F9' N9'
            refine wpAny_execs_nil (hR3 _ _ ?_)
            have hklt : k < b0.length := by
              apply Classical.byContradiction; intro q
              rw [List.getElem?_eq_none (by omega)] at hc; cases hc
            refine ⟨_, _, _, _, b0.length - (k + 1), rfl, F9', N9', by omega, rfl, rfl, rfl, k + 1, _, rfl, hklt, rfl, ?_⟩
            rw [take_snoc hc]
            intro d hd
            rcases List.mem_append.mp hd with hd | hd
            · exact hall d hd
            · rw [List.mem_singleton.mp hd]; exact hP
          · rw [if_neg Bool.false_ne_true]
            have hcut : cutB (ns.take i) b0 = b0.take k := tw_stop hall hP
            refine wpAny_execs_cons ?_
            iterate 10 walk1
            refine slice_strN_ns (s := { s with heap := h7, toks := _ }) F8 N7 ?_ (by with_unfolding_all rfl) (by intro _; with_unfolding_all rfl) (by rw [S_len, sizeLine_eq]; omega)
            intro h11 t11 k11 F11 N11
            rw [slice_to b0 k hk7]
            iterate 5 walk1
            refine KSpl.split1 (s := { s with heap := h11, toks := _ }) F11 N11 (by decide +kernel) ?_ (by rw [S_len, sizeLine_eq, List.length_take]; omega)
            intro Dp lp h12 k12 ep ap F12 N12 _
            obtain ⟨ps, eps⟩ := split_last (b0.take k)
            rw [eps] at ep
            rw [ep] at ap
            obtain ⟨vi, tv, evi⟩ : ∃ vi tv, strValues lp = vi ++ [.str (S (lastSeg (b0.take k))) tv] := by
              rcases PyProof.Rows.strs_nil_or_snoc ap with ⟨_, q⟩ | ⟨vi, yi, y, tv, q1, q2, _⟩
              · simp at q
              · obtain ⟨_, q3⟩ := List.append_inj' q2 rfl
                have q4 : S (lastSeg (b0.take k)) = y := by simpa using q3
                exact ⟨vi, tv, by rw [q1, q4]⟩
            rw [evi] at N12
            iterate 3 walk1
            refine list_last (News.isList N12 (.head _)) (by with_unfolding_all rfl) ?_
            iterate 1 walk1
            rename_i h13 F13 N13
            refine wpAny_execs_nil (wpAny_execs_nil (wpAny_execs_nil ?_))
            refine hR _ _ (inv_endC (nx := [(L + 1 + 1, o1), (L + 1, o2)]) F13 N13 (fun p hp => .tail _ (.tail _ (.tail _ hp))) hoff ?_)
            refine ⟨rfl, tv, ?_⟩
            rw [bareFrom_take ns l hin, hb0, bareStep, if_neg h5, if_pos h6, hcut]
            rfl
      · have e6 : (n == 6) = false := by simpa using h6
        rw [e6, if_neg Bool.false_ne_true]
        refine wpAny_execs_nil (wpAny_execs_nil (wpAny_execs_nil ?_))
        refine hR _ _ (inv_endC (nx := [(L + 1 + 1, o1), (L + 1, o2)]) F3 N₁ (fun p hp => hp) hoff ?_)
        refine ⟨rfl, t2, ?_⟩
        rw [bareFrom_take ns l hin, hb0, bareStep, if_neg h5, if_neg h6]
        rfl
  · rintro m₁ nx h3 tk3 ⟨rfl, t2, hm⟩ F₁ N₁
    rw [List.take_length] at hm
    have F3 := fr_put' F₁ hm
    clear F₁
    have hfit := bare_len ns l ns.length (Nat.le_refl _)
    rw [List.take_length] at hfit
    generalize hb0 : bareFrom [] ns l = b0 at F3 hfit
    refine wpAny_execs_cons (wpAny_Return_some ?_)
    iterate 4 walk1
    refine spliced_more ?_
    refine comp_rule (by rfl) (by decide) rfl (by decide) (by decide) ?_
    refine nameX_L F3 (by rfl) ?_
    refine wpAny_pyIter_str fun ob St hW hst => ?_
    refine ⟨_, _, _, _, _, _, fun _ v y => ∃ c, (∃ u, v = .str (S [c]) u) ∧ ∃ t', y = .str (S (codeL ns c)) t', rfl, hW _ rfl, by (show b0.toArray.size ≤ sizeLine; rw [sizeLine_eq]; simp; omega), hst, ?_, fun _ _ _ _ q _ => q, ?_, ?_⟩
    · intro b hb; rw [List.mem_singleton.mp hb]; simp [Heap.size_push]
    · intro C i v h₃ tk₃ m₃ hC1 hC2 hPv hNs hm hk
      obtain ⟨c, u, hc, rfl⟩ := hPv
      have hst3 : h3.StaysIn h₃ := keep_mem (push_stays h3 ob) (fun b hb => by rw [List.mem_singleton.mp hb]; exact get_size_none h3) hk
      have F4 := stays_fr hst3 F3
      have N4 := stays_news hst3 N₁
      clear hk
      dsimp only
      k_steps
      all_goals exact Gr.st (by assumption)
    · intro D h' tk' ys vs' hD hl hlen hP hPF hsz hk
      have hst3 : h3.StaysIn h' := keep_mem (push_stays h3 ob) (fun b hb => by rw [List.mem_singleton.mp hb]; exact get_size_none h3) hk
      have e := strs_are (paired_signs (l := b0) (R := fun c y => ∃ t', y = .str (S (codeL ns c)) t') hlen hP hPF)
      obtain ⟨n, hl⟩ := hl
      have F4 := stays_fr hst3 F3
      refine spliced_none ?_
      refine join_listW (s := { s with heap := h', toks := tk' }) ⟨_, hl, rfl, n, rfl⟩ e (by decide +kernel) ?_ ?_
      · have h6 := fit_sum (ns := ns) b0
        rw [List.length_map]
        have h7 : b0.length ≤ 26 := by omega
        have h8 : b0.length * (5 * ns.length + 1) ≤ 26 * 26 := Nat.mul_le_mul h7 (by omega)
        omega
      · intro t5 k5
        refine hret _ _ _ (Gr.of_fr F4) ⟨t5, ?_⟩
        rw [glue_flat, toldL, hb0]
end TC9b
theorem resetN1 : True := by
  w_top off
  first | (walk1; done) | trivial
section TN1
open PySem PySem.W PyProof.Rows PySem.Spec PySem.Calls PyProof.V
local macro_rules | `(tactic| walk_at "mine dict") => `(tactic| ((case b1 | b2 | b3 | b6 => rfl); (case b4 => exact List.cons_ne_nil _ _); (case b5 => exact Nat.le_of_ble_eq_true rfl); (case b7 => decide)))
/-- what _law_names gives: its objects are all new, and they are the five tables -/
noncomputable def OutN (w : World) (g : Heap) (r : Value) (h' : Heap) : Prop := ∃ (a : Addr) (tl : List (Addr × Obj)), r = .ref a ∧ (∀ p ∈ tl, h'.get? p.1 = some p.2 ∧ g.get? p.1 = none) ∧ ∀ H : Heap, (∀ p ∈ tl, H.get? p.1 = some p.2) → NamesAt w H a
noncomputable def litOf (p : Nat × List Nat) : PyData × PyData := (PyData.str (S [p.1]), PyData.str (S p.2))
theorem flat_str {v : Value} {x : Str} (h : Flat v (.str x)) : ∃ t, v = .str x t := by cases h default; exact ⟨_, rfl⟩
theorem read_S : ∀ {zs : List (Nat × List Nat)} {vs : List (Value × Value)}, ReadAs vs (zs.map litOf) → allStrKeys vs = true ∧ (strPairs vs).map (·.1) = zs.map (fun p => S [p.1]) ∧ ∀ c, NmOk (tabAt zs c) (valueAt (strPairs vs) (S [c]))
  | [], _, .nil => ⟨rfl, rfl, fun c => trivial⟩
  | p :: zs, _, .cons hk hv r => by
    obtain ⟨t, rfl⟩ := flat_str hk
    obtain ⟨u, rfl⟩ := flat_str hv
    obtain ⟨h1, h2, h3⟩ := read_S r
    refine ⟨h1, by simp only [strPairs, List.map_cons]; rw [h2], fun c => ?_⟩
    simp only [strPairs, tabAt, valueAt, List.find?_cons]
    by_cases hc : p.1 = c
    · subst hc
      simp only [beq_self_eq_true, decide_true]
      exact ⟨u, rfl⟩
    · have e1 : (p.1 == c) = false := by simpa using hc
      have e2 : decide (S [p.1] = S [c]) = false := decide_eq_false fun q => hc (by simpa using S_inj.mp q)
      rw [e1, e2]
      exact h3 c
theorem nodup_S {zs : List (Nat × List Nat)} (h : (zs.map (·.1)).Nodup) : (zs.map fun p => S [p.1]).Nodup := by
  induction zs with
  | nil => exact List.nodup_nil
  | cons p r ih =>
    rw [List.map_cons, List.nodup_cons] at h ⊢
    refine ⟨fun q => h.1 ?_, ih h.2⟩
    obtain ⟨x, hx, e⟩ := List.mem_map.mp q
    have : [x.1] = [p.1] := S_inj.mp e
    exact List.mem_map.mpr ⟨x, hx, by simpa using this⟩
theorem dict_S {w : World} {A : Around} {E : Value → Shared → Prop} {s : Shared} {env : Env} {h₀ : Heap} {L : Addr} {m : Str → Option Value} {news : List (Addr × Obj)} {Q : Value → Shared → Prop} {keys : List (Option PySem.Expr)} {values : List PySem.Expr} {pos : Pos}
    (zs : List (Nat × List Nat)) (F : Fr h₀ L s.heap m) (N : News h₀ L s.heap news) (hbig : h₀.NoLimit) (hs : strLits keys = true) (hall : keys.all (·.isSome) = true) (hl : keys.length = values.length) (h0 : keys ≠ []) (hlen : keys.length ≤ 15)
    (hlit : litPairs keys values = some (zs.map litOf)) (hnd : (zs.map (·.1)).Nodup)
    (h : ∀ (d : Addr) h' o tk', Fr h₀ L h' m → News h₀ L h' ((d, o) :: news) → (d == sysModules) = false → (∀ H : Heap, H.get? d = some o → ∃ f, H.MapOf (PySem.strKind Challenge.rw_pg0133_01.row.prog w) d f ∧ ∀ c, NmOk (tabAt zs c) (f (S [c]))) → Q (.ref d) { s with heap := h', toks := tk' }) :
    wpAny (model Challenge.rw_pg0133_01.row.prog w) A (eval (.Dict keys values pos) env) Q E s := by
  refine kdn_str hs F N hbig hall hl h0 hlen fun d h1 o F1 N1 l1 hd1 hD => ?_
  refine evalPairs_lits keys values _ _ _ hlit fun vs tk hr => ?_
  obtain ⟨hk, hm, hv⟩ := read_S hr
  refine kdn_made_str (s := { s with heap := h1, toks := tk }) F1 N1 (.head fun p hp => Nat.ne_of_lt (l1 p hp)) hD hk (by rw [hm]; exact nodup_S hnd) fun h' o' F' N' hD' => ?_
  refine h d h' o' _ F' N' hd1 fun H hH => ⟨valueAt (strPairs vs), ?_, hv⟩
  exact (Heap.dictOf_iff.mpr ⟨o', hH, hD'⟩).mapOf
noncomputable def tab4 : List (Nat × List Nat) := [(38, [97, 109, 112, 59]), (60, [108, 116, 59]), (34, [113, 117, 111, 116, 59]), (13, [35, 120, 68, 59]), (10, [35, 120, 65, 59]), (9, [35, 120, 57, 59])]
theorem tab_out {zs : List (Nat × List Nat)} {c : Nat} (h : c ∉ zs.map (·.1)) : tabAt zs c = none := by
  unfold tabAt
  rw [List.find?_eq_none.mpr]
  · rfl
  · intro p hp q
    exact h (List.mem_map.mpr ⟨p, hp, by simpa using q⟩)
theorem nm_tab {i : Nat} {zs : List (Nat × List Nat)} (h1 : ∀ c ∈ [38, 60, 62, 34, 13, 10, 9], nm i c = tabAt zs c) (h2 : ∀ c ∈ zs.map (·.1), c ∈ [38, 60, 62, 34, 13, 10, 9]) (c : Nat) : nm i c = tabAt zs c := by
  by_cases hc : c ∈ [38, 60, 62, 34, 13, 10, 9]
  · exact h1 c hc
  · rw [nm_out hc, tab_out fun q => hc (h2 c q)]
set_option maxHeartbeats 8000000 in
theorem law_names (w : World) : Tl 0 w 77 [] (fun _ => True) (OutN w) := by
  have kf : hd.heap_39 = hd.heap_39 ∧ Challenge.rw_pg0133_01 = Challenge.rw_pg0133_01 := by k_fill; exact ⟨rfl, rfl⟩
  refine' tl_ofC (mm := fun _ => none) (cm := fun _ => none) ?ho ?hcd ?hb ?hl ?hmm ?hcm ?hn ?a ?b ?c ?_
  walk_at "mine enterC"
  unfold BdC
  intro p loose mean mg mb dp un gd outer A₀ base g h L s tk cells Q B F N Y X T hdp hun hp hret
  clear Y N
  have N : News g L h [] := News.nil
  refine wpAny_execs_cons ?_
  refine wpAny_Return_some ?_
  refine List_ ?_
  refine spliced_more ?_
  with_reducible refine dict_S tab0 F N T.nolimit ?b1 ?b2 ?b3 ?b4 ?b5 ?b6 ?b7 ?_
  walk_at "mine dict"
  intro d0 h0 o0 k0 F0 N0 m0 D0
  refine spliced_more ?_
  with_reducible refine dict_S (s := { s with heap := h0, toks := k0 }) tab1 F0 N0 T.nolimit ?b1 ?b2 ?b3 ?b4 ?b5 ?b6 ?b7 ?_
  walk_at "mine dict"
  intro d1 h1 o1 k1 F1 N1 m1 D1
  refine spliced_more ?_
  with_reducible refine dict_S (s := { s with heap := h1, toks := k1 }) tab2 F1 N1 T.nolimit ?b1 ?b2 ?b3 ?b4 ?b5 ?b6 ?b7 ?_
  walk_at "mine dict"
  intro d2 h2 o2 k2 F2 N2 m2 D2
  refine spliced_more ?_
  with_reducible refine dict_S (s := { s with heap := h2, toks := k2 }) tab3 F2 N2 T.nolimit ?b1 ?b2 ?b3 ?b4 ?b5 ?b6 ?b7 ?_
  walk_at "mine dict"
  intro d3 h3 o3 k3 F3 N3 m3 D3
  refine spliced_more ?_
  with_reducible refine dict_S (s := { s with heap := h3, toks := k3 }) tab4 F3 N3 T.nolimit ?b1 ?b2 ?b3 ?b4 ?b5 ?b6 ?b7 ?_
  walk_at "mine dict"
  intro d4 h4 o4 k4 F4 N4 m4 D4
  refine spliced_none ?_
  refine newList_K (s := { s with heap := h4, toks := k4 }) F4 N4 ?_
  intro a h5 F5 N5 _
  refine hret _ _ _ (Gr.of_fr F5) ⟨a, _, rfl, fun p hp => ⟨(N5 p hp).1, (N5 p hp).2.2⟩, fun H hH => ?_⟩
  have e0 : ∀ c, nm 0 c = tabAt tab0 c := fun _ => rfl
  have e1 : ∀ c, nm 1 c = tabAt tab1 c := fun _ => rfl
  have e2 : ∀ c, nm 2 c = tabAt tab2 c := fun _ => rfl
  have e3 : ∀ c, nm 3 c = tabAt tab3 c := fun _ => rfl
  have e4 : ∀ c, nm 4 c = tabAt tab4 c := nm_tab (by decide) (by decide)
  refine ⟨[d0, d1, d2, d3, d4], rfl, ⟨_, hH _ (.head _), rfl, 0, rfl⟩, ?_⟩
  intro i d hi
  have hlt : i < 5 := by
    apply Classical.byContradiction; intro q
    rw [List.getElem?_eq_none (by simp; omega)] at hi; cases hi
  have key : ∀ (zs : List (Nat × List Nat)) (d : Addr) (o : Obj), (d == sysModules) = false → (∀ H : Heap, H.get? d = some o → ∃ f, H.MapOf (PySem.strKind Challenge.rw_pg0133_01.row.prog w) d f ∧ ∀ c, NmOk (tabAt zs c) (f (S [c]))) → H.get? d = some o → (∀ c, nm i c = tabAt zs c) →
      (d == sysModules) = false ∧ ∃ f, H.MapOf (PySem.strKind Challenge.rw_pg0133_01.row.prog w) d f ∧ ∀ c, NmOk (nm i c) (f (S [c])) := by
    intro zs d o a b c e
    obtain ⟨f, x, y⟩ := b H c
    exact ⟨a, f, x, fun c => by rw [e]; exact y c⟩
  rcases (show i = 0 ∨ i = 1 ∨ i = 2 ∨ i = 3 ∨ i = 4 by omega) with rfl | rfl | rfl | rfl | rfl
  · cases hi; exact key tab0 d0 o0 m0 D0 (hH (d0, o0) (by simp)) e0
  · cases hi; exact key tab1 d1 o1 m1 D1 (hH (d1, o1) (by simp)) e1
  · cases hi; exact key tab2 d2 o2 m2 D2 (hH (d2, o2) (by simp)) e2
  · cases hi; exact key tab3 d3 o3 m3 D3 (hH (d3, o3) (by simp)) e3
  · cases hi; exact key tab4 d4 o4 m4 D4 (hH (d4, o4) (by simp)) e4
end TN1
theorem resetCi : True := by
  w_top off
  first | (walk1; done) | trivial
section TCi
/-- where a comprehension's name lies: among its own names, or in a cell -/
structure VarAt (C C' : Nat) (V : Heap → Option Value → Prop) : Prop where
  keep : ∀ (h h' : Heap) v, V h v → (∀ (b : Nat) o, (b = C ∨ b = C') → h.get? b = some o → h'.get? b = some o) → V h' v
  ns : ∀ (h : Heap) v, V h v → ∃ m, h.Ns C m
  lt : ∀ (h : Heap) v, V h v → C' < h.objs.size
noncomputable def TurnsI (prog : Program) (w : World) (A : Around) (cenv : Env) (elt : Expr) (wr : List Addr) (n : Nat) (P : Nat → Value → Prop) (V : Heap → Option Value → Prop) (F : Heap → Nat → Value → Prop) (s₂ : Shared) : Prop :=
  ∀ i v h₃ tk₃, i < n → P i v → V h₃ (some v) → (∀ b o, b ∉ wr → s₂.heap.get? b = some o → h₃.get? b = some o) →
    wpAny (model prog w) A (eval elt cenv) (fun y s₄ => ∃ h₄ tk₄, s₄ = { s₂ with heap := h₄, toks := tk₄ } ∧ F h₄ i y ∧ h₃.StaysIn h₄) (fun _ _ => False) { s₂ with heap := h₃, toks := tk₃ }
noncomputable def StoresI (prog : Program) (w : World) (A : Around) (cenv : Env) (t : Expr) (C C' : Nat) (V : Heap → Option Value → Prop) : Prop :=
  ∀ (s : Shared) (v₀ : Option Value) (v : Value) (Q : Unit → Shared → Prop) (E : Value → Shared → Prop), V s.heap v₀ → (∀ h' tk', V h' (some v) → (∀ (b : Nat) o, b ≠ C → b ≠ C' → s.heap.get? b = some o → h'.get? b = some o) → Q () { s with heap := h', toks := tk' }) → wpAny (model prog w) A (assign t cenv v) Q E s
theorem ci_loop {prog : Program} {w : World} {A : Around} {R : Result → Shared → Prop} {s₂ s : Shared} {elt iter : Expr} {x : Str} {px : Pos} {scope : Scope} {pos : Pos} {I D C C' : Nat} {fp wr : List Addr} {n : Nat} {P : Nat → Value → Prop} {St : Nat → Heap → Prop}
    {cenv : Env} {V : Heap → Option Value → Prop} {v₀ : Option Value} (W : Walks prog w A I fp wr n P St) (F : Heap → Nat → Value → Prop) (hV : VarAt C C' V) (hstore : StoresI prog w A cenv (.Name x px) C C' V)
    (hD : D = s₂.heap.objs.size) (hC : C = s₂.heap.objs.size + 1) (hC1 : C ≤ C') (hfp : ∀ b : Nat, b ∈ fp → b < s₂.heap.objs.size)
    (hF : ∀ h h' j y, F h j y → (∀ (b : Nat) o, C' < b → h.get? b = some o → h'.get? b = some o) → F h' j y)
    (hs : ∃ h tk, s = { s₂ with heap := h, toks := tk })
    (hst : St 0 s.heap) (hacc : s.heap.PlainList D #[]) (hn : V s.heap v₀) (hk0 : ∀ b o, s₂.heap.get? b = some o → s.heap.get? b = some o)
    (helt : TurnsI prog w A cenv elt wr n P V F s₂)
    (hR : ∀ h' tk v ys, V h' v → h'.PlainList D ys → ys.size = n → (∀ (j : Nat) y, ys[j]? = some y → F h' j y) →
      (∀ b o, b ∉ wr → s₂.heap.get? b = some o → h'.get? b = some o) → R (.ok .next) { s₂ with heap := h', toks := tk })
    (hsz : n ≤ sizeLine) :
    codeAny (model prog w) A (.compLoop (.ListComp elt [⟨.Name x px, iter, [], 0⟩] scope pos) 0 (.ref I) (.ref D) cenv) R s := by
  have hDC : D ≠ C := by omega
  have hDC' : D ≠ C' := by omega
  have out : ∀ b : Nat, s₂.heap.objs.size ≤ b → b ∉ fp := fun b hb h => absurd (hfp _ h) (by omega)
  have outw : ∀ b : Nat, s₂.heap.objs.size ≤ b → b ∉ wr := fun b hb h => out b hb (W.sub _ h)
  have old : ∀ (b : Nat) o, s₂.heap.get? b = some o → b ≠ D ∧ b ≠ C ∧ b ≠ C' := fun b o e => by have h9 : b < s₂.heap.objs.size := Heap.lt_size e; omega
  obtain ⟨h0, tk0, rfl⟩ := hs
  refine codeAny_compLoop_tests
    (fun k s' => ∃ h' tk v ys, s' = { s₂ with heap := h', toks := tk } ∧ St ys.size h' ∧ h'.PlainList D ys ∧ V h' v ∧
      (∀ (j : Nat) y, ys[j]? = some y → F h' j y) ∧ ys.size ≤ n ∧ k = n + 1 - ys.size ∧ (∀ b o, b ∉ wr → s₂.heap.get? b = some o → h'.get? b = some o)) ?_ (n + 1)
    ⟨h0, tk0, v₀, #[], rfl, hst, hacc, hn, by simp, Nat.zero_le _, rfl, fun b o _ e => hk0 b o e⟩
  rintro k s' ⟨H, tk, v₁, ys, rfl, hst', hacc', hn', hPF, hi, rfl, hk⟩
  by_cases hlt : ys.size < n
  · refine W.item ys.size _ _ _ hlt hst' fun v h₁ tk₁ hPv hst₁ hk₁ => ?_
    have hn₁ : V h₁ v₁ := hV.keep _ _ _ hn' fun b o hb e => hk₁ b o (outw b (by omega)) e
    refine hstore { s₂ with heap := h₁, toks := tk₁ } v₁ v _ _ hn₁ fun h₂ tk₂ hn₂ hs₂ => ?_
    have up₂ : ∀ (b : Nat) o, b ≠ C → b ≠ C' → b ∉ wr → H.get? b = some o → h₂.get? b = some o := fun b o hbC hbC' hbf e => hs₂ b o hbC hbC' (hk₁ b o hbf e)
    have hst₂ : St (ys.size + 1) h₂ := W.frame _ _ _ hst₁ fun b hb o e => hs₂ b o (fun h => out b (by rw [h]; omega) hb) (fun h => out b (by rw [h]; omega) hb) e
    have k₂ : ∀ b o, b ∉ wr → s₂.heap.get? b = some o → h₂.get? b = some o := fun b o hbf e => up₂ b o (old b o e).2.1 (old b o e).2.2 hbf (hk b o hbf e)
    refine wpAny_pure ?_
    show wpAny _ _ _ _ _ _
    refine wpAny_mono (helt ys.size v h₂ _ hlt hPv hn₂ k₂) (fun y s₄ h₄ => ?_) fun _ _ e => e.elim
    obtain ⟨h₄, tk₄, rfl, hFy, hk₄⟩ := h₄
    have hacc₂ : h₂.PlainList D ys := hacc'.at fun o e => up₂ D o hDC hDC' (outw D (by omega)) e
    refine wpAny_list_append_plain (hsz := by omega) (hacc₂.at fun o e => hk₄ _ o e) fun h₅ hl₅ hs₅ => ?_
    have up₅ : ∀ (b : Nat) o, b ≠ D → h₄.get? b = some o → h₅.get? b = some o := fun b o hb e => hs₅.extBut b o hb e
    refine ⟨n + 1 - (ys.size + 1), by omega, h₅, tk₄, some v, ys.push y, rfl, ?_, hl₅, ?_, ?_, ?_, ?_, ?_⟩
    · have := W.frame _ _ h₅ hst₂ fun b hb o e => up₅ b o (fun h => out b (by rw [h]; omega) hb) (hk₄ b o e)
      simpa using this
    · exact hV.keep _ _ _ hn₂ fun b o hb e => up₅ b o (by omega) (hk₄ b o e)
    · intro j z hj
      rcases Nat.lt_trichotomy j ys.size with h | h | h
      · have hz : ys[j]? = some z := by rwa [Array.getElem?_push_lt h, ← Array.getElem?_eq_getElem h] at hj
        exact hF _ _ _ _ (hPF j z hz) fun b o hb e => up₅ b o (by omega) (hk₄ b o (up₂ b o (by omega) (by omega) (outw b (by omega)) e))
      · subst h
        have hz : z = y := by simpa using hj.symm
        subst hz
        exact hF _ _ _ _ hFy fun b o hb e => up₅ b o (by omega) e
      · rw [Array.getElem?_eq_none (by rw [Array.size_push]; omega)] at hj; cases hj
    · rw [Array.size_push]; exact hlt
    · rw [Array.size_push]
    · exact fun b o hbf e => up₅ b o (old b o e).1 (hk₄ b o (k₂ b o hbf e))
  · have hin : ys.size = n := by omega
    refine W.done _ _ _ (hin ▸ hst') fun h₁ tk₁ hk₁ => ?_
    exact hR h₁ tk₁ v₁ ys (hV.keep _ _ _ hn' fun b o hb e => hk₁ b o (outw b (by omega)) e) (hacc'.at fun o e => hk₁ _ o (outw D (by omega)) e) hin (fun j y hj => hF _ _ _ _ (hPF j y hj) fun b o hb e => hk₁ b o (outw b (by omega)) e) fun b o hbf e => hk₁ b o hbf (hk b o hbf e)
end TCi
theorem resetCj : True := by
  w_top off
  first | (walk1; done) | trivial
section TCj
/-- an own name in the comprehension's frame -/
noncomputable def Vl (C : Nat) (x : Str) (h : Heap) (v : Option Value) : Prop := ∃ m, h.Ns C m ∧ ∀ u, v = some u → m x = some u
/-- a name in a cell behind the comprehension's frame -/
noncomputable def Vc (C : Nat) (h : Heap) (v : Option Value) : Prop := (∃ m, h.Ns C m) ∧ h.IsCell (C + 1) v
theorem vl_at (C : Nat) (x : Str) : VarAt C C (Vl C x) where
  keep := fun h h' v ⟨m, hn, hm⟩ hk => ⟨m, hn.at' fun o e => hk C o (.inl rfl) e, hm⟩
  ns := fun h v ⟨m, hn, _⟩ => ⟨m, hn⟩
  lt := fun h v ⟨m, hn, _⟩ => by obtain ⟨o, _, _, ho, _⟩ := hn; exact Heap.lt_size ho
theorem vc_at (C : Nat) : VarAt C (C + 1) (Vc C) where
  keep := fun h h' v ⟨⟨m, hn⟩, o, ho, hd⟩ hk => ⟨⟨m, hn.at' fun o e => hk C o (.inl rfl) e⟩, o, hk _ _ (.inr rfl) ho, hd⟩
  ns := fun h v ⟨⟨m, hn⟩, _⟩ => ⟨m, hn⟩
  lt := fun h v ⟨_, o, ho, _⟩ => Heap.lt_size ho
section
variable {prog : Program} {w : World} {A : Around} {E : Value → Shared → Prop} {s : Shared} {env : Env} {scope : Scope} {cl : List (Str × Addr)} {x : Str} {px : Pos}
theorem stores_l {C : Nat} (hx : scope.names.lookup x = some .local) (hkind : scope.kind = .function) : StoresI prog w A (compEnvC scope cl C env) (.Name x px) C C (Vl C x) := by
  rintro s v₀ v Q E ⟨m, hn, _⟩ h
  refine wpAny_assign_Name (wpAny_storeName_local (env := compEnvC scope cl C env) (lookup_relabel_local hx) hn (fun h₂ hn₂ hs₂ => ?_) (by simp [compEnvC, relabel, hkind]))
  exact h h₂ _ ⟨_, hn₂, by rintro u e; cases e; simp⟩ fun b o hb _ e => hs₂.extBut b o hb e
theorem stores_c {C : Nat} (hx : (compEnvC scope ((x, C + 1) :: cl) C env).kindOf x = some .cell) (hkind : scope.kind = .function) : StoresI prog w A (compEnvC scope ((x, C + 1) :: cl) C env) (.Name x px) C (C + 1) (Vc C) := by
  rintro s v₀ v Q E ⟨⟨m, hn⟩, hc⟩ h
  refine wpAny_assign_Name (wpAny_storeName_cell (env := compEnvC scope ((x, C + 1) :: cl) C env) (c := C + 1) (by simp [compEnvC, relabel, hkind]) hx (by show List.lookup x ((x, C + 1) :: cl) = some (C + 1); simp) hc fun h₂ hv₂ hs₂ => ?_)
  exact h h₂ _ ⟨⟨m, hn.at' fun o e => hs₂.extBut _ o (by show @Ne Nat _ _; omega) e⟩, hv₂⟩ fun b o _ hb e => hs₂.extBut b o hb e
/-- the making of a comprehension's frame -/
noncomputable def Makes (prog : Program) (w : World) (A : Around) (env : Env) (scope : Scope) (cl cl' : List (Str × Addr)) (C : Nat) (V : Heap → Option Value → Prop) : Prop :=
  ∀ (s : Shared) (Q : Env → Shared → Prop) (E : Value → Shared → Prop), s.heap.objs.size = C → (∀ env' h₁ tk, env'.locals = C → { env' with scope := relabel scope env } = compEnvC scope cl' C env → V h₁ none → s.heap.StaysIn h₁ → Q env' { s with heap := h₁, toks := tk }) →
    wpAny (model prog w) A (newFunctionEnv scope env.globals cl [] env.qual none .none (some env)) Q E s
theorem makes_l {C : Nat} (hcell : ∀ y ∈ scope.names, y.2 ≠ .cell) (hkind : scope.kind = .function) : Makes prog w A env scope cl cl C (Vl C x) := by
  rintro s Q E rfl h
  refine wpAny_newFunctionEnv hcell (by intro y hy; simp at hy) (fun h₁ hns₁ hsb₁ => ?_) hkind
  refine h _ h₁ _ rfl rfl ⟨_, hns₁, fun u e => by cases e⟩ fun b o e => ?_
  exact hsb₁.extBut b o (Nat.ne_of_lt (Heap.lt_size e)) (Heap.get?_push_of_some _ e)
theorem makes_c {C : Nat} (hcells : cellsFrom (C + 1) scope.names cl = (x, C + 1) :: cl) (hpush : ∀ h, pushCells h scope.names = h.push { cls := .type "cell", data := .cell none }) : Makes prog w A env scope cl ((x, C + 1) :: cl) C (Vc C) := by
  rintro s Q E rfl h
  simp only [newFunctionEnv, Option.isSome_some, if_true]
  refine wpAny_bind (wpAny_alloc ?_)
  refine wpAny_bind (wpAny_layCells _ (fun name kind cells => by cases hkc : kind == NameKind.cell <;> simp [hkc]) _ _ _ _ ?_)
  rw [show ({ s with heap := s.heap.push { cls := .type "dict", data := .dict #[] } } : Shared).heap.objs.size = s.heap.objs.size + 1 from Heap.size_push .., hcells, hpush]
  have e1 : (s.heap.push { cls := .type "dict", data := .dict #[] }).objs.size = s.heap.objs.size + 1 := Heap.size_push ..
  refine wpAny_pure (h _ _ _ rfl rfl ⟨⟨_, (Heap.Ns.new s.heap (.type "dict")).keeps fun b o e => Heap.get?_push_of_some _ e⟩, ({ cls := .type "cell", data := .cell none } : Obj), ?_, rfl⟩ fun b o e => Heap.get?_push_of_some _ (Heap.get?_push_of_some _ e))
  rw [← e1]
  exact Heap.get?_push_size _ rfl
theorem ci_run {use : Option (Value → Sem Unit)} {Q : Value → Shared → Prop} {elt iter : Expr} {pos : Pos} {cl' : List (Str × Addr)} {I C' : Nat} {fp wr : List Addr} {n : Nat} {P : Nat → Value → Prop} {St : Nat → Heap → Prop} {V : Heap → Option Value → Prop}
    (F : Heap → Nat → Value → Prop) (hV : VarAt (s.heap.objs.size + 1) C' V) (hC1 : s.heap.objs.size + 1 ≤ C') (hmk : Makes prog w A env scope cl cl' (s.heap.objs.size + 1) V)
    (hstore : StoresI prog w A (compEnvC scope cl' (s.heap.objs.size + 1) env) (.Name x px) (s.heap.objs.size + 1) C' V)
    (W : Walks prog w A I fp wr n P St) (hsz : n ≤ sizeLine) (hst : St 0 s.heap) (hfp : ∀ b : Nat, b ∈ fp → b < s.heap.objs.size)
    (hF : ∀ h h' j y, F h j y → (∀ (b : Nat) o, C' < b → h.get? b = some o → h'.get? b = some o) → F h' j y)
    (helt : TurnsI prog w A (compEnvC scope cl' (s.heap.objs.size + 1) env) elt wr n P V F s)
    (hend : ∀ h' tk v ys, V h' v → h'.PlainList s.heap.objs.size ys → ys.size = n → (∀ (j : Nat) y, ys[j]? = some y → F h' j y) → (∀ b o, b ∉ wr → s.heap.get? b = some o → h'.get? b = some o) →
      compPost (model prog w) A E use Q (.ref s.heap.objs.size) (s.heap.objs.size + 1) (.ok .next) { s with heap := h', toks := tk }) :
    wpAny (model prog w) A (newList []) (fun acc s₃ => wpAny (model prog w) A (newFunctionEnv scope env.globals cl [] env.qual none .none (some env)) (fun cenv s₄ =>
      codeAny (model prog w) A (.compStart (.ListComp elt [⟨.Name x px, iter, [], 0⟩] scope pos) 0 (.ref I) acc { cenv with scope := relabel scope env }) (compPost (model prog w) A E use Q acc cenv.locals) s₄) E s₃) E s := by
  refine wpAny_newObj_type ?_
  have e1 : (s.heap.push { cls := .type "list", dict := none, data := .seq ([] : List Value).toArray }).objs.size = s.heap.objs.size + 1 := Heap.size_push ..
  refine hmk _ _ _ e1 fun env' h₁ tk hl he hv hs₁ => ?_
  rw [he, hl]
  dsimp only at hs₁ ⊢
  have old : ∀ b o, s.heap.get? b = some o → h₁.get? b = some o := fun b o e => hs₁ _ _ (Heap.get?_push_of_some _ e)
  have hacc : h₁.PlainList s.heap.objs.size #[] := ⟨_, hs₁ _ _ (Heap.get?_push_size _ rfl)⟩
  have hst₁ : St 0 h₁ := W.frame _ _ _ hst fun b _ o e => old b o e
  have loop : ∀ s₃ : Shared, s₃ = { s with heap := h₁, toks := tk } →
      codeAny (model prog w) A (.compLoop (.ListComp elt [⟨.Name x px, iter, [], 0⟩] scope pos) 0 (.ref I) (.ref s.heap.objs.size) (compEnvC scope cl' (s.heap.objs.size + 1) env))
        (compPost (model prog w) A E use Q (.ref s.heap.objs.size) (s.heap.objs.size + 1)) s₃ := by
    rintro s₃ rfl
    exact ci_loop (s₂ := s) W F hV hstore rfl rfl hC1 hfp hF ⟨_, _, rfl⟩ hst₁ hacc hv old helt hend hsz
  exact codeAny_compStart_list (loop _ rfl) (W.self 0 _ _ _ hst₁ (loop _ rfl))
end
end TCj
theorem resetCk : True := by
  w_top off
  first | (walk1; done) | trivial
section TCk
/-- a value that is data, all of it at or above an address -/
noncomputable def DOut (h : Heap) (lo : Nat) (y : Value) (d : Dat) : Prop := ∃ tl : List (Addr × Obj), (∀ p ∈ tl, h.get? p.1 = some p.2 ∧ lo ≤ (p.1 : Nat)) ∧ DatIn tl y d
theorem DOut.keep {h h' : Heap} {lo lo' : Nat} {y : Value} {d : Dat} (x : DOut h lo y d) (hl : lo' ≤ lo) (hk : ∀ (b : Nat) o, lo ≤ b → h.get? b = some o → h'.get? b = some o) : DOut h' lo' y d := by
  obtain ⟨tl, hn, hd⟩ := x
  exact ⟨tl, fun p hp => ⟨hk _ _ (hn p hp).2 (hn p hp).1, Nat.le_trans hl (hn p hp).2⟩, hd⟩
theorem dall_of {h : Heap} {lo : Nat} : ∀ {ys : List Value} {ds : List Dat}, ys.length = ds.length → (∀ (j : Nat) y d, ys[j]? = some y → ds[j]? = some d → DOut h lo y d) → ∃ tl : List (Addr × Obj), (∀ p ∈ tl, h.get? p.1 = some p.2 ∧ lo ≤ (p.1 : Nat)) ∧ DatAll tl ys ds
  | [], [], _, _ => ⟨[], (fun _ hp => nomatch hp), .nil⟩
  | [], _ :: _, hl, _ => by simp at hl
  | _ :: _, [], hl, _ => by simp at hl
  | y :: ys, d :: ds, hl, hk => by
    obtain ⟨t1, n1, d1⟩ := hk 0 y d rfl rfl
    obtain ⟨t2, n2, d2⟩ := dall_of (ys := ys) (ds := ds) (by simpa using hl) fun j a b ha hb => hk (j + 1) a b (by simpa using ha) (by simpa using hb)
    refine ⟨t1 ++ t2, fun p hp => (List.mem_append.mp hp).elim (n1 p) (n2 p), .cons (d1.mono fun _ hp => List.mem_append_left _ hp) (d2.mono fun _ hp => List.mem_append_right _ hp)⟩
theorem dlist_of {h : Heap} {D : Nat} {lo : Nat} {ys : Array Value} {ds : List Dat} (hl : h.PlainList D ys) (hD : lo ≤ D) (hlen : ys.size = ds.length) (hk : ∀ (j : Nat) y d, ys[j]? = some y → ds[j]? = some d → DOut h lo y d) : DOut h lo (.ref D) (.list ds) := by
  obtain ⟨tl, hn, hd⟩ := dall_of (h := h) (lo := lo) (ys := ys.toList) (ds := ds) (by simpa using hlen) fun j y d hy => hk j y d (by simpa using hy)
  obtain ⟨n, hl⟩ := hl
  refine ⟨(D, W.listOf ys n) :: tl, fun p hp => ?_, DatIn.list (vs := ys.toList) (n := n) (by simp) (hd.mono fun _ hp => .tail _ hp)⟩
  rcases List.mem_cons.mp hp with rfl | hp
  · exact ⟨hl, hD⟩
  · exact hn p hp
theorem range_get {n j : Nat} {f : Nat → Dat} {d : Dat} (h : ((List.range n).map f)[j]? = some d) : j < n ∧ d = f j := by
  have hj : j < n := by
    apply Classical.byContradiction; intro q
    rw [List.getElem?_eq_none (by simp; omega)] at h; cases h
  refine ⟨hj, ?_⟩
  rw [List.getElem?_map, List.getElem?_range hj] at h
  exact (Option.some.inj h).symm
/-- what is walked over: n items, each said by P -/
noncomputable def Src (prog : Program) (w : World) (A : Around) (xv : Value) (h : Heap) (n : Nat) (P : Nat → Value → Prop) : Prop :=
  ∀ (s : Shared) (Q : Value → Shared → Prop) (E : Value → Shared → Prop), s.heap = h →
    (∀ (fp : List Addr) (St : Nat → Heap → Prop) (ob : Obj), Walks prog w A h.objs.size fp [h.objs.size] n P St → St 0 (h.push ob) → (∀ b : Nat, b ∈ fp → b < h.objs.size + 1) → Q (.ref h.objs.size) { s with heap := h.push ob }) → wpAny (model prog w) A (pyIter xv) Q E s
theorem src_list {prog : Program} {w : World} {A : Around} {h : Heap} {l : Addr} {vs : List Value} (hh : A.handled = none) (hl : h.IsList l vs.toArray) : Src prog w A (.ref l) h vs.length (fun i v => vs[i]? = some v) := by
  rintro s Q E rfl hq
  have hlt : l < s.heap.objs.size := by obtain ⟨o, ho, _⟩ := hl; exact Heap.lt_size ho
  refine wpAny_pyIter_list hl ?_
  have W := Walks.list (prog := prog) (w := w) hh s.heap.objs.size l (Nat.ne_of_lt hlt) vs.toArray
  have e1 : vs.toArray.size = vs.length := by simp
  have e2 : (fun (i : Nat) (v : Value) => vs.toArray[i]? = some v) = fun i v => vs[i]? = some v := by funext i v; simp
  rw [e1, e2] at W
  refine hq _ _ _ W ⟨⟨_, Heap.get?_push_size _ rfl, rfl, rfl⟩, isList_keeps (push_stays _ _) hl⟩ fun b hb => ?_
  simp only [List.mem_cons, List.not_mem_nil, or_false] at hb
  rcases hb with rfl | rfl
  · exact Nat.lt_succ_self _
  · exact Nat.lt_succ_of_lt hlt
theorem src_range {prog : Program} {w : World} {A : Around} {h : Heap} {r : Addr} {n : Nat} {t₀ u₀ v₀ : Tok} (hh : A.handled = none) (hr : IsRange h r 0 (n : Int) 1 t₀ u₀ v₀) (hn : n ≤ 1000000) : Src prog w A (.ref r) h n (fun i v => ∃ t, v = .int (i : Nat) t) := by
  rintro s Q E rfl hq
  have hsz : Builtin.Range.rangeSize 0 (n : Int) 1 = (n : Int) := by rw [rangeSize_nat]; omega
  refine wpAny_pyIter_range hr (small_one (by omega) (by omega) (by omega) (by omega)) ?_
  have W := Walks.range (prog := prog) (w := w) hh s.heap.objs.size 0 1 n
  have e2 : (fun (i : Nat) (v : Value) => ∃ t, v = .int (0 + (i : Int) * 1) t) = fun i v => ∃ t, v = .int (i : Nat) t := by
    funext i v
    rw [show (0 : Int) + (i : Int) * 1 = ((i : Nat) : Int) by omega]
  rw [e2] at W
  refine hq _ _ _ W ?_ fun b hb => ?_
  · show IsRangeIter _ _ _ _ _
    rw [hsz]
    simpa using Heap.get?_push_size _ rfl
  · rw [List.mem_singleton.mp hb]; exact Nat.lt_succ_self _
/-- the two ways in which a comprehension keeps its name -/
structure Way (prog : Program) (w : World) (A : Around) (env : Env) (scope : Scope) (cl : List (Str × Addr)) (x : Str) (px : Pos) (k : Nat) (clf : Nat → List (Str × Addr)) (V : Nat → Heap → Option Value → Prop) : Prop where
  at_ : ∀ C, VarAt C (C + k) (V C)
  made : ∀ C, Makes prog w A env scope cl (clf C) C (V C)
  st : ∀ C, StoresI prog w A (compEnvC scope (clf C) C env) (.Name x px) C (C + k) (V C)
theorem way_l {prog : Program} {w : World} {A : Around} {env : Env} {scope : Scope} {cl : List (Str × Addr)} {x : Str} {px : Pos} (hcell : ∀ y ∈ scope.names, y.2 ≠ .cell) (hkind : scope.kind = .function) (hx : scope.names.lookup x = some .local) : Way prog w A env scope cl x px 0 (fun _ => cl) (fun C => Vl C x) where
  at_ := fun C => vl_at C x
  made := fun C => makes_l hcell hkind
  st := fun C => stores_l hx hkind
theorem way_c {prog : Program} {w : World} {A : Around} {env : Env} {scope : Scope} {cl : List (Str × Addr)} {x : Str} {px : Pos} (hcells : ∀ C, cellsFrom (C + 1) scope.names cl = (x, C + 1) :: cl) (hpush : ∀ h, pushCells h scope.names = h.push { cls := .type "cell", data := .cell none }) (hkind : scope.kind = .function)
    (hx : ∀ C, (compEnvC scope ((x, C + 1) :: cl) C env).kindOf x = some .cell) : Way prog w A env scope cl x px 1 (fun C => (x, C + 1) :: cl) Vc where
  at_ := fun C => vc_at C
  made := fun C => makes_c (hcells C) hpush
  st := fun C => stores_c (hx C) hkind
/-- a turn of a comprehension whose items are data -/
noncomputable def TurnD (prog : Program) (w : World) (A : Around) (env : Env) (scope : Scope) (elt : Expr) (k : Nat) (clf : Nat → List (Str × Addr)) (V : Nat → Heap → Option Value → Prop) (n : Nat) (P : Nat → Value → Prop) (f : Nat → Dat) (s₁ : Shared) : Prop :=
  ∀ C i v h₃ tk₃, s₁.heap.objs.size < C → C + k < h₃.objs.size → i < n → P i v → V C h₃ (some v) → s₁.heap.StaysIn h₃ →
    wpAny (model prog w) A (eval elt (compEnvC scope (clf C) C env)) (fun y s₄ => ∃ h₄ tk₄, s₄ = { s₁ with heap := h₄, toks := tk₄ } ∧ h₃.StaysIn h₄ ∧ DOut h₄ (C + k + 1) y (f i)) (fun _ _ => False) { s₁ with heap := h₃, toks := tk₃ }
section
variable {prog : Program} {w : World} {A : Around} {E : Value → Shared → Prop} {s : Shared} {env : Env} {scope : Scope} {cl : List (Str × Addr)} {x : Str} {px : Pos} {elt iter : Expr} {pos : Pos} {k : Nat} {clf : Nat → List (Str × Addr)} {V : Nat → Heap → Option Value → Prop}
/-- what cd_expr asks behind its source -/
inductive CdE (prog : Program) (w : World) (A : Around) (env : Env) (scope : Scope) (elt : Expr) (k : Nat) (clf : Nat → List (Str × Addr)) (V : Nat → Heap → Option Value → Prop) (Q : Value → Shared → Prop) (xv : Value) (s₁ : Shared) : Prop where
  | mk (n : Nat) (P : Nat → Value → Prop) (f : Nat → Dat) (hsrc : Src prog w A xv s₁.heap n P) (hn : n ≤ 1000000) (ht : TurnD prog w A env scope elt k clf V n P f s₁)
    (hq : ∀ D h' tk, s₁.heap.StaysIn h' → DOut h' s₁.heap.objs.size (.ref D) (.list ((List.range n).map f)) → Q (.ref D) { s₁ with heap := h', toks := tk }) : CdE prog w A env scope elt k clf V Q xv s₁
/-- what cd_assign asks behind its source -/
inductive CdA (prog : Program) (w : World) (A : Around) (env : Env) (scope : Scope) (elt : Expr) (k : Nat) (clf : Nat → List (Str × Addr)) (V : Nat → Heap → Option Value → Prop) (g : Heap) (y : Str) (Q : Flow → Shared → Prop) (xv : Value) (s₁ : Shared) : Prop where
  | mk (n : Nat) (P : Nat → Value → Prop) (f : Nat → Dat) (m : Str → Option Value) (news : List (Addr × Obj)) (hsrc : Src prog w A xv s₁.heap n P) (hn : n ≤ 1000000) (F : Fr g env.locals s₁.heap m) (N : News g env.locals s₁.heap news) (ht : TurnD prog w A env scope elt k clf V n P f s₁)
    (hq : ∀ D h' tk, Fr g env.locals h' (fun z => if z = y then some (.ref D) else m z) → News g env.locals h' news → DOut h' s₁.heap.objs.size (.ref D) (.list ((List.range n).map f)) → Q .next { s₁ with heap := h', toks := tk }) : CdA prog w A env scope elt k clf V g y Q xv s₁
theorem cd_expr {Q : Value → Shared → Prop} (hclos : closureFor scope env = pure cl) (hkind : scope.kind = .function) (hnames : ∀ y ∈ scope.names, y.2 = .local → scope.names.lookup y.1 = some .local)
    (Wy : Way prog w A env scope cl x px k clf V)
    (h : wpAny (model prog w) A (eval iter env) (CdE prog w A env scope elt k clf V Q) E s)
    (hs : ∀ x, foldedSetIterable iter env x = pure x := by intro _; rfl) :
    wpAny (model prog w) A (eval (.ListComp elt [⟨.Name x px, iter, [], 0⟩] scope pos) env) Q E s := by
  rw [eval_ListComp]
  refine wpAny_comprehension_free (use := none) rfl hs hclos hkind hnames (wpAny_mono h (fun xv s₁ h₁ => ?_) fun _ _ e => e)
  obtain ⟨n, P, f, hsrc, hn, ht, hq⟩ := h₁
  refine hsrc s₁ _ _ rfl fun fp St ob W hst hfp => ?_
  have e1 : (s₁.heap.push ob).objs.size = s₁.heap.objs.size + 1 := Heap.size_push ..
  have hwr : ∀ b o, s₁.heap.get? b = some o → b ∉ [s₁.heap.objs.size] := fun b o e q => by rw [List.mem_singleton.mp q, get_size_none] at e; cases e
  refine ci_run (s := { s₁ with heap := s₁.heap.push ob }) (fun h j y => DOut h (s₁.heap.objs.size + 1 + 1 + k + 1) y (f j)) (V := V ((s₁.heap.push ob).objs.size + 1)) (Wy.at_ _) (Nat.le_add_right _ k) (Wy.made _) (Wy.st _) W (by rw [sizeLine_eq]; omega) hst (fun b hb => by have := hfp b hb; show b < (s₁.heap.push ob).objs.size; omega) ?_ ?_ ?_
  · intro h h' j y hd hk
    refine hd.keep (Nat.le_refl _) fun b o hb e => hk b o ?_ e
    show (s₁.heap.push ob).objs.size + 1 + k < b
    omega
  · intro i v h₃ tk₃ hi hP hv hk
    have hst3 : s₁.heap.StaysIn h₃ := fun b o e => hk b o (hwr b o e) (Heap.get?_push_of_some _ e)
    have hlt := (Wy.at_ _).lt _ _ hv
    refine wpAny_mono (ht _ i v h₃ tk₃ (by show s₁.heap.objs.size < (s₁.heap.push ob).objs.size + 1; omega) hlt hi hP hv hst3) (fun y s₄ h₄ => ?_) fun _ _ e => e
    obtain ⟨h₄, tk₄, rfl, hs4, hd⟩ := h₄
    refine ⟨h₄, tk₄, rfl, hd.keep ?_ fun _ _ _ e => e, hs4⟩
    show s₁.heap.objs.size + 1 + 1 + k + 1 ≤ (s₁.heap.push ob).objs.size + 1 + k + 1
    omega
  · intro h' tk v ys hv hl hlen hF hk
    obtain ⟨m, hm⟩ := (Wy.at_ _).ns _ _ hv
    refine ⟨m, hm, fun h'' hs'' => ?_⟩
    have hne : ∀ (b : Nat) o, s₁.heap.get? b = some o → b ≠ (s₁.heap.push ob).objs.size + 1 := fun b o e => by have h9 : b < s₁.heap.objs.size := Heap.lt_size e; omega
    refine hq _ h'' tk (fun b o e => hs''.extBut b o (hne b o e) (hk b o (hwr b o e) (Heap.get?_push_of_some _ e))) ?_
    refine dlist_of (ys := ys) (hl.at fun o e => hs''.extBut _ o (by show @Ne Nat _ _; omega) e) (by show s₁.heap.objs.size ≤ (s₁.heap.push ob).objs.size; omega) (by simpa using hlen) ?_
    intro j y d hy hd
    obtain ⟨_, rfl⟩ := range_get hd
    exact (hF j y hy).keep (by omega) fun b o hb e => hs''.extBut b o (by show @Ne Nat b ((s₁.heap.push ob).objs.size + 1); omega) e
theorem cd_assign {Q : Flow → Shared → Prop} {y : Str} {py spos : Pos} {g : Heap}
    (hsw : swapsWith (.ListComp elt [⟨.Name x px, iter, [], 0⟩] scope pos) (some (.Name y py)) spos.line env = pure true)
    (hclos : closureFor scope env = pure cl) (hkind : scope.kind = .function) (hnames : ∀ y ∈ scope.names, y.2 = .local → scope.names.lookup y.1 = some .local)
    (Wy : Way prog w A env scope cl x px k clf V) (hy : env.kindOf y = some .local) (hek : env.scope.kind = .function)
    (h : wpAny (model prog w) A (eval iter env) (CdA prog w A env scope elt k clf V g y Q) E s)
    (hs : ∀ x, foldedSetIterable iter env x = pure x := by intro _; rfl) :
    wpAny (model prog w) A (exec (.Assign [.Name y py] (.ListComp elt [⟨.Name x px, iter, [], 0⟩] scope pos) spos) env) Q E s := by
  rw [exec_Assign_Name_used _ _ _ _ hsw]
  refine wpAny_bind (wpAny_standAt (wpAny_bind ?_))
  show wpAny _ A (do let _ ← comprehension (.ListComp elt [⟨.Name x px, iter, [], 0⟩] scope pos) scope env _ (newList []) false (eval iter env) (some (assign (.Name y py) env))) _ _ s
  refine wpAny_bind (wpAny_mono (wpAny_comprehension_free (use := some (assign (.Name y py) env)) (Q := fun _ s' => Q .next s') rfl hs hclos hkind hnames
    (wpAny_mono h (fun xv s₁ h₁ => ?_) fun _ _ e => e)) (fun _ s' hq => wpAny_pure (wpAny_pure hq)) fun _ _ e => e)
  obtain ⟨n, P, f, m, news, hsrc, hn, F, N, ht, hq⟩ := h₁
  refine hsrc s₁ _ _ rfl fun fp St ob W hst hfp => ?_
  have e1 : (s₁.heap.push ob).objs.size = s₁.heap.objs.size + 1 := Heap.size_push ..
  have hwr : ∀ b o, s₁.heap.get? b = some o → b ∉ [s₁.heap.objs.size] := fun b o e q => by rw [List.mem_singleton.mp q, get_size_none] at e; cases e
  refine ci_run (s := { s₁ with heap := s₁.heap.push ob }) (fun h j y => DOut h (s₁.heap.objs.size + 1 + 1 + k + 1) y (f j)) (V := V ((s₁.heap.push ob).objs.size + 1)) (Wy.at_ _) (Nat.le_add_right _ k) (Wy.made _) (Wy.st _) W (by rw [sizeLine_eq]; omega) hst (fun b hb => by have := hfp b hb; show b < (s₁.heap.push ob).objs.size; omega) ?_ ?_ ?_
  · intro h h' j y hd hk
    refine hd.keep (Nat.le_refl _) fun b o hb e => hk b o ?_ e
    show (s₁.heap.push ob).objs.size + 1 + k < b
    omega
  · intro i v h₃ tk₃ hi hP hv hk
    have hst3 : s₁.heap.StaysIn h₃ := fun b o e => hk b o (hwr b o e) (Heap.get?_push_of_some _ e)
    have hlt := (Wy.at_ _).lt _ _ hv
    refine wpAny_mono (ht _ i v h₃ tk₃ (by show s₁.heap.objs.size < (s₁.heap.push ob).objs.size + 1; omega) hlt hi hP hv hst3) (fun y s₄ h₄ => ?_) fun _ _ e => e
    obtain ⟨h₄, tk₄, rfl, hs4, hd⟩ := h₄
    refine ⟨h₄, tk₄, rfl, hd.keep ?_ fun _ _ _ e => e, hs4⟩
    show s₁.heap.objs.size + 1 + 1 + k + 1 ≤ (s₁.heap.push ob).objs.size + 1 + k + 1
    omega
  · intro h' tk v ys hv hl hlen hF hk
    have st3 : s₁.heap.StaysIn h' := fun b o e => hk b o (hwr b o e) (Heap.get?_push_of_some _ e)
    have F3 := stays_fr st3 F
    have N3 := stays_news st3 N
    have hL : @LT.lt Nat _ env.locals s₁.heap.objs.size := by obtain ⟨o, _, _, ho, _⟩ := F.ns; exact Heap.lt_size ho
    show wpAny _ A (assign (.Name y py) env (.ref _)) _ _ _
    refine wpAny_assign_Name (wpAny_storeName_local hy F3.ns (fun h₂ hn₂ hs₂ => ?_) (by rw [hek]; rfl))
    obtain ⟨m', hm⟩ := (Wy.at_ _).ns _ _ hv
    have hneC : @Ne Nat env.locals ((s₁.heap.push ob).objs.size + 1) := by omega
    refine ⟨m', hm.sameBut hs₂ (Ne.symm hneC), fun h'' hs'' => ?_⟩
    have keep : ∀ (b : Nat) o, b ≠ env.locals → b ≠ (s₁.heap.push ob).objs.size + 1 → h'.get? b = some o → h''.get? b = some o := fun b o h1 h2 e => hs''.extBut b o h2 (hs₂.extBut b o h1 e)
    have gE : ∀ (b : Nat) o, g.get? b = some o → @LT.lt Nat _ b env.locals := fun b o e => Nat.lt_of_lt_of_le (Heap.lt_size e) F.above
    refine hq _ h'' _ ⟨hn₂.sameBut hs'' hneC, fun b o e => keep b o (by have := gE b o e; show @Ne Nat b env.locals; omega) (by have := gE b o e; show @Ne Nat b _; omega) (F3.keep b o e), F.above⟩ (fun p hp => ⟨keep _ _ (N p hp).2.1 ?_ (N3 p hp).1, (N p hp).2⟩) ?_
    · have h9 : @LT.lt Nat _ p.1 s₁.heap.objs.size := Heap.lt_size (N p hp).1
      show @Ne Nat p.1 ((s₁.heap.push ob).objs.size + 1)
      omega
    · refine dlist_of (ys := ys) (hl.at fun o e => keep _ o (by show @Ne Nat (s₁.heap.push ob).objs.size env.locals; omega) (by show @Ne Nat (s₁.heap.push ob).objs.size ((s₁.heap.push ob).objs.size + 1); omega) e) (by show s₁.heap.objs.size ≤ (s₁.heap.push ob).objs.size; omega) (by simpa using hlen) ?_
      intro j y d hy hd
      obtain ⟨_, rfl⟩ := range_get hd
      exact (hF j y hy).keep (by omega) fun b o hb e => keep b o (by show @Ne Nat b env.locals; omega) (by show @Ne Nat b ((s₁.heap.push ob).objs.size + 1); omega) e
end
end TCk
theorem resetL2 : True := by
  w_top off
  first | (walk1; done) | trivial
section TL2
noncomputable def mkPack {w : World} {oc : Value} {od : Option Addr} {name qual : Str} {params : Arguments} {body : List Stmt} {scope : Scope} {dV kV doc pm : Value} {an : Option Addr} {cdv ct : Value} {osl : Array (Option Value)}
    (_h : (hd.heap_39 w.params).lookup 118 = some ⟨oc, od, .func (fnOf name qual params body scope dV kV doc pm an cdv ct), osl⟩) : List Stmt × Scope := (body, scope)
set_option maxHeartbeats 8000000 in
/-- the law's own statements and names, as they stand on the heap -/
noncomputable def lawPack (w : World) : List Stmt × Scope := by
  have kf : hd.heap_39 = hd.heap_39 ∧ Challenge.rw_pg0133_01 = Challenge.rw_pg0133_01 := by k_fill; exact ⟨rfl, rfl⟩
  refine' mkPack (w := w) ?h
  case h => k_is
noncomputable def lawBody (w : World) : List Stmt := (lawPack w).1
noncomputable def lawScope (w : World) : Scope := (lawPack w).2
end TL2
theorem resetLc : True := by
  w_top off
  first | (walk1; done) | trivial
section TLc
theorem news_put {h₀ h h' : Heap} {L : Addr} {m : Str → Option Value} {news tl : List (Addr × Obj)} (N : News h₀ L h' news) (F : Fr h₀ L h m) (hn : ∀ p ∈ tl, h'.get? p.1 = some p.2 ∧ h.get? p.1 = none) : News h₀ L h' (news ++ tl) := by
  intro p hp
  rcases List.mem_append.mp hp with hp | hp
  · exact N p hp
  · refine ⟨(hn p hp).1, ?_, ?_⟩
    · intro e
      obtain ⟨o, _, _, ho, _⟩ := F.ns
      have := (hn p hp).2
      rw [e, ho] at this; cases this
    · cases e : h₀.get? p.1 with
      | none => rfl
      | some o =>
        have := (hn p hp).2
        rw [F.keep _ _ e] at this; cases this
theorem none_of_size {h : Heap} {a : Addr} (ha : h.objs.size ≤ (a : Nat)) : h.get? a = none := by
  cases e : h.get? a with
  | none => rfl
  | some o => exact absurd (Heap.lt_size e) (Nat.not_lt.mpr ha)
/-- the law's cells -/
noncomputable abbrev cl8 (L : Nat) (c1 c2 c3 c4 c5 c6 c7 c8 : Obj) : List (Addr × Obj) := [(L + 1 + 1 + 1 + 1 + 1 + 1 + 1 + 1, c8), (L + 1 + 1 + 1 + 1 + 1 + 1 + 1, c7), (L + 1 + 1 + 1 + 1 + 1 + 1, c6), (L + 1 + 1 + 1 + 1 + 1, c5), (L + 1 + 1 + 1 + 1, c4), (L + 1 + 1 + 1, c3), (L + 1 + 1, c2), (L + 1, c1)]
section
variable {L : Nat} {c1 c2 c3 c4 c5 c6 c7 c8 : Obj} {K : List (Addr × Obj)}
theorem mem_c1 : (L + 1, c1) ∈ cl8 L c1 c2 c3 c4 c5 c6 c7 c8 ++ K := .tail _ (.tail _ (.tail _ (.tail _ (.tail _ (.tail _ (.tail _ (.head _)))))))
theorem mem_c2 : (L + 1 + 1, c2) ∈ cl8 L c1 c2 c3 c4 c5 c6 c7 c8 ++ K := .tail _ (.tail _ (.tail _ (.tail _ (.tail _ (.tail _ (.head _))))))
theorem mem_c3 : (L + 1 + 1 + 1, c3) ∈ cl8 L c1 c2 c3 c4 c5 c6 c7 c8 ++ K := .tail _ (.tail _ (.tail _ (.tail _ (.tail _ (.head _)))))
theorem mem_c4 : (L + 1 + 1 + 1 + 1, c4) ∈ cl8 L c1 c2 c3 c4 c5 c6 c7 c8 ++ K := .tail _ (.tail _ (.tail _ (.tail _ (.head _))))
theorem mem_c5 : (L + 1 + 1 + 1 + 1 + 1, c5) ∈ cl8 L c1 c2 c3 c4 c5 c6 c7 c8 ++ K := .tail _ (.tail _ (.tail _ (.head _)))
theorem mem_c6 : (L + 1 + 1 + 1 + 1 + 1 + 1, c6) ∈ cl8 L c1 c2 c3 c4 c5 c6 c7 c8 ++ K := .tail _ (.tail _ (.head _))
theorem mem_c7 : (L + 1 + 1 + 1 + 1 + 1 + 1 + 1, c7) ∈ cl8 L c1 c2 c3 c4 c5 c6 c7 c8 ++ K := .tail _ (.head _)
theorem mem_c8 : (L + 1 + 1 + 1 + 1 + 1 + 1 + 1 + 1, c8) ∈ cl8 L c1 c2 c3 c4 c5 c6 c7 c8 ++ K := .head _
end
theorem cl8_at {L : Nat} {c1 c2 c3 c4 c5 c6 c7 c8 : Obj} {p : Addr × Obj} (hp : p ∈ cl8 L c1 c2 c3 c4 c5 c6 c7 c8) : ∃ k, 1 ≤ k ∧ k ≤ 8 ∧ p.1 = L + k := by
  simp only [cl8, List.mem_cons, List.not_mem_nil, or_false] at hp
  rcases hp with rfl | rfl | rfl | rfl | rfl | rfl | rfl | rfl
  · exact ⟨8, by decide, by decide, rfl⟩
  · exact ⟨7, by decide, by decide, rfl⟩
  · exact ⟨6, by decide, by decide, rfl⟩
  · exact ⟨5, by decide, by decide, rfl⟩
  · exact ⟨4, by decide, by decide, rfl⟩
  · exact ⟨3, by decide, by decide, rfl⟩
  · exact ⟨2, by decide, by decide, rfl⟩
  · exact ⟨1, by decide, by decide, rfl⟩
theorem news_one {g h : Heap} {L : Addr} {J : List (Addr × Obj)} {a : Addr × Obj} (N : News g L h J) (m : a ∈ J) : News g L h (a :: J) := fun p hp => N p ((List.mem_cons.mp hp).elim (fun e => e ▸ m) id)
theorem news_two {g h : Heap} {L : Addr} {J : List (Addr × Obj)} {a b : Addr × Obj} (N : News g L h J) (m : a ∈ J) (n : b ∈ J) : News g L h (a :: b :: J) := news_one (news_one N n) (.tail _ m)
theorem mem_more {K J : List (Addr × Obj)} {a : Addr × Obj} (M : ∀ p ∈ K, p ∈ J) : ∀ p ∈ K, p ∈ a :: J := fun p hp => .tail _ (M p hp)
/-- what is no cell of the law -/
noncomputable def OffC (L : Nat) (K : List (Addr × Obj)) : Prop := ∀ p ∈ K, ∀ k : Nat, 1 ≤ k → k ≤ 8 → @Ne Nat p.1 (L + k)
theorem OffC.app {L : Nat} {K K' : List (Addr × Obj)} (a : OffC L K) (b : OffC L K') : OffC L (K ++ K') := fun p hp => (List.mem_append.mp hp).elim (a p) (b p)
/-- what is new to a heap on which the cells stand -/
theorem off_new {h₀ h : Heap} {L : Nat} {c1 c2 c3 c4 c5 c6 c7 c8 : Obj} {K tl : List (Addr × Obj)} (N : News h₀ L h (cl8 L c1 c2 c3 c4 c5 c6 c7 c8 ++ K)) (hn : ∀ p ∈ tl, h.get? p.1 = none) : OffC L tl := by
  intro p hp k h1 h8 e
  have key : ∀ o, (L + k, o) ∈ cl8 L c1 c2 c3 c4 c5 c6 c7 c8 ++ K → False := fun o hm => by
    have a := (N _ hm).1
    have b := hn p hp
    rw [e, a] at b; cases b
  rcases k with _ | k
  · exact absurd h1 (Nat.not_succ_le_zero 0)
  clear h1
  iterate 8 (rcases k with _ | k; · exact key _ (List.mem_append_left _ (by repeat (first | exact .head _ | apply List.Mem.tail))))
  exact absurd h8 (Nat.not_le.mpr (Nat.lt_of_lt_of_le (Nat.lt_succ_self 8) (Nat.le_add_left 9 k)))
theorem st_cell {M : Model} {A : Around} {E : Value → Shared → Prop} {s : Shared} {h₀ : Heap} {L c : Addr} {m : Str → Option Value} {news : List (Addr × Obj)} {env : Env} {name : Str} {v : Value} {v₀ : Option Value} {o : Obj} {Q : Unit → Shared → Prop}
    (F : Fr h₀ L s.heap m) (N : News h₀ L s.heap news) (hk : env.scope.kind = .function) (hl : env.kindOf name = some .cell) (hc : env.cells.lookup name = some c) (hm : (c, o) ∈ news) (hd : o.data = .cell v₀) (G : Obj → List (Addr × Obj)) (hG : ∀ o', ∀ p ∈ G o', p = (c, o') ∨ (p ∈ news ∧ p.1 ≠ c))
    (h : ∀ h' o', Fr h₀ L h' m → News h₀ L h' (G o') → o'.data = .cell (some v) → Q () { s with heap := h' }) : wpAny M A (storeName env name v) Q E s := by
  have q := N _ hm
  refine wpAny_storeName_cell hk hl hc ⟨o, q.1, hd⟩ fun h' hv hs => ?_
  obtain ⟨o', ho', hd'⟩ := hv
  refine h h' o' (F.change hs q.2.1 q.2.2) (fun p hp => ?_) hd'
  rcases hG o' p hp with rfl | ⟨hp, hne⟩
  · exact ⟨ho', q.2⟩
  · exact ⟨hs.extBut _ _ hne (N p hp).1, (N p hp).2⟩
theorem set_gen {A B K : List (Addr × Obj)} {a : Addr} {o : Obj} (hA : ∀ p ∈ A, p.1 ≠ a) (hB : ∀ p ∈ B, p.1 ≠ a) (hK : ∀ p ∈ K, p.1 ≠ a) : ∀ o', ∀ p ∈ (A ++ (a, o') :: B) ++ K, p = (a, o') ∨ (p ∈ (A ++ (a, o) :: B) ++ K ∧ p.1 ≠ a) := by
  intro o' p hp
  rcases List.mem_append.mp hp with hp | hp
  · rcases List.mem_append.mp hp with hp | hp
    · exact .inr ⟨List.mem_append_left _ (List.mem_append_left _ hp), hA p hp⟩
    · rcases List.mem_cons.mp hp with rfl | hp
      · exact .inl rfl
      · exact .inr ⟨List.mem_append_left _ (List.mem_append_right _ (.tail _ hp)), hB p hp⟩
  · exact .inr ⟨List.mem_append_right _ hp, hK p hp⟩
theorem add_ne (L : Nat) {a b : Nat} (h : a ≠ b) : L + a ≠ L + b := fun e => h (Nat.add_left_cancel e)
theorem all_nil {a : Addr} : ∀ p ∈ ([] : List (Addr × Obj)), p.1 ≠ a := fun _ h => nomatch h
theorem all_cons {A : List (Addr × Obj)} {a b : Addr} {o : Obj} (h : b ≠ a) (r : ∀ p ∈ A, p.1 ≠ a) : ∀ p ∈ (b, o) :: A, p.1 ≠ a := by
  intro p hp
  rcases List.mem_cons.mp hp with rfl | hp
  · exact h
  · exact r p hp
theorem set_c1 {L : Nat} {c1 c2 c3 c4 c5 c6 c7 c8 : Obj} {K : List (Addr × Obj)} (hK : OffC L K) : ∀ o', ∀ p ∈ cl8 L o' c2 c3 c4 c5 c6 c7 c8 ++ K, p = (L + 1, o') ∨ (p ∈ cl8 L c1 c2 c3 c4 c5 c6 c7 c8 ++ K ∧ p.1 ≠ L + 1) :=
  set_gen (A := [(L + 1 + 1 + 1 + 1 + 1 + 1 + 1 + 1, c8), (L + 1 + 1 + 1 + 1 + 1 + 1 + 1, c7), (L + 1 + 1 + 1 + 1 + 1 + 1, c6), (L + 1 + 1 + 1 + 1 + 1, c5), (L + 1 + 1 + 1 + 1, c4), (L + 1 + 1 + 1, c3), (L + 1 + 1, c2)]) (B := []) (a := L + 1) (o := c1) (all_cons (add_ne L (a := 8) (b := 1) (by decide)) (all_cons (add_ne L (a := 7) (b := 1) (by decide)) (all_cons (add_ne L (a := 6) (b := 1) (by decide)) (all_cons (add_ne L (a := 5) (b := 1) (by decide)) (all_cons (add_ne L (a := 4) (b := 1) (by decide)) (all_cons (add_ne L (a := 3) (b := 1) (by decide)) (all_cons (add_ne L (a := 2) (b := 1) (by decide)) all_nil))))))) all_nil (fun p hp => hK p hp 1 (by decide) (by decide))
theorem set_c2 {L : Nat} {c1 c2 c3 c4 c5 c6 c7 c8 : Obj} {K : List (Addr × Obj)} (hK : OffC L K) : ∀ o', ∀ p ∈ cl8 L c1 o' c3 c4 c5 c6 c7 c8 ++ K, p = (L + 1 + 1, o') ∨ (p ∈ cl8 L c1 c2 c3 c4 c5 c6 c7 c8 ++ K ∧ p.1 ≠ L + 1 + 1) :=
  set_gen (A := [(L + 1 + 1 + 1 + 1 + 1 + 1 + 1 + 1, c8), (L + 1 + 1 + 1 + 1 + 1 + 1 + 1, c7), (L + 1 + 1 + 1 + 1 + 1 + 1, c6), (L + 1 + 1 + 1 + 1 + 1, c5), (L + 1 + 1 + 1 + 1, c4), (L + 1 + 1 + 1, c3)]) (B := [(L + 1, c1)]) (a := L + 1 + 1) (o := c2) (all_cons (add_ne L (a := 8) (b := 2) (by decide)) (all_cons (add_ne L (a := 7) (b := 2) (by decide)) (all_cons (add_ne L (a := 6) (b := 2) (by decide)) (all_cons (add_ne L (a := 5) (b := 2) (by decide)) (all_cons (add_ne L (a := 4) (b := 2) (by decide)) (all_cons (add_ne L (a := 3) (b := 2) (by decide)) all_nil)))))) (all_cons (add_ne L (a := 1) (b := 2) (by decide)) all_nil) (fun p hp => hK p hp 2 (by decide) (by decide))
theorem set_c3 {L : Nat} {c1 c2 c3 c4 c5 c6 c7 c8 : Obj} {K : List (Addr × Obj)} (hK : OffC L K) : ∀ o', ∀ p ∈ cl8 L c1 c2 o' c4 c5 c6 c7 c8 ++ K, p = (L + 1 + 1 + 1, o') ∨ (p ∈ cl8 L c1 c2 c3 c4 c5 c6 c7 c8 ++ K ∧ p.1 ≠ L + 1 + 1 + 1) :=
  set_gen (A := [(L + 1 + 1 + 1 + 1 + 1 + 1 + 1 + 1, c8), (L + 1 + 1 + 1 + 1 + 1 + 1 + 1, c7), (L + 1 + 1 + 1 + 1 + 1 + 1, c6), (L + 1 + 1 + 1 + 1 + 1, c5), (L + 1 + 1 + 1 + 1, c4)]) (B := [(L + 1 + 1, c2), (L + 1, c1)]) (a := L + 1 + 1 + 1) (o := c3) (all_cons (add_ne L (a := 8) (b := 3) (by decide)) (all_cons (add_ne L (a := 7) (b := 3) (by decide)) (all_cons (add_ne L (a := 6) (b := 3) (by decide)) (all_cons (add_ne L (a := 5) (b := 3) (by decide)) (all_cons (add_ne L (a := 4) (b := 3) (by decide)) all_nil))))) (all_cons (add_ne L (a := 2) (b := 3) (by decide)) (all_cons (add_ne L (a := 1) (b := 3) (by decide)) all_nil)) (fun p hp => hK p hp 3 (by decide) (by decide))
theorem set_c4 {L : Nat} {c1 c2 c3 c4 c5 c6 c7 c8 : Obj} {K : List (Addr × Obj)} (hK : OffC L K) : ∀ o', ∀ p ∈ cl8 L c1 c2 c3 o' c5 c6 c7 c8 ++ K, p = (L + 1 + 1 + 1 + 1, o') ∨ (p ∈ cl8 L c1 c2 c3 c4 c5 c6 c7 c8 ++ K ∧ p.1 ≠ L + 1 + 1 + 1 + 1) :=
  set_gen (A := [(L + 1 + 1 + 1 + 1 + 1 + 1 + 1 + 1, c8), (L + 1 + 1 + 1 + 1 + 1 + 1 + 1, c7), (L + 1 + 1 + 1 + 1 + 1 + 1, c6), (L + 1 + 1 + 1 + 1 + 1, c5)]) (B := [(L + 1 + 1 + 1, c3), (L + 1 + 1, c2), (L + 1, c1)]) (a := L + 1 + 1 + 1 + 1) (o := c4) (all_cons (add_ne L (a := 8) (b := 4) (by decide)) (all_cons (add_ne L (a := 7) (b := 4) (by decide)) (all_cons (add_ne L (a := 6) (b := 4) (by decide)) (all_cons (add_ne L (a := 5) (b := 4) (by decide)) all_nil)))) (all_cons (add_ne L (a := 3) (b := 4) (by decide)) (all_cons (add_ne L (a := 2) (b := 4) (by decide)) (all_cons (add_ne L (a := 1) (b := 4) (by decide)) all_nil))) (fun p hp => hK p hp 4 (by decide) (by decide))
theorem set_c5 {L : Nat} {c1 c2 c3 c4 c5 c6 c7 c8 : Obj} {K : List (Addr × Obj)} (hK : OffC L K) : ∀ o', ∀ p ∈ cl8 L c1 c2 c3 c4 o' c6 c7 c8 ++ K, p = (L + 1 + 1 + 1 + 1 + 1, o') ∨ (p ∈ cl8 L c1 c2 c3 c4 c5 c6 c7 c8 ++ K ∧ p.1 ≠ L + 1 + 1 + 1 + 1 + 1) :=
  set_gen (A := [(L + 1 + 1 + 1 + 1 + 1 + 1 + 1 + 1, c8), (L + 1 + 1 + 1 + 1 + 1 + 1 + 1, c7), (L + 1 + 1 + 1 + 1 + 1 + 1, c6)]) (B := [(L + 1 + 1 + 1 + 1, c4), (L + 1 + 1 + 1, c3), (L + 1 + 1, c2), (L + 1, c1)]) (a := L + 1 + 1 + 1 + 1 + 1) (o := c5) (all_cons (add_ne L (a := 8) (b := 5) (by decide)) (all_cons (add_ne L (a := 7) (b := 5) (by decide)) (all_cons (add_ne L (a := 6) (b := 5) (by decide)) all_nil))) (all_cons (add_ne L (a := 4) (b := 5) (by decide)) (all_cons (add_ne L (a := 3) (b := 5) (by decide)) (all_cons (add_ne L (a := 2) (b := 5) (by decide)) (all_cons (add_ne L (a := 1) (b := 5) (by decide)) all_nil)))) (fun p hp => hK p hp 5 (by decide) (by decide))
theorem set_c6 {L : Nat} {c1 c2 c3 c4 c5 c6 c7 c8 : Obj} {K : List (Addr × Obj)} (hK : OffC L K) : ∀ o', ∀ p ∈ cl8 L c1 c2 c3 c4 c5 o' c7 c8 ++ K, p = (L + 1 + 1 + 1 + 1 + 1 + 1, o') ∨ (p ∈ cl8 L c1 c2 c3 c4 c5 c6 c7 c8 ++ K ∧ p.1 ≠ L + 1 + 1 + 1 + 1 + 1 + 1) :=
  set_gen (A := [(L + 1 + 1 + 1 + 1 + 1 + 1 + 1 + 1, c8), (L + 1 + 1 + 1 + 1 + 1 + 1 + 1, c7)]) (B := [(L + 1 + 1 + 1 + 1 + 1, c5), (L + 1 + 1 + 1 + 1, c4), (L + 1 + 1 + 1, c3), (L + 1 + 1, c2), (L + 1, c1)]) (a := L + 1 + 1 + 1 + 1 + 1 + 1) (o := c6) (all_cons (add_ne L (a := 8) (b := 6) (by decide)) (all_cons (add_ne L (a := 7) (b := 6) (by decide)) all_nil)) (all_cons (add_ne L (a := 5) (b := 6) (by decide)) (all_cons (add_ne L (a := 4) (b := 6) (by decide)) (all_cons (add_ne L (a := 3) (b := 6) (by decide)) (all_cons (add_ne L (a := 2) (b := 6) (by decide)) (all_cons (add_ne L (a := 1) (b := 6) (by decide)) all_nil))))) (fun p hp => hK p hp 6 (by decide) (by decide))
theorem set_c7 {L : Nat} {c1 c2 c3 c4 c5 c6 c7 c8 : Obj} {K : List (Addr × Obj)} (hK : OffC L K) : ∀ o', ∀ p ∈ cl8 L c1 c2 c3 c4 c5 c6 o' c8 ++ K, p = (L + 1 + 1 + 1 + 1 + 1 + 1 + 1, o') ∨ (p ∈ cl8 L c1 c2 c3 c4 c5 c6 c7 c8 ++ K ∧ p.1 ≠ L + 1 + 1 + 1 + 1 + 1 + 1 + 1) :=
  set_gen (A := [(L + 1 + 1 + 1 + 1 + 1 + 1 + 1 + 1, c8)]) (B := [(L + 1 + 1 + 1 + 1 + 1 + 1, c6), (L + 1 + 1 + 1 + 1 + 1, c5), (L + 1 + 1 + 1 + 1, c4), (L + 1 + 1 + 1, c3), (L + 1 + 1, c2), (L + 1, c1)]) (a := L + 1 + 1 + 1 + 1 + 1 + 1 + 1) (o := c7) (all_cons (add_ne L (a := 8) (b := 7) (by decide)) all_nil) (all_cons (add_ne L (a := 6) (b := 7) (by decide)) (all_cons (add_ne L (a := 5) (b := 7) (by decide)) (all_cons (add_ne L (a := 4) (b := 7) (by decide)) (all_cons (add_ne L (a := 3) (b := 7) (by decide)) (all_cons (add_ne L (a := 2) (b := 7) (by decide)) (all_cons (add_ne L (a := 1) (b := 7) (by decide)) all_nil)))))) (fun p hp => hK p hp 7 (by decide) (by decide))
theorem set_c8 {L : Nat} {c1 c2 c3 c4 c5 c6 c7 c8 : Obj} {K : List (Addr × Obj)} (hK : OffC L K) : ∀ o', ∀ p ∈ cl8 L c1 c2 c3 c4 c5 c6 c7 o' ++ K, p = (L + 1 + 1 + 1 + 1 + 1 + 1 + 1 + 1, o') ∨ (p ∈ cl8 L c1 c2 c3 c4 c5 c6 c7 c8 ++ K ∧ p.1 ≠ L + 1 + 1 + 1 + 1 + 1 + 1 + 1 + 1) :=
  set_gen (A := []) (B := [(L + 1 + 1 + 1 + 1 + 1 + 1 + 1, c7), (L + 1 + 1 + 1 + 1 + 1 + 1, c6), (L + 1 + 1 + 1 + 1 + 1, c5), (L + 1 + 1 + 1 + 1, c4), (L + 1 + 1 + 1, c3), (L + 1 + 1, c2), (L + 1, c1)]) (a := L + 1 + 1 + 1 + 1 + 1 + 1 + 1 + 1) (o := c8) all_nil (all_cons (add_ne L (a := 7) (b := 8) (by decide)) (all_cons (add_ne L (a := 6) (b := 8) (by decide)) (all_cons (add_ne L (a := 5) (b := 8) (by decide)) (all_cons (add_ne L (a := 4) (b := 8) (by decide)) (all_cons (add_ne L (a := 3) (b := 8) (by decide)) (all_cons (add_ne L (a := 2) (b := 8) (by decide)) (all_cons (add_ne L (a := 1) (b := 8) (by decide)) all_nil))))))) (fun p hp => hK p hp 8 (by decide) (by decide))
end TLc
theorem resetLs : True := by
  w_top off
  first | (walk1; done) | trivial
section TLs
/-- what stands around the law's body -/
structure LC (w : World) (p : Program) (loose : List Str) (mean : ExcName → Option Value) (mg mb : Str → Option Value) (dp un : Nat) (outer : List Env) (A₀ : Around) (base g : Heap) (sc : Addr) (vs : List Value) (ns : List Int) : Prop where
  B : Below A₀ base outer g
  X : (hd.heap_39 w.params).In g
  T : Top p loose mean mg mb g
  hdp : dp + 10 < recursionLimit
  hun : un + 300 < cLine
  hp : g.IsList sc vs.toArray
  hI : IntsAre vs ns
  hn : ns.length ≤ 63
/-- the law from its k-th statement on -/
noncomputable def Goes (w : World) (dp un : Nat) (gd : Option (List Code)) (outer : List Env) (L fa : Addr) (cdv : Value) (k : Nat) (Q : Flow → Shared → Prop) (s : Shared) : Prop :=
  wpAny (model Challenge.rw_pg0133_01.row.prog w) (ktrTop dp un gd (Str.ofString "law") (lawScope w) L fa cdv (cellsFrom (L + 1) (lawScope w).names []) outer) (execs ((lawBody w).drop k) (envOfC (Str.ofString "law") (lawScope w) L fa cdv)) Q (fun _ _ => False) s
/-- the law's cells and what it has made -/
inductive Cells (g : Heap) (L : Nat) (h : Heap) (v1 v2 v3 v4 v5 v6 v7 v8 : Option Value) (K : List (Addr × Obj)) : Prop where
  | mk (c1 c2 c3 c4 c5 c6 c7 c8 : Obj) (N : News g L h (cl8 L c1 c2 c3 c4 c5 c6 c7 c8 ++ K)) (e1 : c1.data = .cell v1) (e2 : c2.data = .cell v2) (e3 : c3.data = .cell v3) (e4 : c4.data = .cell v4) (e5 : c5.data = .cell v5) (e6 : c6.data = .cell v6) (e7 : c7.data = .cell v7) (e8 : c8.data = .cell v8) : Cells g L h v1 v2 v3 v4 v5 v6 v7 v8 K
/-- where the law stands: its names, its cells, and what it has made -/
structure LS (g : Heap) (L : Nat) (h : Heap) (m : Str → Option Value) (v1 v2 v3 v4 v5 v6 v7 v8 : Option Value) (K : List (Addr × Obj)) : Prop where
  F : Fr g L h m
  N : Cells g L h v1 v2 v3 v4 v5 v6 v7 v8 K
  off : OffC L K
/-- all of a list stands on a heap -/
noncomputable def At (K : List (Addr × Obj)) (H : Heap) : Prop := ∀ p ∈ K, H.get? p.1 = some p.2
theorem more {g h h' : Heap} {L : Nat} {m : Str → Option Value} {c1 c2 c3 c4 c5 c6 c7 c8 : Obj} {K tl : List (Addr × Obj)} (N : News g L h (cl8 L c1 c2 c3 c4 c5 c6 c7 c8 ++ K)) (N' : News g L h' (cl8 L c1 c2 c3 c4 c5 c6 c7 c8 ++ K)) (F : Fr g L h m) (off : OffC L K)
    (hn : ∀ p ∈ tl, h'.get? p.1 = some p.2 ∧ h.objs.size ≤ (p.1 : Nat)) : News g L h' (cl8 L c1 c2 c3 c4 c5 c6 c7 c8 ++ (tl ++ K)) ∧ OffC L (tl ++ K) := by
  have q := news_put N' F fun p hp => ⟨(hn p hp).1, none_of_size (hn p hp).2⟩
  refine ⟨fun p hp => q p ?_, OffC.app (off_new N fun p hp => none_of_size (hn p hp).2) off⟩
  rcases List.mem_append.mp hp with hp | hp
  · exact List.mem_append_left _ (List.mem_append_left _ hp)
  · rcases List.mem_append.mp hp with hp | hp
    · exact List.mem_append_right _ hp
    · exact List.mem_append_left _ (List.mem_append_right _ hp)
theorem At.tail {K tl : List (Addr × Obj)} {H : Heap} (h : At (tl ++ K) H) : At K H := fun p hp => h p (List.mem_append_right _ hp)
noncomputable def fourI (tot : Int) (j : Nat) : Int := (((1909 + tot).fmod 2401).fdiv (7 ^ j)).fmod 7
noncomputable def threeI (tot : Int) (j : Nat) : Int := (((290 + tot.fdiv 2401).fmod 343).fdiv (7 ^ j)).fmod 7
noncomputable def intsD (l : List Int) : Dat := .list (l.map .int)
noncomputable def fourL (tot : Int) : List Int := (List.range 4).map (fourI tot)
noncomputable def threeL (tot : Int) : List Int := (List.range 3).map (threeI tot)
theorem pow7_small {i : Nat} (h : i < 4) : ((7 : Int) ^ i).natAbs < 1073741824 := by
  have key : ∀ i < 4, ((7 : Int) ^ i).natAbs < 1073741824 := by decide
  exact key i h
set_option maxHeartbeats 8000000 in
theorem law_seg1 {w : World} {p : Program} {loose : List Str} {mean : ExcName → Option Value} {mg mb : Str → Option Value} {dp un : Nat} {gd : Option (List Code)} {outer : List Env} {A₀ : Around} {base g : Heap} {sc : Addr} {vs : List Value} {ns : List Int}
    (C : LC w p loose mean mg mb dp un outer A₀ base g sc vs ns) {L fa : Addr} {cdv : Value} {Q : Flow → Shared → Prop} {s : Shared} {h : Heap} {tk : Nat}
    (S : LS g L h (fun y => if y = Str.ofString "script" then some (.ref sc) else none) none none none none none none none none [])
    (next : ∀ (h' : Heap) tk' K a Df Dt t, LS g L h' (fun y => if y = Str.ofString "three" then some (.ref Dt) else if y = Str.ofString "four" then some (.ref Df) else if y = Str.ofString "script" then some (.ref sc) else none) (some (.ref a)) (some (.int ns.sum t)) none none none none none none K →
      (∀ H, At K H → NamesAt w H a) → DatIn K (.ref Df) (intsD (fourL ns.sum)) → DatIn K (.ref Dt) (intsD (threeL ns.sum)) → Goes w dp un gd outer L fa cdv 4 Q { s with heap := h', toks := tk' }) :
    Goes w dp un gd outer L fa cdv 0 Q { s with heap := h, toks := tk } := by
  have kf : hd.heap_39 = hd.heap_39 ∧ Challenge.rw_pg0133_01 = Challenge.rw_pg0133_01 := by k_fill; exact ⟨rfl, rfl⟩
  obtain ⟨B, X, T, hdp, hun, hp, hI, hn⟩ := C
  obtain ⟨F, ⟨c1, c2, c3, c4, c5, c6, c7, c8, N, e1, e2, e3, e4, e5, e6, e7, e8⟩, -⟩ := S
  unfold Goes lawScope lawBody lawPack mkPack
  dsimp only [List.drop]
  refine wpAny_execs_cons ?_
  iterate 4 walk1
  refine' tl_use (law_names w) ?k1 ?k2 ?k3 ?k5 ?kf ?kk ?kd ?ku trivial ?_
  case k2 => exact F
  walk_at "mine room"
  rintro _ h1 tk1 G1 ⟨a, K, rfl, hnew, hNA⟩
  have F1 := Gr.fr G1 F
  rw [List.append_nil] at N
  have N1 := news_put (Gr.news G1 N) F hnew
  have hoff : OffC L K := off_new (K := []) (by rw [List.append_nil]; exact N) fun p hp => (hnew p hp).2
  clear F N hnew G1
  dsimp only
  refine st_cell (L := L) F1 N1 (by rfl) (by rfl) (by rfl) (o := c1) mem_c1 e1 _ (set_c1 hoff) ?_
  clear F1 N1 e1 c1
  intro h2 c1 F N e1
  simp only [cl8, List.cons_append, List.nil_append] at N
  refine wpAny_execs_cons ?_
  iterate 8 walk1
  rename_i h3 tk3 tt F3 N3
  clear F N
  refine st_cell (L := L) F3 N3 (by rfl) (by rfl) (by rfl) (o := c2) mem_c2 e2 _ (set_c2 hoff) ?_
  clear F3 N3 e2 c2
  intro h4 c2 F N e2
  generalize ns.sum = tot at e2 next
  dsimp only
  refine ec ?_
  intro R hR
  refine cd_assign (g := g) (by rfl) (by rfl) (by rfl) (by decide) (way_l (by decide) rfl (by decide)) (by rfl) rfl ?_
  simp only [cl8, List.cons_append, List.nil_append] at N
  iterate 6 walk1
  refine range1_rows (by k_asm) (by k_asm) ?_
  intro h5 tk5 ta tb tc hR9 F5 N5 _
  have hR' : IsRange h5 _ 0 ((4 : Nat) : Int) 1 _ _ _ := hR9
  refine ⟨4, _, fun j => .int (fourI tot j), _, _, src_range rfl hR' (by decide), by decide, F5, N5, ?_, ?_⟩
  · rintro C i v h₃ tk₃ hC hlt hi ⟨t, rfl⟩ ⟨m₃, hNs, hm⟩ hst3
    have F3 := stays_fr hst3 F5
    have N3 := stays_news hst3 N5
    have hm' := hm _ rfl
    clear hst3 hm F N F5 N5
    dsimp only
    iterate 12 walk1
    refine pow_int_small (Int.natCast_nonneg _) (by omega) (by decide) ?_
    rw [Int.toNat_natCast]
    refine floordiv_int (Int.ne_of_gt (Int.pow_pos (by decide))) ?_ (Or.inl (PyProof.noPylong_small (pow7_small hi)))
    iterate 2 walk1
    exact ⟨_, _, rfl, fun _ _ e => e, [], (fun _ hp => nomatch hp), .int _ _⟩
  · rintro Df h6 tk6 F6 N6 ⟨tl4, hn4, d4⟩
    obtain ⟨N7, off7⟩ := more N5 N6 F5 hoff hn4
    have hNA' : ∀ H, At (tl4 ++ K) H → NamesAt w H a := fun H hH => hNA H hH.tail
    replace d4 : DatIn (tl4 ++ K) (.ref Df) (intsD (fourL tot)) := by
      have := d4.mono (news' := tl4 ++ K) fun _ hp => List.mem_append_left _ hp
      rw [intsD, fourL, List.map_map]; exact this
    generalize tl4 ++ K = K' at N7 off7 hNA' d4
    clear N5 N6 hoff hn4 hNA F N F5 hR9 hR' K
    refine hR _ ?_
    clear hR R
    dsimp only at F6 N7 ⊢
    refine ec ?_
    intro R hR
    refine cd_assign (g := g) (by rfl) (by rfl) (by rfl) (by decide) (way_l (by decide) rfl (by decide)) (by rfl) rfl ?_
    simp only [cl8, List.cons_append, List.nil_append] at N7
    iterate 6 walk1
    refine range1_rows (by k_asm) (by k_asm) ?_
    intro h5 tk5 ta tb tc hR9 F5 N5 _
    have hR' : IsRange h5 _ 0 ((3 : Nat) : Int) 1 _ _ _ := hR9
    refine ⟨3, _, fun j => .int (threeI tot j), _, _, src_range rfl hR' (by decide), by decide, F5, N5, ?_, ?_⟩
    · rintro C i v h₃ tk₃ hC hlt hi ⟨t, rfl⟩ ⟨m₃, hNs, hm⟩ hst3
      have F3 := stays_fr hst3 F5
      have N3 := stays_news hst3 N5
      have hm' := hm _ rfl
      clear hst3 hm F5 N5
      dsimp only
      iterate 15 walk1
      refine pow_int_small (Int.natCast_nonneg _) (by omega) (by decide) ?_
      rw [Int.toNat_natCast]
      refine floordiv_int (Int.ne_of_gt (Int.pow_pos (by decide))) ?_ (Or.inl (PyProof.noPylong_small (pow7_small (by omega))))
      iterate 2 walk1
      exact ⟨_, _, rfl, fun _ _ e => e, [], (fun _ hp => nomatch hp), .int _ _⟩
    · rintro Dt h8 tk8 F8 N8 ⟨tl3, hn3, d3⟩
      obtain ⟨N9, off9⟩ := more N5 N8 F5 off7 hn3
      refine hR _ (next h8 tk8 (tl3 ++ K') a Df Dt _ ⟨F8, ⟨c1, c2, c3, c4, c5, c6, c7, c8, N9, e1, e2, e3, e4, e5, e6, e7, e8⟩, off9⟩ (fun H hH => hNA' H hH.tail) (d4.mono fun _ hp => List.mem_append_right _ hp) ?_)
      have := d3.mono (news' := tl3 ++ K') fun _ hp => List.mem_append_left _ hp
      rw [intsD, threeL, List.map_map]; exact this
end TLs
theorem resetLt : True := by
  w_top off
  first | (walk1; done) | trivial
section TLt
theorem ints_dall {K : List (Addr × Obj)} : ∀ {us : List Value} {l : List Int}, DatAll K us (l.map .int) → IntsAre us l
  | _, [], h => by cases h; exact .nil
  | _, x :: r, h => by
    cases h with
    | cons h1 h2 => cases h1; exact .cons _ _ (ints_dall h2)
theorem dall_ints {K : List (Addr × Obj)} {us : List Value} {l : List Int} (h : IntsAre us l) : DatAll K us (l.map .int) := by
  induction h with
  | nil => exact .nil
  | cons n t _ ih => exact .cons (.int n t) ih
inductive ListIn (K : List (Addr × Obj)) (D : Addr) (l : List Dat) : Prop where
  | mk (us : List Value) (n : Nat) (m : (D, W.listOf us.toArray n) ∈ K) (i : DatAll K us l) : ListIn K D l
theorem list_of_dat {K : List (Addr × Obj)} {D : Addr} {l : List Dat} (h : DatIn K (.ref D) (.list l)) : ListIn K D l := by
  cases h with
  | list x y => exact ⟨_, _, x, y⟩
theorem ints_of_dat {K : List (Addr × Obj)} {a : Addr} {l : List Int} (h : DatIn K (.ref a) (intsD l)) : ∃ us n, (a, W.listOf us.toArray n) ∈ K ∧ IntsAre us l := by
  unfold intsD at h
  cases h with
  | list hm hd => exact ⟨_, _, hm, ints_dall hd⟩
theorem dat_ints {K : List (Addr × Obj)} {a : Addr} {us : List Value} {l : List Int} {n : Nat} (hm : (a, W.listOf us.toArray n) ∈ K) (h : IntsAre us l) : DatIn K (.ref a) (intsD l) := DatIn.list hm (dall_ints h)
noncomputable def swapL (l : List Int) (k : Nat) : List Int := l.take k ++ [l.getD (k + 1) 0, l.getD k 0] ++ l.drop (k + 2)
theorem getD_some {l : List Int} {k : Nat} (h : k < l.length) : l[k]? = some (l.getD k 0) := by
  rw [List.getElem?_eq_getElem h, List.getD_eq_getElem?_getD, List.getElem?_eq_getElem h]; rfl
theorem il_itemZ {w : World} {A : Around} {E : Value → Shared → Prop} {s : Shared} {l : Addr} {vs : List Value} {ns : List Int} {k : Nat} {ki : Int} {u : Tok} {n : Int} {Q : Value → Shared → Prop} {value slice : Expr}
    (hki : ki = (k : Nat)) (hl : s.heap.IsList l vs.toArray) (hi : IntsAre vs ns) (hk : ns[k]? = some n) (h5 : k ≤ 1000)
    (hs : subscripted slice false (.ref l) (.int ki u) = operate [.ref l, .int ki u] (getItem (.ref l) (.int ki u)))
    (hQ : ∀ t, Q (.int n t) s) : wpAny (model Challenge.rw_pg0133_01.row.prog w) A (subscriptTail value slice (.ref l) (.int ki u)) Q E s := by
  subst hki
  exact il_item hl hi hk h5 hs hQ
theorem append_after {g h h' : Heap} {L D : Addr} {o o' : Obj} {CL K own M : List (Addr × Obj)} {ex : Addr × Obj} (sub : ∀ p ∈ CL ++ (ex :: K) ++ own ++ [(D, o)], p ∈ M) (N : News g L h M) (hs : Heap.SameBut D h h') (ho : h'.get? D = some o')
    (hCL : ∀ p ∈ CL, p.1 ≠ D) (hex : ex.1 ≠ D) (hK : ∀ p ∈ K, p.1 ≠ D) (hown : ∀ p ∈ own, p.1 ≠ D) : News g L h' (CL ++ ((D, o') :: (ex :: K)) ++ own) := by
  have go : ∀ p ∈ CL ++ (ex :: K) ++ own, p.1 ≠ D → h'.get? p.1 = some p.2 ∧ p.1 ≠ L ∧ g.get? p.1 = none := fun p hp hne => by
    have q := N p (sub p (List.mem_append_left _ hp))
    exact ⟨hs.extBut _ _ hne q.1, q.2⟩
  intro p hp
  rcases List.mem_append.mp hp with hp | hp
  · rcases List.mem_append.mp hp with hp | hp
    · exact go p (List.mem_append_left _ (List.mem_append_left _ hp)) (hCL p hp)
    · rcases List.mem_cons.mp hp with rfl | hp
      · exact ⟨ho, (N (D, o) (sub _ (List.mem_append_right _ (.head _)))).2⟩
      · refine go p (List.mem_append_left _ (List.mem_append_right _ hp)) ?_
        rcases List.mem_cons.mp hp with rfl | hp
        · exact hex
        · exact hK p hp
  · exact go p (List.mem_append_right _ hp) (hown p hp)
theorem grow1 {g h : Heap} {L : Nat} {c1 c2 c3 c4 c5 c6 c7 c8 : Obj} {K : List (Addr × Obj)} {x : Addr × Obj} (N : News g L h (x :: (cl8 L c1 c2 c3 c4 c5 c6 c7 c8 ++ K))) (off : OffC L K) (l1 : ∀ p ∈ cl8 L c1 c2 c3 c4 c5 c6 c7 c8 ++ K, @LT.lt Nat _ p.1 x.1) : News g L h (cl8 L c1 c2 c3 c4 c5 c6 c7 c8 ++ (x :: K)) ∧ OffC L (x :: K) := by
  refine ⟨fun p hp => N p ?_, fun p hp k h1 h8 => ?_⟩
  · rcases List.mem_append.mp hp with hp | hp
    · exact .tail _ (List.mem_append_left _ hp)
    · rcases List.mem_cons.mp hp with rfl | hp
      · exact .head _
      · exact .tail _ (List.mem_append_right _ hp)
  · rcases List.mem_cons.mp hp with rfl | hp
    · have a := l1 (L + 1 + 1 + 1 + 1 + 1 + 1 + 1 + 1, c8) (by simp)
      dsimp only at a
      show @Ne Nat _ _
      omega
    · exact off p hp k h1 h8
set_option maxHeartbeats 8000000 in
theorem law_seg2 {w : World} {p : Program} {loose : List Str} {mean : ExcName → Option Value} {mg mb : Str → Option Value} {dp un : Nat} {gd : Option (List Code)} {outer : List Env} {A₀ : Around} {base g : Heap} {sc : Addr} {vs : List Value} {ns : List Int}
    (C : LC w p loose mean mg mb dp un outer A₀ base g sc vs ns) {L fa : Addr} {cdv : Value} {Q : Flow → Shared → Prop} {s : Shared} {h : Heap} {tk : Nat} {v1 v2 v4 v5 v6 v7 v8 : Option Value} {K : List (Addr × Obj)} {Df Dt : Addr} {four three : List Int}
    (S : LS g L h (fun y => if y = Str.ofString "three" then some (.ref Dt) else if y = Str.ofString "four" then some (.ref Df) else if y = Str.ofString "script" then some (.ref sc) else none) v1 v2 none v4 v5 v6 v7 v8 K)
    (d4 : DatIn K (.ref Df) (intsD four)) (d3 : DatIn K (.ref Dt) (intsD three)) (hl4 : four.length = 4) (hl3 : three.length = 3)
    (next : ∀ (h' : Heap) tk' K' m Dr, LS g L h' m v1 v2 (some (.ref Dr)) v4 v5 v6 v7 v8 (K' ++ K) → m (Str.ofString "script") = some (.ref sc) →
      DatIn (K' ++ K) (.ref Dr) (.list ([four, three, four ++ [6], swapL four 0, swapL four 1, swapL four 2].map intsD)) → Goes w dp un gd outer L fa cdv 6 Q { s with heap := h', toks := tk' }) :
    Goes w dp un gd outer L fa cdv 4 Q { s with heap := h, toks := tk } := by
  have kf : hd.heap_39 = hd.heap_39 ∧ Challenge.rw_pg0133_01 = Challenge.rw_pg0133_01 := by k_fill; exact ⟨rfl, rfl⟩
  obtain ⟨B, X, T, hdp, hun, hp, hI, hn⟩ := C
  obtain ⟨F, ⟨c1, c2, c3, c4, c5, c6, c7, c8, N, e1, e2, e3, e4, e5, e6, e7, e8⟩, hoff⟩ := S
  obtain ⟨u4, n4, m4, i4⟩ := ints_of_dat d4
  obtain ⟨u3, n3, m3, i3⟩ := ints_of_dat d3
  unfold Goes lawScope lawBody lawPack mkPack
  dsimp only [List.drop]
  simp only [cl8, List.cons_append, List.nil_append] at N
  refine wpAny_execs_cons ?_
  iterate 13 walk1
  refine newList_K F N ?_
  intro l6 h1 F1 N1 l1
  clear F
  obtain ⟨N2, off2⟩ := grow1 N1 hoff l1
  clear N N1 l1 hoff
  refine kmk_add_ints (s := { s with heap := h1, toks := _ }) F1 N2 (News.isList N2 (List.mem_append_right _ (.tail _ m4))) (News.isList N2 (List.mem_append_right _ (.head _))) i4 (.cons 6 _ .nil) ?_ (by rw [sizeLine_eq]; simp [hl4])
  intro Dx wx h2 F2 N3 l3 ix
  obtain ⟨N4, off4⟩ := grow1 N3 off2 l3
  clear N2 N3 l3 off2 F1
  refine spliced_none ?_
  refine newList_K F2 N4 ?_
  intro Dr h3 F3 N5 l5
  obtain ⟨N6, off6⟩ := grow1 N5 off4 l5
  have hDr : ∀ p ∈ (Dx, W.listOf wx.toArray 0) :: (l6, W.listOf #[Value.int 6 tk] 0) :: K, @Ne Nat p.1 Dr := fun p hp => Nat.ne_of_lt (l5 p (List.mem_append_right _ hp))
  clear N4 N5 l5 off4 F2
  refine st_cell (L := L) F3 N6 (by rfl) (by rfl) (by rfl) (o := c3) mem_c3 e3 _ (set_c3 off6) ?_
  clear F3 N6 e3 c3
  intro h4 c3 F N e3
  dsimp only
  refine wpAny_execs_cons ?_
  refine For_invV g (by rfl) (by rfl) ?_
  simp only [cl8, List.cons_append, List.nil_append] at N
  iterate 6 walk1
  refine range1_rows (by k_asm) (by k_asm) ?_
  intro h5 tk5 ta tb tc hR F5 N5 _
  refine iter_range0 (n := 3) (fun i m nx => m (Str.ofString "four") = some (.ref Df) ∧ m (Str.ofString "script") = some (.ref sc) ∧ ∃ its n K1, nx = cl8 L c1 c2 c3 c4 c5 c6 c7 c8 ++ ((Dr, W.listOf (List.toArray its) n) :: (K1 ++ K)) ∧ OffC L ((Dr, W.listOf (List.toArray its) n) :: (K1 ++ K)) ∧ (∀ p ∈ K1 ++ K, @Ne Nat p.1 Dr) ∧
      DatAll (K1 ++ K) its (([four, three, four ++ [6]] ++ (List.range i).map (swapL four)).map intsD) ∧ i ≤ 3)
    rfl (by simpa using hR) (by decide) F5 N5 ⟨rfl, rfl, [.ref Df, .ref Dt, .ref Dx], 0, [(Dx, W.listOf wx.toArray 0), (l6, W.listOf #[Value.int 6 tk] 0)], rfl, off6, hDr, ?_, by decide⟩ ?_ ?_
  · refine .cons (d4.mono fun _ hp => .tail _ (.tail _ hp)) (.cons (d3.mono fun _ hp => .tail _ (.tail _ hp)) (.cons (dat_ints (.head _) ix) .nil))
  · rintro i t1 m₁ nx h3 tk3 own hi hown ⟨hm4, hms, its, n, K1, rfl, hoff, hDr, hD, -⟩ F₁ N₁
    have F3 := fr_put F₁ hm4 (by decide)
    clear F₁ F5 N5 hR
    replace N₁ : News g L h3 (cl8 L c1 c2 c3 c4 c5 c6 c7 c8 ++ (Dr, W.listOf its.toArray n) :: (K1 ++ K ++ own)) := by rw [List.append_assoc] at N₁; exact N₁
    have M0 : ∀ p ∈ K, p ∈ cl8 L c1 c2 c3 c4 c5 c6 c7 c8 ++ (Dr, W.listOf its.toArray n) :: (K1 ++ K ++ own) := fun p hp => List.mem_append_right _ (.tail _ (List.mem_append_left _ (List.mem_append_right _ hp)))
    have mD : (Dr, W.listOf its.toArray n) ∈ cl8 L c1 c2 c3 c4 c5 c6 c7 c8 ++ (Dr, W.listOf its.toArray n) :: (K1 ++ K ++ own) := List.mem_append_right _ (.head _)
    have mC : (L + 1 + 1 + 1, c3) ∈ cl8 L c1 c2 c3 c4 c5 c6 c7 c8 ++ (Dr, W.listOf its.toArray n) :: (K1 ++ K ++ own) := mem_c3
    generalize hJ : cl8 L c1 c2 c3 c4 c5 c6 c7 c8 ++ (Dr, W.listOf its.toArray n) :: (K1 ++ K ++ own) = J at N₁ M0 mD mC
    replace N₁ := news_two N₁ mC mD
    replace M0 : ∀ p ∈ K, p ∈ (L + 1 + 1 + 1, c3) :: (Dr, W.listOf its.toArray n) :: J := fun p hp => .tail _ (.tail _ (M0 p hp))
    dsimp only
    refine cutP ?_
    intro R hR
    refine wpAny_execs_cons (wpAny_Expr ?_)
    iterate 4 walk1
    refine spliced_more ?_
    iterate 9 walk1
    refine kmk_slice_ints (s := { s with heap := h3, toks := _ }) F3 N₁ (N₁.isList (M0 _ m4)) IsPart.none (IsPart.int _ _) i4 (kmk_upto i4 (Int.natCast_nonneg _)) rfl ?_ (by with_unfolding_all rfl) (by kmk_pure) (by kmk_size)
    intro A1 w1 h4 F4 N4 l4 j1 _ _
    iterate 8 walk1
    refine il_itemZ (k := i + 1) (by omega) (N4.isList (.tail _ (M0 _ m4))) i4 (getD_some (by omega)) (by omega) (by with_unfolding_all rfl) ?_
    intro t2
    iterate 4 walk1
    refine il_item (N4.isList (.tail _ (M0 _ m4))) i4 (getD_some (k := i) (by omega)) (by omega) (by with_unfolding_all rfl) ?_
    intro t3
    iterate 1 walk1
    refine newList_K F4 N4 ?_
    intro A2 h5 F5 N5 l5
    refine kmk_add_ints (s := { s with heap := h5, toks := _ }) F5 N5 (N5.isList (.tail _ (.head _))) (N5.isList (.head _)) j1 (.cons _ _ (.cons _ _ .nil)) ?_ (by rw [sizeLine_eq]; simp; omega)
    intro A3 w3 h6 F6 N6 l6' j3
    iterate 10 walk1
    refine kmk_slice_ints (s := { s with heap := h6, toks := _ }) F6 N6 (N6.isList (.tail _ (.tail _ (.tail _ (M0 _ m4))))) (IsPart.int _ _) IsPart.none i4 (kmk_from i4 (by omega)) rfl ?_ (by with_unfolding_all rfl) (by kmk_pure) (by kmk_size)
    intro A4 w4 h7 F7 N7 l7 j4 _ _
    refine kmk_add_ints (s := { s with heap := h7, toks := _ }) F7 N7 (N7.isList (.tail _ (.head _))) (N7.isList (.head _)) j3 j4 ?_ (by rw [sizeLine_eq]; simp; omega)
    intro A5 w5 h8 F8 N8 l8 j5
    refine spliced_none ?_
    have lenI : its.length ≤ 20 := by rw [hD.length]; simp; omega
    refine append_at (N8 _ (.tail _ (.tail _ (.tail _ (.tail _ (.tail _ (.tail _ (.head _)))))))).1 ?_ (by rw [sizeLine_eq]; simp; omega)
    intro h9 hs9 ho9
    replace hs9 : Heap.SameBut Dr h8 h9 := hs9
    have q := N8 _ (.tail _ (.tail _ (.tail _ (.tail _ (.tail _ (.tail _ (.head _)))))))
    have F9 := F8.change hs9 q.2.1 q.2.2
    subst hJ
    have hCL : ∀ p ∈ cl8 L c1 c2 c3 c4 c5 c6 c7 c8, p.1 ≠ Dr := fun p hp e => by
      obtain ⟨k, k1, k8, ek⟩ := cl8_at hp
      exact hoff (Dr, W.listOf its.toArray n) (.head _) k k1 k8 (e.symm.trans ek)
    have lt5 : ∀ p ∈ cl8 L c1 c2 c3 c4 c5 c6 c7 c8 ++ (Dr, W.listOf its.toArray n) :: (K1 ++ K ++ own), @LT.lt Nat _ p.1 A5 := fun p hp => l8 p (.tail _ (.tail _ (.tail _ (.tail _ (.tail _ (.tail _ hp))))))
    have hex : A5 ≠ Dr := Nat.ne_of_gt (lt5 _ (List.mem_append_right _ (.head _)))
    have N9 : News g L h9 (cl8 L c1 c2 c3 c4 c5 c6 c7 c8 ++ ((Dr, W.listOf (its ++ [Value.ref A5]).toArray (n + 1)) :: ((A5, W.listOf w5.toArray 0) :: (K1 ++ K))) ++ own) := by
      refine append_after (M := (A5, W.listOf w5.toArray 0) :: (A4, W.listOf w4.toArray 0) :: (A3, W.listOf w3.toArray 0) :: (A2, W.listOf [Value.int (four.getD (i + 1) 0) t2, Value.int (four.getD i 0) t3].toArray 0) :: (A1, W.listOf w1.toArray 0) :: (L + 1 + 1 + 1, c3) :: (Dr, W.listOf its.toArray n) :: (cl8 L c1 c2 c3 c4 c5 c6 c7 c8 ++ (Dr, W.listOf its.toArray n) :: (K1 ++ K ++ own))) (o := W.listOf its.toArray n) ?_ N8 hs9 (by simpa [W.listOf] using ho9) hCL hex hDr (fun p hp => hown p hp Dr (by simp))
      intro p hp
      rcases List.mem_append.mp hp with hp | hp
      · rcases List.mem_append.mp hp with hp | hp
        · rcases List.mem_append.mp hp with hp | hp
          · exact .tail _ (.tail _ (.tail _ (.tail _ (.tail _ (.tail _ (.tail _ (List.mem_append_left _ hp)))))))
          · rcases List.mem_cons.mp hp with rfl | hp
            · exact .head _
            · exact .tail _ (.tail _ (.tail _ (.tail _ (.tail _ (.tail _ (.tail _ (List.mem_append_right _ (.tail _ (List.mem_append_left _ hp)))))))))
        · exact .tail _ (.tail _ (.tail _ (.tail _ (.tail _ (.tail _ (.tail _ (List.mem_append_right _ (.tail _ (List.mem_append_right _ hp)))))))))
      · rw [List.mem_singleton.mp hp]
        exact .tail _ (.tail _ (.tail _ (.tail _ (.tail _ (.tail _ (.tail _ (List.mem_append_right _ (.head _))))))))
    have e5 : IntsAre w5 (swapL four i) := by
      have e1 : ((i : Int) + 2).toNat = i + 2 := by omega
      have := j5
      rw [e1] at this
      simpa [swapL] using this
    refine wpAny_execs_nil ?_
    refine hR _ _ (inv_endC (nx := cl8 L c1 c2 c3 c4 c5 c6 c7 c8 ++ ((Dr, W.listOf (its ++ [Value.ref A5]).toArray (n + 1)) :: ((A5, W.listOf w5.toArray 0) :: (K1 ++ K)))) F9 N9 (fun p hp => hp) ?_ ⟨rfl, hms, its ++ [Value.ref A5], n + 1, (A5, W.listOf w5.toArray 0) :: K1, rfl, ?_, ?_, ?_, hi⟩)
    · intro p hp b hb
      rw [List.map_append, List.map_cons, List.map_cons] at hb
      rcases List.mem_append.mp hb with hb | hb
      · exact hown p hp b (by rw [List.map_append]; exact List.mem_append_left _ hb)
      · rcases List.mem_cons.mp hb with rfl | hb
        · exact hown p hp _ (by simp)
        · rcases List.mem_cons.mp hb with rfl | hb
          · exact Nat.ne_of_lt (lt5 p (List.mem_append_right _ (.tail _ (List.mem_append_right _ hp))))
          · exact hown p hp b (by rw [List.map_append, List.map_cons]; exact List.mem_append_right _ (.tail _ hb))
    · intro p hp k hk1 hk8
      rcases List.mem_cons.mp hp with rfl | hp
      · exact hoff (Dr, W.listOf its.toArray n) (.head _) k hk1 hk8
      · rcases List.mem_cons.mp hp with rfl | hp
        · have := lt5 (L + 1 + 1 + 1 + 1 + 1 + 1 + 1 + 1, c8) (List.mem_append_left _ (by simp))
          dsimp only at this
          show @Ne Nat _ _
          omega
        · exact hoff p (.tail _ hp) k hk1 hk8
    · intro p hp
      rcases List.mem_cons.mp hp with rfl | hp
      · exact hex
      · exact hDr p hp
    · have hA := (hD.mono (news' := (A5, W.listOf w5.toArray 0) :: (K1 ++ K)) fun _ hp => .tail _ hp).append (.one (dat_ints (.head _) e5))
      simpa [List.range_succ] using hA
  · rintro m₁ nx h3 tk3 ⟨hm4, hms, its, n, K1, rfl, hoff, hDr, hD, -⟩ F₁ N₁
    refine next h3 tk3 ((Dr, W.listOf its.toArray n) :: K1) m₁ Dr ⟨F₁, ⟨c1, c2, c3, c4, c5, c6, c7, c8, N₁, e1, e2, e3, e4, e5, e6, e7, e8⟩, hoff⟩ hms ?_
    exact DatIn.list (.head _) (hD.mono fun _ hp => .tail _ hp)
end TLt
theorem resetLu : True := by
  w_top off
  first | (walk1; done) | trivial
section TLu
theorem strs_dall {K : List (Addr × Obj)} : ∀ {us : List Value} {l : List Str}, DatAll K us (l.map .str) → StrsAre us l
  | _, [], h => by cases h; exact .nil
  | _, x :: r, h => by
    cases h with
    | cons h1 h2 => cases h1; exact .cons _ _ (strs_dall h2)
theorem dall_strs {K : List (Addr × Obj)} {us : List Value} {l : List Str} (h : StrsAre us l) : DatAll K us (l.map .str) := by
  induction h with
  | nil => exact .nil
  | cons n t _ ih => exact .cons (.str n t) ih
noncomputable def strsD (l : List (List Nat)) : Dat := .list (l.map fun t => .str (S t))
theorem strs_of_dat {K : List (Addr × Obj)} {a : Addr} {l : List (List Nat)} (h : DatIn K (.ref a) (strsD l)) : ∃ us n, (a, W.listOf us.toArray n) ∈ K ∧ StrsAre us (l.map S) := by
  unfold strsD at h
  cases h with
  | list hm hd => exact ⟨_, _, hm, strs_dall (by rw [List.map_map]; exact hd)⟩
theorem dat_strs {K : List (Addr × Obj)} {a : Addr} {us : List Value} {l : List (List Nat)} {n : Nat} (hm : (a, W.listOf us.toArray n) ∈ K) (h : StrsAre us (l.map S)) : DatIn K (.ref a) (strsD l) := by
  have := dall_strs (K := K) h
  rw [List.map_map] at this
  exact DatIn.list hm this
noncomputable def sgnL : List Nat := [38, 60, 62, 34, 13, 10, 9, 32, 46, 58, 97, 98, 35, 59]
noncomputable def sgn (n : Int) : Nat := sgnL.getD (n.fmod 14).toNat 0
noncomputable def drawnL (ns : List Int) : List Nat := (ns.take 8).map sgn ++ [13, 32]
theorem strs_get {us : List Value} {l : List Int} (h : IntsAre us l) : ∀ (i : Nat) v, us[i]? = some v → ∃ n t, l[i]? = some n ∧ v = .int n t := by
  induction h with
  | nil => intro i v h; simp at h
  | cons n t _ ih =>
    intro i v h
    cases i with
    | zero => simp at h; exact ⟨n, t, rfl, h.symm⟩
    | succ i => exact ih i v (by simpa using h)
theorem strs3 {a b c : Str} {t u v : Tok} (ha : a = S t1L) (hb : b = S t2L) (hc : c = S t3L) : StrsAre [.str a t, .str b u, .str c v] ([t1L, t2L, t3L].map S) := by
  subst ha hb hc
  exact .cons _ _ (.cons _ _ (.cons _ _ .nil))
theorem range_getD {α β : Type} (l : List α) (d : α) (f : α → β) : (List.range l.length).map (fun i => f (l.getD i d)) = l.map f := by
  apply List.ext_getElem?
  intro i
  rw [List.getElem?_map, List.getElem?_map]
  by_cases h : i < l.length
  · rw [List.getElem?_range h, List.getElem?_eq_getElem h]
    simp [h]
  · rw [List.getElem?_eq_none (by simp; omega), List.getElem?_eq_none (by omega)]; rfl
theorem sum_ones : ∀ l : List Nat, (l.map fun _ => 1).sum = l.length
  | [] => rfl
  | _ :: r => by rw [List.map_cons, List.sum_cons, sum_ones r, List.length_cons]; omega
theorem flat_one : ∀ l : List Nat, l.flatMap (fun c => [c]) = l
  | [] => rfl
  | c :: r => by rw [List.flatMap_cons, flat_one r]; rfl
theorem sgn_at {w : World} {A : Around} {E : Value → Shared → Prop} {s : Shared} {n : Int} {x : Str} {t v : Tok} {Q : Value → Shared → Prop} {value slice : Expr} (hx : x = S sgnL)
    (hs : subscripted slice false (.str x t) (.int (n.fmod 14) v) = operate [.str x t, .int (n.fmod 14) v] (getItem (.str x t) (.int (n.fmod 14) v)))
    (hQ : Q (.str (S [sgn n]) s.toks) { s with toks := s.toks + 1 }) : wpAny (model Challenge.rw_pg0133_01.row.prog w) A (subscriptTail value slice (.str x t) (.int (n.fmod 14) v)) Q E s := by
  subst hx
  have h1 := Int.fmod_lt_of_pos n (b := 14) (by decide)
  have h2 := Int.fmod_nonneg_of_pos n (b := 14) (by decide)
  have hk : sgnL[(n.fmod 14).toNat]? = some (sgn n) := by
    have hlt : (n.fmod 14).toNat < sgnL.length := by show _ < 14; omega
    unfold sgn
    rw [List.getElem?_eq_getElem hlt, List.getD_eq_getElem?_getD, List.getElem?_eq_getElem hlt]; rfl
  have e : n.fmod 14 = ((n.fmod 14).toNat : Nat) := by omega
  rw [e] at hs ⊢
  exact str_at hk (by decide) hs hQ
theorem fr_unput {h₀ h : Heap} {L : Addr} {m : Str → Option Value} {k : Str} {v : Value} (hk : m k = some v) (F : Fr h₀ L h (fun y => if y = k then some v else m y)) : Fr h₀ L h m := by
  have e : (fun y => if y = k then some v else m y) = m := by
    funext y
    by_cases h2 : y = k
    · subst h2; simp [hk]
    · simp [h2]
  rw [e] at F; exact F
set_option maxHeartbeats 8000000 in
theorem law_seg3 {w : World} {p : Program} {loose : List Str} {mean : ExcName → Option Value} {mg mb : Str → Option Value} {dp un : Nat} {gd : Option (List Code)} {outer : List Env} {A₀ : Around} {base g : Heap} {sc : Addr} {vs : List Value} {ns : List Int}
    (C : LC w p loose mean mg mb dp un outer A₀ base g sc vs ns) {L fa : Addr} {cdv : Value} {Q : Flow → Shared → Prop} {s : Shared} {h : Heap} {tk : Nat} {v1 v2 v3 v6 v7 v8 : Option Value} {K : List (Addr × Obj)} {m : Str → Option Value}
    (S₀ : LS g L h m v1 v2 v3 none none v6 v7 v8 K) (hms : m (Str.ofString "script") = some (.ref sc))
    (next : ∀ (h' : Heap) tk' K' De t, LS g L h' m v1 v2 v3 (some (.ref De)) (some (.str (S (drawnL ns)) t)) v6 v7 v8 (K' ++ K) →
      DatIn (K' ++ K) (.ref De) (strsD [t1L, t2L, t3L]) → Goes w dp un gd outer L fa cdv 8 Q { s with heap := h', toks := tk' }) :
    Goes w dp un gd outer L fa cdv 6 Q { s with heap := h, toks := tk } := by
  have kf : hd.heap_39 = hd.heap_39 ∧ Challenge.rw_pg0133_01 = Challenge.rw_pg0133_01 := by k_fill; exact ⟨rfl, rfl⟩
  obtain ⟨B, X, T, hdp, hun, hp, hI, hn⟩ := C
  obtain ⟨F, ⟨c1, c2, c3, c4, c5, c6, c7, c8, N, e1, e2, e3, e4, e5, e6, e7, e8⟩, hoff⟩ := S₀
  unfold Goes lawScope lawBody lawPack mkPack
  dsimp only [List.drop]
  refine wpAny_execs_cons ?_
  iterate 9 walk1
  refine newList_K F N ?_
  intro De h1 F1 N1 l1
  obtain ⟨N2, off2⟩ := grow1 N1 hoff l1
  have dE : DatIn ((De, W.listOf [Value.str (Str.ofString "b&b<b>b\"b\rb\tb\nb") tk, Value.str (Str.ofString "x.b\r\t") (tk + 1), Value.str (Str.ofString "x.b\r\t:z") (tk + 1 + 1)].toArray 0) :: K) (.ref De) (strsD [t1L, t2L, t3L]) := dat_strs (.head _) (strs3 (by decide +kernel) (by decide +kernel) (by decide +kernel))
  clear N N1 l1 hoff F
  obtain ⟨x1, Nx, offx, dEx⟩ : ∃ x1, News g L h1 (cl8 L c1 c2 c3 c4 c5 c6 c7 c8 ++ (x1 :: K)) ∧ OffC L (x1 :: K) ∧ DatIn (x1 :: K) (.ref De) (strsD [t1L, t2L, t3L]) := ⟨_, N2, off2, dE⟩
  clear N2 off2 dE
  refine st_cell (L := L) F1 Nx (by rfl) (by rfl) (by rfl) (o := c4) mem_c4 e4 _ (set_c4 offx) ?_
  clear F1 Nx e4 c4
  intro h2 c4 F N e4
  dsimp only
  refine wpAny_execs_cons ?_
  have F2 := fr_put' F hms
  simp only [cl8, List.cons_append, List.nil_append] at N
  iterate 6 walk1
  refine spliced_more ?_
  refine cd_expr (by rfl) (by rfl) (by decide) (way_l (by decide) rfl (by decide)) ?_
  iterate 7 walk1
  refine kmk_slice_ints (s := { s with heap := h2, toks := _ }) F2 N (isList_keeps (Fr.keep F2) hp) IsPart.none (IsPart.int _ _) hI (kmk_upto hI (by decide)) rfl ?_ (by with_unfolding_all rfl) (by kmk_pure) (by kmk_size)
  intro A1 w1 h3 F3 N3 l3 j1 _ _
  replace j1 : IntsAre w1 (ns.take 8) := j1
  have w8 : w1.length ≤ 8 := by rw [j1.length]; simp; omega
  refine ⟨w1.length, _, fun i => .str (S [sgn ((ns.take 8).getD i 0)]), src_list rfl (News.isList N3 (.head _)), by omega, ?_, ?_⟩
  · rintro C i v h₃ tk₃ hC hlt hi hv ⟨m₃, hNs, hm⟩ hst3
    obtain ⟨n, t, hn, rfl⟩ := strs_get j1 i v hv
    have hm' := hm _ rfl
    have en : (ns.take 8).getD i 0 = n := by rw [List.getD_eq_getElem?_getD, hn]; rfl
    have F4 := stays_fr hst3 F3
    have N4 := stays_news hst3 N3
    clear hst3 hm F2 N F3 N3 F
    dsimp only
    iterate 6 walk1
    refine sgn_at (by decide +kernel) (by with_unfolding_all rfl) ?_
    rw [← en]
    exact ⟨_, _, rfl, fun _ _ e => e, [], (fun _ hp => nomatch hp), .str _ _⟩
  · intro D h' tk' hst hD
    replace hst : h3.StaysIn h' := hst
    have F4 := fr_unput hms (stays_fr hst F3)
    have N4 : News g L h' (cl8 L c1 c2 c3 c4 c5 c6 c7 c8 ++ (x1 :: K)) := stays_news hst (news_sub N3 fun _ hp => .tail _ hp)
    have hD' : DOut h' h3.objs.size (.ref D) (strsD (((ns.take 8).map sgn).map fun c => [c])) := by
      have e1 : w1.length = (ns.take 8).length := j1.length
      have e2 : ((List.range w1.length).map fun i => Dat.str (S [sgn ((ns.take 8).getD i 0)])) = (((ns.take 8).map sgn).map fun c => [c]).map fun t => .str (S t) := by
        rw [e1, range_getD (ns.take 8) 0 fun n => Dat.str (S [sgn n]), List.map_map, List.map_map]; rfl
      rw [strsD, ← e2]; exact hD
    clear hD N3 F3 F2 N F hst
    obtain ⟨tl, htl, dtl⟩ := hD'
    obtain ⟨us, n, hm, hus⟩ := strs_of_dat dtl
    refine spliced_none ?_
    refine join_listW (s := { s with heap := h', toks := tk' }) ⟨_, (htl _ hm).1, rfl, n, rfl⟩ hus (by decide +kernel) ?_ ?_
    · have e3 : ((((ns.take 8).map sgn).map fun c => [c]).map S).map (·.length) = ((ns.take 8).map sgn).map fun _ => 1 := by
        rw [List.map_map, List.map_map]; rfl
      rw [e3, sum_ones]
      simp
      omega
    intro t5 k5
    rw [List.map_map, show (S ∘ fun c => [c]) = fun c => S [c] from rfl, glue_flat]
    refine wpAny_Constant_str ?_
    refine add_str ?_ (by rw [S_len, flat_one, show (Str.ofString "\r ").length = 2 from by decide +kernel, sizeLine_eq]; simp; omega)
    intro t6 k6
    have eD : S (((ns.take 8).map sgn).flatMap fun c => [c]) ++ Str.ofString "\r " = S (drawnL ns) := by
      rw [flat_one]
      exact S_add ((ns.take 8).map sgn) [13, 32]
    rw [eD]
    refine st_cell (L := L) F4 N4 (by rfl) (by rfl) (by rfl) (o := c5) mem_c5 e5 _ (set_c5 offx) ?_
    intro h6 c5 F6 N6 e5
    exact next h6 _ [x1] De _ ⟨F6, ⟨c1, c2, c3, c4, c5, c6, c7, c8, N6, e1, e2, e3, e4, e5, e6, e7, e8⟩, offx⟩ dEx
end TLu
theorem resetLv : True := by
  w_top off
  first | (walk1; done) | trivial
section TLv
theorem dall_get {K : List (Addr × Obj)} : ∀ {us : List Value} {ds : List Dat}, DatAll K us ds → ∀ (i : Nat) v, us[i]? = some v → ∃ d, ds[i]? = some d ∧ DatIn K v d
  | _, _, .nil, i, v, h => by simp at h
  | _, _, .cons h1 h2, i, v, h => by
    cases i with
    | zero => simp at h; subst h; exact ⟨_, rfl, h1⟩
    | succ i => simpa using dall_get h2 i v (by simpa using h)
theorem strs_app {us vs : List Value} {l l' : List Str} (h : StrsAre us l) (h' : StrsAre vs l') : StrsAre (us ++ vs) (l ++ l') := by
  induction h with
  | nil => exact h'
  | cons n t _ ih => exact .cons n t ih
theorem strs_len {us : List Value} {l : List Str} (h : StrsAre us l) : us.length = l.length := by
  induction h with
  | nil => rfl
  | cons n t _ ih => simp [ih]
theorem strs_at {us : List Value} {l : List (List Nat)} : ∀ {l : List (List Nat)} {us : List Value}, StrsAre us (l.map S) → ∀ (j : Nat) v, us[j]? = some v → ∃ t, v = .str (S (l.getD j [])) t
  | [], _, .nil, j, v, h => by simp at h
  | a :: r, _, .cons _ t h1, j, v, h => by
    cases j with
    | zero => simp at h; exact ⟨t, by simp [h]⟩
    | succ j => simpa using strs_at (us := []) (l := []) h1 j v (by simpa using h)
theorem rows_get {K : List (Addr × Obj)} {us : List Value} {rows : List (List Int)} (h : DatAll K us (rows.map intsD)) (i : Nat) (v : Value) (hv : us[i]? = some v) : ∃ row r ur n, rows[i]? = some row ∧ v = .ref r ∧ (r, W.listOf (List.toArray ur) n) ∈ K ∧ IntsAre ur row := by
  obtain ⟨d, hd, dv⟩ := dall_get h i v hv
  rw [List.getElem?_map] at hd
  cases hr : rows[i]? with
  | none => rw [hr] at hd; cases hd
  | some row =>
    rw [hr] at hd
    cases hd
    unfold intsD at dv
    cases dv with
    | list hm hdd => exact ⟨row, _, _, _, rfl, rfl, hm, ints_dall hdd⟩
/-- what the rows leave of the texts -/
noncomputable def leftD (rows : List (List Int)) (texts : List (List Nat)) (f : List Int → List Nat → List Nat) : Dat := .list (rows.map fun r => strsD (texts.map (f r)))
set_option maxHeartbeats 8000000 in
theorem law_seg4 {w : World} {p : Program} {loose : List Str} {mean : ExcName → Option Value} {mg mb : Str → Option Value} {dp un : Nat} {gd : Option (List Code)} {outer : List Env} {A₀ : Around} {base g : Heap} {sc : Addr} {vs : List Value} {ns : List Int}
    (C : LC w p loose mean mg mb dp un outer A₀ base g sc vs ns) {L fa : Addr} {cdv : Value} {Q : Flow → Shared → Prop} {s : Shared} {h : Heap} {tk : Nat} {v1 v2 v6 v7 v8 : Option Value} {K : List (Addr × Obj)} {m : Str → Option Value} {Dr De : Addr} {rows : List (List Int)} {texts : List (List Nat)} {dl : List Nat} {td : Tok}
    (S₀ : LS g L h m v1 v2 (some (.ref Dr)) (some (.ref De)) (some (.str (S dl) td)) v6 v7 v8 K)
    (dR : DatIn K (.ref Dr) (.list (rows.map intsD))) (dE : DatIn K (.ref De) (strsD texts)) (hr5 : ∀ r ∈ rows, r.length ≤ 5) (hrl : rows.length ≤ 6) (ht : texts.length = 3) (ht16 : ∀ t ∈ texts ++ [dl], t.length ≤ 16)
    (next : ∀ (h' : Heap) tk' K' Dl, LS g L h' (fun y => if y = Str.ofString "left" then some (.ref Dl) else m y) v1 v2 (some (.ref Dr)) (some (.ref De)) (some (.str (S dl) td)) v6 v7 v8 (K' ++ K) →
      DatIn (K' ++ K) (.ref Dl) (leftD rows (texts ++ [dl]) runL) → Goes w dp un gd outer L fa cdv 9 Q { s with heap := h', toks := tk' }) :
    Goes w dp un gd outer L fa cdv 8 Q { s with heap := h, toks := tk } := by
  have kf : hd.heap_39 = hd.heap_39 ∧ Challenge.rw_pg0133_01 = Challenge.rw_pg0133_01 := by k_fill; exact ⟨rfl, rfl⟩
  obtain ⟨B, X, T, hdp, hun, hp, hI, hn⟩ := C
  obtain ⟨F, ⟨c1, c2, c3, c4, c5, c6, c7, c8, N, e1, e2, e3, e4, e5, e6, e7, e8⟩, hoff⟩ := S₀
  unfold Goes lawScope lawBody lawPack mkPack
  dsimp only [List.drop]
  simp only [cl8, List.cons_append, List.nil_append] at N
  obtain ⟨uR, nR, mR, iR⟩ := list_of_dat dR
  obtain ⟨uE, nE, mE, iE⟩ := strs_of_dat dE
  have M0 : ∀ p ∈ K, p ∈ cl8 L c1 c2 c3 c4 c5 c6 c7 c8 ++ K := fun p hp => List.mem_append_right _ hp
  refine ec ?_
  intro R hR
  refine cd_assign (g := g) (by rfl) (by rfl) (by rfl) (by decide) (way_c (fun _ => by rfl) (fun _ => by rfl) rfl (fun _ => by rfl)) (by rfl) rfl ?_
  iterate 1 walk1
  refine ⟨uR.length, _, fun i => strsD ((texts ++ [dl]).map (runL (rows.getD i []))), _, _, src_list rfl (News.isList N (M0 _ mR)), by have := iR.length; simp at this; omega, F, N, ?_, ?_⟩
  · rintro C i v h₃ tk₃ hC hlt hi hv ⟨⟨m₃, hNs⟩, hc⟩ hst3
    obtain ⟨row, r, ur, nr, hrow, rfl, mr, ir⟩ := rows_get iR i v hv
    have hr5 := hr5 row (List.mem_of_getElem? hrow)
    have eRow : rows.getD i [] = row := by rw [List.getD_eq_getElem?_getD, hrow]; rfl
    have F3 := stays_fr hst3 F
    have N3 := stays_news hst3 N
    dsimp only
    refine cd_expr (by rfl) (by rfl) (by decide) (way_l (by decide) rfl (by decide)) ?_
    iterate 6 walk1
    refine newList_NK F3 N3 ?_ (by rw [sizeLine_eq]; simp)
    intro h4 F4 N4 st4
    refine PySem.P.add_list (s := { s with heap := h4, toks := _ }) (N4 _ (.tail _ (M0 _ mE))).1 (N4 _ (.head _)).1 ?_ (by have := iE.length; rw [sizeLine_eq]; simp at this ⊢; omega)
    dsimp only
    have iA : StrsAre (uE ++ [.str (S dl) td]) ((texts ++ [dl]).map S) := by
      rw [List.map_append]
      exact strs_app iE (.cons _ _ .nil)
    have eA : uE.toArray ++ [Value.str (S dl) td].toArray = (uE ++ [Value.str (S dl) td]).toArray := by simp
    rw [eA]
    generalize uE ++ [Value.str (S dl) td] = uA at iA
    generalize hh5 : h4.push { cls := Value.type "list", data := Data.seq uA.toArray } = h5
    have hl5 : h5.IsList h4.objs.size uA.toArray := by rw [← hh5]; exact ⟨_, Heap.get?_push_size _ rfl, rfl, 0, rfl⟩
    have st5 : h₃.StaysIn h5 := fun b o e => by rw [← hh5]; exact Heap.get?_push_of_some _ (st4 b o e)
    have lenA : uA.length = (texts ++ [dl]).length := by rw [strs_len iA, List.length_map]
    refine ⟨uA.length, _, fun j => .str (S (runL (rows.getD i []) ((texts ++ [dl]).getD j []))), src_list rfl hl5, by rw [lenA]; simp; omega, ?_, ?_⟩
    · rintro C2 j v2 h₆ tk₆ hC2 hlt2 hj hv2 ⟨m₆, hNs6, hm6⟩ hst6
      obtain ⟨t2, rfl⟩ := strs_at (us := []) (l := []) iA j v2 hv2
      have F6 := stays_fr hst6 (stays_fr st5 F3)
      have N6 := stays_news hst6 (stays_news st5 N3)
      have hc6 : h₆.IsCell (C + 1) (some (.ref r)) := hc.keeps fun b o e => hst6 b o (st5 b o e)
      have hm' := hm6 _ rfl
      dsimp only
      clear F3 N3 F4 N4 F N
      rw [eRow]
      iterate 4 walk1
      refine spliced_more (wpAny_Name (wpAny_loadName_cell (by rfl) (by rfl) (by rfl) hc6 ?_) (by decide))
      refine spliced_more ?_
      iterate 1 walk1
      refine spliced_none ⟨X.keeps F6.keep, ?_⟩
      refine' tl_use (law_run w r ur row ir _ t2 hr5 ?kl) ?k1 ?k2 ?k3 ?k5 ?kf ?kk ?kd ?ku ?kp ?_
      walk_at "mine room"
      case kl =>
        refine ht16 _ ?_
        have hj' : j < (texts ++ [dl]).length := by rw [← lenA]; exact hj
        rw [List.getD_eq_getElem?_getD, List.getElem?_eq_getElem hj']
        exact List.getElem_mem hj'
      case kp => exact N6.isList (M0 _ mr)
      rintro _ h7 tk7 G7 ⟨t9, rfl⟩
      exact ⟨h7, tk7, rfl, G7.st, [], (fun _ hp => nomatch hp), .str _ _⟩
    · intro D h' tk' hst' hD
      refine ⟨h', _, rfl, fun b o e => hst' b o (st5 b o e), ?_⟩
      have e7 : ((List.range uA.length).map fun j => Dat.str (S (runL (rows.getD i []) ((texts ++ [dl]).getD j [])))) = ((texts ++ [dl]).map (runL (rows.getD i []))).map fun t => .str (S t) := by
        rw [lenA, range_getD (texts ++ [dl]) [] fun t => Dat.str (S (runL (rows.getD i []) t)), List.map_map]; rfl
      rw [strsD, ← e7]
      refine hD.keep ?_ fun _ _ _ e => e
      show C + 1 + 1 ≤ h5.objs.size
      obtain ⟨oc, hoc, _⟩ := hc
      have := Heap.lt_size (st5 _ _ hoc)
      exact this
  · rintro Dl h6 tk6 F6 N6 ⟨tl, htl, dl'⟩
    obtain ⟨N7, off7⟩ := more N N6 F hoff htl
    refine hR _ (next h6 tk6 tl Dl ⟨F6, ⟨c1, c2, c3, c4, c5, c6, c7, c8, N7, e1, e2, e3, e4, e5, e6, e7, e8⟩, off7⟩ ?_)
    have eL : ((List.range uR.length).map fun i => strsD ((texts ++ [dl]).map (runL (rows.getD i [])))) = rows.map fun r => strsD ((texts ++ [dl]).map (runL r)) := by
      rw [show uR.length = rows.length by simpa using iR.length, range_getD rows [] fun r => strsD ((texts ++ [dl]).map (runL r))]
    unfold leftD
    rw [← eL]
    exact dl'.mono fun _ hp => List.mem_append_left _ hp
end TLv
theorem resetLw : True := by
  w_top off
  first | (walk1; done) | trivial
section TLw
section
variable {g h h' : Heap} {L : Nat} {m : Str → Option Value} {v1 v2 v3 v4 v5 v6 v7 v8 : Option Value} {K : List (Addr × Obj)}
theorem cl8_le {L : Nat} {c1 c2 c3 c4 c5 c6 c7 c8 : Obj} {p : Addr × Obj} (hp : p ∈ cl8 L c1 c2 c3 c4 c5 c6 c7 c8) : @LE.le Nat _ p.1 (L + 8) := by
  simp only [cl8, List.mem_cons, List.not_mem_nil, or_false] at hp
  rcases hp with rfl | rfl | rfl | rfl | rfl | rfl | rfl | rfl <;> (show @LE.le Nat _ _ _; repeat (first | exact Nat.le_refl _ | refine Nat.le_succ_of_le ?_))
/-- all that the law knows stands on below an address -/
theorem LS.lt (S : LS g L h m v1 v2 v3 v4 v5 v6 v7 v8 K) : @LT.lt Nat _ L h.objs.size ∧ (∀ p ∈ K, @LT.lt Nat _ p.1 h.objs.size) ∧ @LT.lt Nat _ (L + 8) h.objs.size := by
  obtain ⟨F, ⟨c1, c2, c3, c4, c5, c6, c7, c8, N, -, -, -, -, -, -, -, -⟩, -⟩ := S
  refine ⟨?_, fun p hp => Heap.lt_size (N p (List.mem_append_right _ hp)).1, ?_⟩
  · obtain ⟨o, _, _, ho, _⟩ := F.ns; exact Heap.lt_size ho
  · exact Heap.lt_size (N (L + 1 + 1 + 1 + 1 + 1 + 1 + 1 + 1, c8) (List.mem_append_left _ (by simp))).1
theorem LS.keep {I : Nat} (S : LS g L h m v1 v2 v3 v4 v5 v6 v7 v8 K) (hL : L ≠ I) (hK : ∀ p ∈ K, @Ne Nat p.1 I) (h8 : L + 8 < I) (hg : g.get? I = none) (hk : ∀ (b : Nat) o, b ≠ I → h.get? b = some o → h'.get? b = some o) : LS g L h' m v1 v2 v3 v4 v5 v6 v7 v8 K := by
  obtain ⟨F, ⟨c1, c2, c3, c4, c5, c6, c7, c8, N, e1, e2, e3, e4, e5, e6, e7, e8⟩, off⟩ := S
  refine ⟨⟨F.ns.at' fun o e => hk _ o hL e, fun b o e => hk b o (fun q => by rw [q, hg] at e; cases e) (F.keep b o e), F.above⟩, ⟨c1, c2, c3, c4, c5, c6, c7, c8, fun p hp => ⟨hk _ _ ?_ (N p hp).1, (N p hp).2⟩, e1, e2, e3, e4, e5, e6, e7, e8⟩, off⟩
  rcases List.mem_append.mp hp with hp | hp
  · exact Nat.ne_of_lt (Nat.lt_of_le_of_lt (cl8_le hp) h8)
  · exact hK p hp
theorem LS.stays (S : LS g L h m v1 v2 v3 v4 v5 v6 v7 v8 K) (hs : h.StaysIn h') : LS g L h' m v1 v2 v3 v4 v5 v6 v7 v8 K := by
  obtain ⟨F, ⟨c1, c2, c3, c4, c5, c6, c7, c8, N, e1, e2, e3, e4, e5, e6, e7, e8⟩, off⟩ := S
  exact ⟨stays_fr hs F, ⟨c1, c2, c3, c4, c5, c6, c7, c8, stays_news hs N, e1, e2, e3, e4, e5, e6, e7, e8⟩, off⟩
theorem LS.sub {K' : List (Addr × Obj)} (S : LS g L h m v1 v2 v3 v4 v5 v6 v7 v8 K) (hs : ∀ p ∈ K', p ∈ K) : LS g L h m v1 v2 v3 v4 v5 v6 v7 v8 K' := by
  obtain ⟨F, ⟨c1, c2, c3, c4, c5, c6, c7, c8, N, e1, e2, e3, e4, e5, e6, e7, e8⟩, off⟩ := S
  refine ⟨F, ⟨c1, c2, c3, c4, c5, c6, c7, c8, fun p hp => N p ?_, e1, e2, e3, e4, e5, e6, e7, e8⟩, fun p hp => off p (hs p hp)⟩
  rcases List.mem_append.mp hp with hp | hp
  · exact List.mem_append_left _ hp
  · exact List.mem_append_right _ (hs p hp)
theorem LS.put {tl : List (Addr × Obj)} {lo : Nat} (S : LS g L h m v1 v2 v3 v4 v5 v6 v7 v8 K) (hlo : L + 8 < lo) (hn : ∀ p ∈ tl, h.get? p.1 = some p.2 ∧ lo ≤ (p.1 : Nat) ∧ g.get? p.1 = none) : LS g L h m v1 v2 v3 v4 v5 v6 v7 v8 (tl ++ K) := by
  obtain ⟨F, ⟨c1, c2, c3, c4, c5, c6, c7, c8, N, e1, e2, e3, e4, e5, e6, e7, e8⟩, off⟩ := S
  refine ⟨F, ⟨c1, c2, c3, c4, c5, c6, c7, c8, fun p hp => ?_, e1, e2, e3, e4, e5, e6, e7, e8⟩, fun p hp => ?_⟩
  · rcases List.mem_append.mp hp with hp | hp
    · exact N p (List.mem_append_left _ hp)
    · rcases List.mem_append.mp hp with hp | hp
      · have := (hn p hp).2.1
        exact ⟨(hn p hp).1, by show @Ne Nat _ _; omega, (hn p hp).2.2⟩
      · exact N p (List.mem_append_right _ hp)
  · rcases List.mem_append.mp hp with hp | hp
    · have := (hn p hp).2.1
      intro k h1 h8
      show @Ne Nat _ _; omega
    · exact off p hp
theorem LS.none {I : Nat} (S : LS g L h m v1 v2 v3 v4 v5 v6 v7 v8 K) (hI : h.objs.size ≤ I) : g.get? I = .none := by
  cases e : g.get? I with
  | none => rfl
  | some o => exact absurd (Heap.lt_size (S.F.keep _ _ e)) (Nat.not_lt.mpr hI)
end
/-- the law's loops over a range: the cell of i may be stored -/
theorem for_ls {w : World} {A : Around} {env : Env} {x : Str} {px : Pos} {body : List Stmt} {Q : Flow → Shared → Prop} {s : Shared} {g : Heap} {L : Nat} {m : Str → Option Value} {v1 v2 v3 v4 v5 v6 v7 v8 : Option Value} {K : List (Addr × Obj)} {r : Addr} {n : Nat} {t₀ u₀ w₀ : Tok}
    (hh : A.handled = none) (hr : IsRange s.heap r 0 (n : Int) 1 t₀ u₀ w₀) (hn : n ≤ 1000000) (Jm : Nat → (Str → Option Value) → Option Value → Prop)
    (S : LS g L s.heap m v1 v2 v3 v4 v5 v6 v7 v8 K) (h0 : Jm 0 m v6)
    (turn : ∀ (i : Nat) t h tk m v6 ob, i < n → Jm i m v6 → LS g L h m v1 v2 v3 v4 v5 v6 v7 v8 (ob :: K) →
      wpAny (model Challenge.rw_pg0133_01.row.prog w) A (assign (.Name x px) env (.int (i : Nat) t)) (fun _ s₂ => wpAny (model Challenge.rw_pg0133_01.row.prog w) A (execs body env) (fun f s₃ => match f with
        | .ret v => Q (.ret v) s₃
        | .brk => Q .next s₃
        | _ => ∃ h' tk' m' v6', s₃ = { s with heap := h', toks := tk' } ∧ LS g L h' m' v1 v2 v3 v4 v5 v6' v7 v8 (ob :: K) ∧ Jm (i + 1) m' v6') (fun _ _ => False) s₂) (fun _ _ => False) { s with heap := h, toks := tk })
    (done : ∀ h tk m v6, Jm n m v6 → LS g L h m v1 v2 v3 v4 v5 v6 v7 v8 K → Q .next { s with heap := h, toks := tk }) :
    wpAny (model Challenge.rw_pg0133_01.row.prog w) A (pyIter (.ref r)) (fun it s₂ => codeAny (model Challenge.rw_pg0133_01.row.prog w) A (.forLoop (.Name x px) it body [] env) (fun r s' => match r with | .ok f => Q f s' | .error e => cameBackBy (model Challenge.rw_pg0133_01.row.prog w) A env (fun _ _ => False) e s') s₂) (fun _ _ => False) s := by
  have hsz : Builtin.Range.rangeSize 0 (n : Int) 1 = (n : Int) := by rw [rangeSize_nat]; omega
  refine wpAny_pyIter_range hr (small_one (by omega) (by omega) (by omega) (by omega)) ?_
  have W := Walks.range (prog := Challenge.rw_pg0133_01.row.prog) (w := w) hh s.heap.objs.size 0 1 n
  obtain ⟨hL, hK, h8⟩ := S.lt
  have hg := S.none (Nat.le_refl _)
  have keep : ∀ {h h' : Heap} {m v6}, LS g L h m v1 v2 v3 v4 v5 v6 v7 v8 K → (∀ (b : Nat) o, b ≠ s.heap.objs.size → h.get? b = some o → h'.get? b = some o) → LS g L h' m v1 v2 v3 v4 v5 v6 v7 v8 K := fun S' hk =>
    S'.keep (Nat.ne_of_lt hL) (fun p hp => Nat.ne_of_lt (hK p hp)) h8 hg hk
  refine codeAny_forLoop
    (fun k s' => ∃ i h' tk m v6, s' = { s with heap := h', toks := tk } ∧ IsRangeIter h' s.heap.objs.size (0 + (i : Nat) * 1) ((n : Int) - (i : Nat)) 1 ∧ LS g L h' m v1 v2 v3 v4 v5 v6 v7 v8 K ∧ Jm i m v6 ∧ i ≤ n ∧ k = n + 1 - i) ?_ (n + 1)
    ⟨0, _, _, m, v6, rfl, ?_, keep S fun b o _ e => Heap.get?_push_of_some _ e, h0, Nat.zero_le _, rfl⟩
  · rintro k s' ⟨i, h', tk, m', v6', rfl, hst, S', hJ, hi, rfl⟩
    by_cases hlt : i < n
    · refine W.item i _ _ _ hlt hst fun v h₁ tk₁ hP hst₁ hk₁ => ?_
      obtain ⟨t, rfl⟩ := hP
      have S₁ := keep S' fun b o hb e => hk₁ b o (by simpa using hb) e
      obtain ⟨ob, hob, hobs⟩ : ∃ ob, h₁.get? s.heap.objs.size = some ob ∧ ∀ h' : Heap, h'.get? s.heap.objs.size = some ob → IsRangeIter h' s.heap.objs.size (0 + ((i + 1 : Nat) : Int) * 1) ((n : Int) - ((i + 1 : Nat) : Int)) 1 := ⟨_, hst₁, fun _ e => e⟩
      have S₂ := S₁.put (tl := [(s.heap.objs.size, ob)]) h8 (fun p hp => by rw [List.mem_singleton.mp hp]; exact ⟨hob, Nat.le_refl _, hg⟩)
      have e0 : (0 : Int) + (i : Int) * 1 = ((i : Nat) : Int) := by omega
      rw [e0]
      refine wpAny_mono (turn i t h₁ tk₁ m' v6' _ hlt hJ S₂) (fun _ s₂ h₂ => wpAny_mono h₂ (fun f s₃ h₃ => ?_) fun _ _ e => e.elim) fun _ _ e => e.elim
      have fin : ∀ {s₃ : Shared}, (∃ h' tk' m' v6', s₃ = { s with heap := h', toks := tk' } ∧ LS g L h' m' v1 v2 v3 v4 v5 v6' v7 v8 ((s.heap.objs.size, ob) :: K) ∧ Jm (i + 1) m' v6') → ∃ k', k' < n + 1 - i ∧ ∃ i h' tk m v6, s₃ = { s with heap := h', toks := tk } ∧ IsRangeIter h' s.heap.objs.size (0 + (i : Nat) * 1) ((n : Int) - (i : Nat)) 1 ∧ LS g L h' m v1 v2 v3 v4 v5 v6 v7 v8 K ∧ Jm i m v6 ∧ i ≤ n ∧ k' = n + 1 - i := by
        rintro s₃ ⟨h', tk', m'', v6'', rfl, S₃, hJ₃⟩
        refine ⟨n + 1 - (i + 1), by omega, i + 1, h', tk', m'', v6'', rfl, ?_, S₃.sub fun _ hp => .tail _ hp, hJ₃, hlt, rfl⟩
        obtain ⟨_, ⟨c1, c2, c3, c4, c5, c6, c7, c8, N, -⟩, -⟩ := S₃
        exact hobs _ (N _ (List.mem_append_right _ (.head _))).1
      cases f with
      | ret v => exact h₃
      | brk => exact h₃
      | next => exact fin h₃
      | cont => exact fin h₃
    · have hin : i = n := by omega
      subst hin
      refine W.done _ _ _ hst fun h₁ tk₁ hk₁ => wpAny_execs_nil ?_
      exact done h₁ tk₁ m' v6' hJ (keep S' fun b o hb e => hk₁ b o (by simpa using hb) e)
  · rw [hsz]
    simpa using Heap.get?_push_size _ rfl
end TLw
theorem resetLx : True := by
  w_top off
  first | (walk1; done) | trivial
section TLx
theorem item_of {K : List (Addr × Obj)} {us : List Value} {ds : List Dat} (h : DatAll K us ds) {i : Nat} (hi : i < ds.length) : ∃ d v, us[i]? = some v ∧ ds[i]? = some d ∧ DatIn K v d := by
  have hv := List.getElem?_eq_getElem (l := us) (i := i) (by rw [h.length]; exact hi)
  obtain ⟨d, hd, hD⟩ := dall_get h i _ hv
  exact ⟨d, _, hv, hd, hD⟩
theorem any_item {w : World} {A : Around} {E : Value → Shared → Prop} {s : Shared} {l : Addr} {vs : List Value} {k : Nat} {u : Tok} {v : Value} {Q : Value → Shared → Prop} {value slice : Expr}
    (hl : s.heap.IsList l vs.toArray) (hk : vs[k]? = some v) (h5 : k ≤ 1000)
    (hs : subscripted slice false (.ref l) (.int (k : Nat) u) = operate [.ref l, .int (k : Nat) u] (getItem (.ref l) (.int (k : Nat) u)))
    (hQ : Q v s) : wpAny (model Challenge.rw_pg0133_01.row.prog w) A (subscriptTail value slice (.ref l) (.int (k : Nat) u)) Q E s :=
  tail_any hl.typeIs slot_list_getitem.lookup (wpAny_getItem_list hl (Int.natCast_nonneg _) (by omega) (by simpa using hk) hQ) hs
theorem ok_small {c : Nat} (h : okC c) : c < 1114112 := by
  have key : ∀ c ∈ [38, 60, 62, 34, 13, 10, 9, 32, 46, 58, 97, 98, 35, 59, 120, 122], c < 1114112 := by decide
  exact key c h
theorem nm_small {i c : Nat} {z : List Nat} (h : nm i c = some z) : ∀ x ∈ z, x < 1114112 := by
  exact fun x hx => inner_lt ((nm_inner h).1 x hx)
theorem esc_small (i : Nat) (l : List Nat) (h : ∀ c ∈ l, c < 1114112) : ∀ c ∈ escL i l, c < 1114112 := by
  intro x hx
  obtain ⟨c, hc, hx⟩ := List.mem_flatMap.mp hx
  unfold esc1 at hx
  split at hx
  · rename_i n e
    rcases List.mem_cons.mp hx with rfl | hx
    · decide
    · exact nm_small e x hx
  · rw [List.mem_singleton.mp hx]; exact h c hc
theorem hand_small (n : Int) (l : List Nat) (h : ∀ c ∈ l, c < 1114112) : ∀ c ∈ handL n l, c < 1114112 := by
  unfold handL
  split
  · exact esc_small 0 l h
  split
  · exact esc_small 1 l h
  split
  · exact esc_small 2 l h
  split
  · exact esc_small 3 l h
  split
  · exact esc_small 4 l h
  split
  · unfold commentL
    split
    · intro c hc; rw [List.mem_singleton.mp hc]; decide
    · intro c hc
      rcases List.mem_cons.mp hc with rfl | hc
      · decide
      rcases List.mem_cons.mp hc with rfl | hc
      · decide
      exact h c (rst_sub hc)
  · intro c hc
    exact h c (takeWhile_sub (takeWhile_sub (lastSeg_sub hc)))
theorem run_small : ∀ (r : List Int) (l : List Nat), (∀ c ∈ l, c < 1114112) → ∀ c ∈ runL r l, c < 1114112
  | [], l, h => h
  | n :: r, l, h => run_small r (handL n l) (hand_small n l h)
theorem strs_ok {l : List (List Nat)} (h : ∀ t ∈ l, ∀ c ∈ t, c < 1114112) : ∀ d ∈ l.map (fun t => Dat.str (S t)), kqdOk 8 d = true := by
  intro d hd
  obtain ⟨t, ht, rfl⟩ := List.mem_map.mp hd
  show PyData.strOk (S t) = true
  unfold PyData.strOk
  rw [Array.all_eq_true']
  intro c hc
  have : c ∈ t := by simpa [S] using hc
  simpa using h t ht c this
theorem strs_inj {l1 l2 : List (List Nat)} (h : l1.map (fun t => Dat.str (S t)) = l2.map (fun t => Dat.str (S t))) : l1 = l2 := by
  refine List.map_inj_right ?_ |>.mp h
  intro x y e
  injection e with e
  exact S_inj.mp e
theorem dec_t {p : Prop} (i : Decidable p) (h : p) : @decide p i = true := by cases i with | isTrue _ => rfl | isFalse n => exact absurd h n
theorem dec_f {p : Prop} (i : Decidable p) (h : ¬ p) : @decide p i = false := by cases i with | isTrue n => exact absurd n h | isFalse n => rfl
theorem strs_ne {w : World} {A : Around} {E : Value → Shared → Prop} {s : Shared} {g : Heap} {L : Addr} {a b : Addr} {news K1 K2 : List (Addr × Obj)} {l1 l2 : List (List Nat)} {Q : Value → Shared → Prop} (N : News g L s.heap news)
    (d1 : DatIn K1 (.ref a) (strsD l1)) (s1 : ∀ p ∈ K1, p ∈ news) (d2 : DatIn K2 (.ref b) (strsD l2)) (s2 : ∀ p ∈ K2, p ∈ news) (h1 : ∀ t ∈ l1, ∀ c ∈ t, c < 1114112) (h2 : ∀ t ∈ l2, ∀ c ∈ t, c < 1114112) (hu : A.units + 64 < cLine)
    (hq : l1 = l2 → Q (.bool false) s) (hn : l1 ≠ l2 → Q (.bool true) s) : wpAny (model Challenge.rw_pg0133_01.row.prog w) A (compareOp .NotEq (.ref a) (.ref b)) Q E s := by
  unfold strsD at d1 d2
  cases d1 with
  | list m1 D1 =>
    cases d2 with
    | list m2 D2 =>
      refine kqd_ne N (s1 _ m1) rfl rfl D1 s1 (s2 _ m2) rfl rfl D2 s2 (strs_ok h1) (strs_ok h2) hu ?_
      by_cases h : l1 = l2
      · rw [dec_t _ (congrArg (List.map fun t => Dat.str (S t)) h)]; exact hq h
      · rw [dec_f _ fun q => h (strs_inj q)]; exact hn h
theorem strs_eq {w : World} {A : Around} {E : Value → Shared → Prop} {s : Shared} {g : Heap} {L : Addr} {a b : Addr} {news K1 K2 : List (Addr × Obj)} {l1 l2 : List (List Nat)} {Q : Value → Shared → Prop} (N : News g L s.heap news)
    (d1 : DatIn K1 (.ref a) (strsD l1)) (s1 : ∀ p ∈ K1, p ∈ news) (d2 : DatIn K2 (.ref b) (strsD l2)) (s2 : ∀ p ∈ K2, p ∈ news) (h1 : ∀ t ∈ l1, ∀ c ∈ t, c < 1114112) (h2 : ∀ t ∈ l2, ∀ c ∈ t, c < 1114112) (hu : A.units + 64 < cLine)
    (hq : Q (.bool (decide (l1 = l2))) s) : wpAny (model Challenge.rw_pg0133_01.row.prog w) A (compareOp .Eq (.ref a) (.ref b)) Q E s := by
  unfold strsD at d1 d2
  cases d1 with
  | list m1 D1 =>
    cases d2 with
    | list m2 D2 =>
      refine kqd_eq N (s1 _ m1) rfl rfl D1 s1 (s2 _ m2) rfl rfl D2 s2 (strs_ok h1) (strs_ok h2) hu ?_
      by_cases h : l1 = l2
      · rw [dec_t _ (congrArg (List.map fun t => Dat.str (S t)) h)]; rw [decide_eq_true h] at hq; exact hq
      · rw [dec_f _ fun q => h (strs_inj q)]; rw [decide_eq_false h] at hq; exact hq
set_option maxHeartbeats 8000000 in
theorem law_seg5 {w : World} {p : Program} {loose : List Str} {mean : ExcName → Option Value} {mg mb : Str → Option Value} {dp un : Nat} {gd : Option (List Code)} {outer : List Env} {A₀ : Around} {base g : Heap} {sc : Addr} {vs : List Value} {ns : List Int}
    (C : LC w p loose mean mg mb dp un outer A₀ base g sc vs ns) {L fa : Addr} {cdv : Value} {Q : Flow → Shared → Prop} {s : Shared} {h : Heap} {tk : Nat} {v2 v6 v7 v8 : Option Value} {K : List (Addr × Obj)} {m : Str → Option Value} {a Dr De Dl : Addr} {rows : List (List Int)} {texts : List (List Nat)} {dl : List Nat} {td : Tok}
    (S₀ : LS g L h m (some (.ref a)) v2 (some (.ref Dr)) (some (.ref De)) (some (.str (S dl) td)) v6 v7 v8 K) (hm : m (Str.ofString "left") = some (.ref Dl))
    (hNA : ∀ H, At K H → NamesAt w H a)
    (dR : DatIn K (.ref Dr) (.list (rows.map intsD))) (dE : DatIn K (.ref De) (strsD texts)) (dL : DatIn K (.ref Dl) (leftD rows (texts ++ [dl]) runL))
    (hr5 : ∀ r ∈ rows, r.length ≤ 5) (hr7 : ∀ r ∈ rows, ∀ n ∈ r, 0 ≤ n ∧ n ≤ 6) (hrl : rows.length = 6) (ht : texts.length = 3) (ht16 : ∀ t ∈ texts ++ [dl], t.length ≤ 16) (htok : ∀ t ∈ texts ++ [dl], ∀ c ∈ t, okC c)
    (next : ∀ (h' : Heap) tk' m' v6', LS g L h' m' (some (.ref a)) v2 (some (.ref Dr)) (some (.ref De)) (some (.str (S dl) td)) v6' v7 v8 K → m' (Str.ofString "left") = some (.ref Dl) → Goes w dp un gd outer L fa cdv 10 Q { s with heap := h', toks := tk' }) :
    Goes w dp un gd outer L fa cdv 9 Q { s with heap := h, toks := tk } := by
  have kf : hd.heap_39 = hd.heap_39 ∧ Challenge.rw_pg0133_01 = Challenge.rw_pg0133_01 := by k_fill; exact ⟨rfl, rfl⟩
  obtain ⟨B, X, T, hdp, hun, hp, hI, hn⟩ := C
  unfold Goes lawScope lawBody lawPack mkPack
  dsimp only [List.drop]
  refine wpAny_execs_cons ?_
  refine wpAny_For ?_
  have S₁ := S₀
  obtain ⟨F, ⟨c1, c2, c3, c4, c5, c6, c7, c8, N, e1, e2, e3, e4, e5, e6, e7, e8⟩, hoff⟩ := S₀
  simp only [cl8, List.cons_append, List.nil_append] at N
  iterate 6 walk1
  refine range1_rows (by k_asm) (by k_asm) ?_
  intro h5 tk5 ta tb tc hR F5 N5 _
  have hR' : IsRange h5 _ 0 ((2 : Nat) : Int) 1 _ _ _ := hR
  refine for_ls (g := g) (L := L) (K := K) rfl hR' (by decide) (fun _ m' _ => m' (Str.ofString "left") = some (.ref Dl)) ⟨F5, ⟨c1, c2, c3, c4, c5, c6, c7, c8, N5, e1, e2, e3, e4, e5, e6, e7, e8⟩, hoff⟩ hm ?_ ?_
  · rintro i t h1 tk1 m1 v6' ob hi hm1 S₂
    obtain ⟨F, ⟨c1, c2, c3, c4, c5, c6, c7, c8, N, e1, e2, e3, e4, e5, e6, e7, e8⟩, off⟩ := S₂
    clear N5 F5 S₁ hoff hR hR'
    refine wpAny_assign_Name (st_cell (L := L) F N (by rfl) (by rfl) (by rfl) (o := c6) mem_c6 e6 _ (set_c6 off) ?_)
    clear F N e6 c6
    intro h2 c6 F N e6
    dsimp only
    refine cutP ?_
    intro R hR0
    obtain ⟨uL, nL, mL, iL⟩ := list_of_dat (l := rows.map fun r => strsD ((texts ++ [dl]).map (runL r))) dL
    obtain ⟨uR, nR, mR, iR⟩ := list_of_dat dR
    obtain ⟨uE, nE, mE, iE⟩ := strs_of_dat dE
    have M0 : ∀ p ∈ K, p ∈ cl8 L c1 c2 c3 c4 c5 c6 c7 c8 ++ (ob :: K) := fun p hp => List.mem_append_right _ (.tail _ hp)
    have F2 := fr_put' F hm1
    simp only [cl8, List.cons_append, List.nil_append] at N
    refine wpAny_execs_cons (wpAny_If (wpAny_isTrue_Compare1 ?_))
    iterate 3 walk1
    obtain ⟨d, vl, hvl, hdl, hDl⟩ := item_of iL (i := i) (by simp; omega)
    refine any_item (News.isList N (M0 _ mL)) hvl (by omega) (by with_unfolding_all rfl) ?_
    refine cd_expr (by rfl) (by rfl) (by decide) (way_l (by decide) rfl (by decide)) ?_
    iterate 6 walk1
    refine newList_NK F2 N ?_ (by rw [sizeLine_eq]; simp)
    intro h4 F4 N4 st4
    refine PySem.P.add_list (s := { s with heap := h4, toks := _ }) (N4 _ (.tail _ (M0 _ mE))).1 (N4 _ (.head _)).1 ?_ (by have := iE.length; rw [sizeLine_eq]; simp at this ⊢; omega)
    dsimp only
    have iA : StrsAre (uE ++ [.str (S dl) td]) ((texts ++ [dl]).map S) := by
      rw [List.map_append]
      exact strs_app iE (.cons _ _ .nil)
    have eA : uE.toArray ++ [Value.str (S dl) td].toArray = (uE ++ [Value.str (S dl) td]).toArray := by simp
    rw [eA]
    generalize uE ++ [Value.str (S dl) td] = uA at iA
    generalize hh5 : h4.push { cls := Value.type "list", data := Data.seq uA.toArray } = h5
    have hl5 : h5.IsList h4.objs.size uA.toArray := by rw [← hh5]; exact ⟨_, Heap.get?_push_size _ rfl, rfl, 0, rfl⟩
    have st5 : h2.StaysIn h5 := fun b o e => by rw [← hh5]; exact Heap.get?_push_of_some _ (st4 b o e)
    have lenA : uA.length = (texts ++ [dl]).length := by rw [strs_len iA, List.length_map]
    obtain ⟨dr, vr, hvr, hdr, hDr⟩ := item_of iR (i := i) (by simp; omega)
    obtain ⟨row, r, ur, nr, hrow, rfl, mr, ir⟩ := rows_get iR i vr hvr
    have hr5' := hr5 row (List.mem_of_getElem? hrow)
    have hr7' := hr7 row (List.mem_of_getElem? hrow)
    have F5 := stays_fr st5 F2
    have N5 := stays_news st5 N
    refine ⟨uA.length, _, fun j => .str (S (toldL row ((texts ++ [dl]).getD j []))), src_list rfl hl5, by rw [lenA]; simp; omega, ?_, ?_⟩
    · rintro C2 j v2 h₆ tk₆ hC2 hlt2 hj hv2 ⟨m₆, hNs6, hm6⟩ hst6
      obtain ⟨t2, rfl⟩ := strs_at (us := []) (l := []) iA j v2 hv2
      have F6 := stays_fr hst6 F5
      have N6 := stays_news hst6 N5
      have hm' := hm6 _ rfl
      dsimp only
      clear F4 N4 F2 N F5 N5 F
      iterate 10 walk1
      refine any_item (News.isList N6 (M0 _ mR)) hvr (by omega) (by with_unfolding_all rfl) ?_
      refine spliced_more ?_
      iterate 1 walk1
      refine spliced_none ⟨X.keeps F6.keep, ?_⟩
      refine' tl_use (law_told w a r ur nr row ir _ t2 hr5' (fun n hn => (hr7' n hn).1) ?kl) ?k1 ?k2 ?k3 ?k5 ?kf ?kk ?kd ?ku ?kp ?_
      walk_at "mine room"
      case kl =>
        refine ht16 _ ?_
        have hj' : j < (texts ++ [dl]).length := by rw [← lenA]; exact hj
        rw [List.getD_eq_getElem?_getD, List.getElem?_eq_getElem hj']
        exact List.getElem_mem hj'
      case kp => exact ⟨hNA _ fun p hp => (N6 p (M0 p hp)).1, (N6 _ (M0 _ mr)).1⟩
      rintro _ h7 tk7 G7 ⟨t9, rfl⟩
      exact ⟨h7, tk7, rfl, G7.st, [], (fun _ hp => nomatch hp), .str _ _⟩
    · rintro D h' tk' hst' ⟨tl, htl, dtl⟩
      have eL : ((List.range uA.length).map fun j => Dat.str (S (toldL row ((texts ++ [dl]).getD j [])))) = ((texts ++ [dl]).map (toldL row)).map fun t => .str (S t) := by
        rw [lenA, range_getD (texts ++ [dl]) [] fun t => Dat.str (S (toldL row t)), List.map_map]; rfl
      rw [eL] at dtl
      have e1L : d = strsD ((texts ++ [dl]).map (runL row)) := by
        rw [List.getElem?_map, hrow] at hdl
        exact (Option.some.inj hdl).symm
      subst e1L
      obtain ⟨li, rfl⟩ : ∃ li, vl = .ref li := by unfold strsD at hDl; cases hDl; exact ⟨_, rfl⟩
      have same : (texts ++ [dl]).map (runL row) = (texts ++ [dl]).map (toldL row) := List.map_congr_left fun t htm => run_told row t hr7' (htok t htm)
      have small : ∀ t ∈ (texts ++ [dl]).map (runL row), ∀ c ∈ t, c < 1114112 := by
        intro t htm
        obtain ⟨t0, ht0, rfl⟩ := List.mem_map.mp htm
        exact run_small row t0 fun c hc => ok_small (htok t0 ht0 c hc)
      have S5 : LS g L h5 m1 (some (.ref a)) v2 (some (.ref Dr)) (some (.ref De)) (some (.str (S dl) td)) (some (.int (i : Nat) t)) v7 v8 (ob :: K) := ⟨stays_fr st5 F, ⟨c1, c2, c3, c4, c5, c6, c7, c8, N5, e1, e2, e3, e4, e5, e6, e7, e8⟩, off⟩
      replace hst' : h5.StaysIn h' := hst'
      have S6 := S5.stays hst'
      have S7 := S6.put (tl := tl) S5.lt.2.2 fun p hp => ⟨(htl p hp).1, (htl p hp).2, S5.none (htl p hp).2⟩
      obtain ⟨-, ⟨z1, z2, z3, z4, z5, z6, z7, z8, NZ, -⟩, -⟩ := S7
      refine strs_ne NZ hDl (fun p hp => List.mem_append_right _ (List.mem_append_right _ (.tail _ hp))) (l2 := (texts ++ [dl]).map (toldL row)) dtl (fun p hp => List.mem_append_right _ (List.mem_append_left _ hp)) small (same ▸ small) (by show un + 64 < cLine; omega) ?_ (fun hne => absurd same hne)
      intro _
      refine wpAny_truthy_bool ?_
      rw [if_neg Bool.false_ne_true]
      refine wpAny_execs_nil (wpAny_execs_nil (hR0 _ _ ?_))
      exact ⟨h', _, m1, _, rfl, S6, hm1⟩
  · rintro h1 tk1 m1 v6' hm1 S₂
    exact next h1 tk1 m1 v6' S₂ hm1
end TLx
theorem resetLy : True := by
  w_top off
  first | (walk1; done) | trivial
section TLy
set_option maxHeartbeats 8000000 in
theorem law_seg6 {w : World} {p : Program} {loose : List Str} {mean : ExcName → Option Value} {mg mb : Str → Option Value} {dp un : Nat} {gd : Option (List Code)} {outer : List Env} {A₀ : Around} {base g : Heap} {sc : Addr} {vs : List Value} {ns : List Int}
    (C : LC w p loose mean mg mb dp un outer A₀ base g sc vs ns) {L fa : Addr} {cdv : Value} {Q : Flow → Shared → Prop} {s : Shared} {h : Heap} {tk : Nat} {v2 v4 v5 v6 v7 v8 : Option Value} {K : List (Addr × Obj)} {m : Str → Option Value} {a Dr : Addr} {rows : List (List Int)}
    (S₀ : LS g L h m (some (.ref a)) v2 (some (.ref Dr)) v4 v5 v6 v7 v8 K)
    (hNA : ∀ H, At K H → NamesAt w H a) (dR : DatIn K (.ref Dr) (.list (rows.map intsD))) (hr5 : ∀ r ∈ rows, r.length ≤ 5) (hr7 : ∀ r ∈ rows, ∀ n ∈ r, 0 ≤ n ∧ n ≤ 6) (hrl : rows.length = 6)
    (next : ∀ (h' : Heap) tk' K' Dm, LS g L h' (fun y => if y = Str.ofString "marks" then some (.ref Dm) else m y) (some (.ref a)) v2 (some (.ref Dr)) v4 v5 v6 v7 v8 (K' ++ K) → DatIn (K' ++ K) (.ref Dm) (.list (rows.map markD)) → Goes w dp un gd outer L fa cdv 11 Q { s with heap := h', toks := tk' }) :
    Goes w dp un gd outer L fa cdv 10 Q { s with heap := h, toks := tk } := by
  have kf : hd.heap_39 = hd.heap_39 ∧ Challenge.rw_pg0133_01 = Challenge.rw_pg0133_01 := by k_fill; exact ⟨rfl, rfl⟩
  obtain ⟨B, X, T, hdp, hun, hp, hI, hn⟩ := C
  obtain ⟨F, ⟨c1, c2, c3, c4, c5, c6, c7, c8, N, e1, e2, e3, e4, e5, e6, e7, e8⟩, hoff⟩ := S₀
  unfold Goes lawScope lawBody lawPack mkPack
  dsimp only [List.drop]
  simp only [cl8, List.cons_append, List.nil_append] at N
  obtain ⟨uR, nR, mR, iR⟩ := list_of_dat dR
  have M0 : ∀ p ∈ K, p ∈ cl8 L c1 c2 c3 c4 c5 c6 c7 c8 ++ K := fun p hp => List.mem_append_right _ hp
  refine ec ?_
  intro R hR
  refine cd_assign (g := g) (by rfl) (by rfl) (by rfl) (by decide) (way_l (by decide) rfl (by decide)) (by rfl) rfl ?_
  iterate 1 walk1
  refine ⟨uR.length, _, fun i => markD (rows.getD i []), _, _, src_list rfl (News.isList N (M0 _ mR)), by have := iR.length; simp at this; omega, F, N, ?_, ?_⟩
  · rintro C i v h₃ tk₃ hC hlt hi hv ⟨m₃, hNs, hm₃⟩ hst3
    obtain ⟨row, r, ur, nr, hrow, rfl, mr, ir⟩ := rows_get iR i v hv
    have hr5 := hr5 row (List.mem_of_getElem? hrow)
    have hr7 := hr7 row (List.mem_of_getElem? hrow)
    have eRow : rows.getD i [] = row := by rw [List.getD_eq_getElem?_getD, hrow]; rfl
    have F3 := stays_fr hst3 F
    have N3 := stays_news hst3 N
    have hm' := hm₃ _ rfl
    clear F N
    dsimp only
    rw [eRow]
    iterate 6 walk1
    refine spliced_more ?_
    iterate 1 walk1
    refine spliced_none ⟨X.keeps F3.keep, ?_⟩
    refine' tl_use (law_mark w a r ur nr row ir hr5 fun n hn => (hr7 n hn).1) ?k1 ?k2 ?k3 ?k5 ?kf ?kk ?kd ?ku ?kp ?_
    walk_at "mine room"
    case kp => exact ⟨hNA _ fun p hp => (N3 p (M0 p hp)).1, (N3 _ (M0 _ mr)).1⟩
    rintro r9 h7 tk7 G7 ⟨tl, htl, dtl⟩
    exact ⟨h7, tk7, rfl, G7.st, tl, fun p hp => ⟨(htl p hp).1, Nat.le_trans hlt (htl p hp).2⟩, dtl⟩
  · rintro Dm h6 tk6 F6 N6 ⟨tl, htl, dl'⟩
    obtain ⟨N7, off7⟩ := more N N6 F hoff htl
    refine hR _ (next h6 tk6 tl Dm ⟨F6, ⟨c1, c2, c3, c4, c5, c6, c7, c8, N7, e1, e2, e3, e4, e5, e6, e7, e8⟩, off7⟩ ?_)
    have eL : ((List.range uR.length).map fun i => markD (rows.getD i [])) = rows.map markD := by
      rw [show uR.length = rows.length by simpa using iR.length, range_getD rows [] markD]
    rw [← eL]
    exact dl'.mono fun _ hp => List.mem_append_left _ hp
end TLy
theorem resetMa : True := by
  w_top off
  first | (walk1; done) | trivial
section TMa
/-- data of bools, ints, texts and lists of these -/
noncomputable def okB : Nat → Dat → Bool
  | _, .bool _ => true
  | _, .int _ => true
  | _, .str x => PyData.strOk x
  | n + 1, .list ds => ds.all (okB n)
  | _, _ => false
mutual
theorem br_in {h₀ h : Heap} {L : Addr} {news : List (Addr × Obj)} (N : News h₀ L h news) : ∀ {v : Value} {d : Dat} (n : Nat), DatIn news v d → okB n d = true → ∃ as, Reads h v (kqdP d) as
  | _, _, n, .none, hk => by cases n <;> simp [okB] at hk
  | _, _, _, .bool b, _ => ⟨_, Reads.bool b⟩
  | _, _, _, .int i t, _ => ⟨_, Reads.int i t⟩
  | _, _, _, .str x t, _ => ⟨_, Reads.str x t⟩
  | _, _, n, .bytes _ _, hk => by cases n <;> simp [okB] at hk
  | _, _, n, .tuple _ _, hk => by cases n <;> simp [okB] at hk
  | _, _, 0, .list _ _, hk => by simp [okB] at hk
  | _, _, n + 1, .list hm r, hk => by
    obtain ⟨as, q⟩ := br_all N n r (by simpa [okB] using hk)
    rw [kqdP]
    exact ⟨_, reads_list_at (N.get hm) rfl rfl (by simpa [W.listOf] using q)⟩
theorem br_all {h₀ h : Heap} {L : Addr} {news : List (Addr × Obj)} (N : News h₀ L h news) : ∀ {vs : List Value} {ds : List Dat} (n : Nat), DatAll news vs ds → (∀ d ∈ ds, okB n d = true) → ∃ as, ReadsAll h vs (kqdPs ds) as
  | _, _, _, .nil, _ => ⟨_, ReadsAll.nil⟩
  | _, _, n, .cons hd r, hk => by
    obtain ⟨as, q⟩ := br_in N n hd (hk _ (.head _))
    obtain ⟨bs, p⟩ := br_all N n r fun d hm => hk d (.tail _ hm)
    rw [kqdPs]
    exact ⟨_, ReadsAll.cons q p⟩
end
theorem br_lay : ∀ (n : Nat) (d : Dat), okB n d = true → (kqdP d).canLay0 = true ∧ (kqdP d).depth ≤ n := by
  have all : ∀ (n : Nat), (∀ d, okB n d = true → (kqdP d).canLay0 = true ∧ (kqdP d).depth ≤ n) → ∀ ds : List Dat, (∀ d ∈ ds, okB n d = true) → PyData.canLayAll0 (kqdPs ds) = true ∧ PyData.depthAll (kqdPs ds) ≤ n := by
    intro n ih ds
    induction ds with
    | nil => intro _; exact ⟨rfl, Nat.zero_le _⟩
    | cons d ds hi =>
      intro hk
      have a := ih d (hk d (.head _))
      have b := hi fun x hx => hk x (.tail _ hx)
      simp only [kqdPs, PyData.canLayAll0, PyData.depthAll, a.1, b.1, Bool.and_self, true_and]
      omega
  intro n
  induction n with
  | zero => intro d h; cases d <;> simp_all [okB, kqdP, PyData.canLay0, PyData.depth]
  | succ n ih =>
    intro d h
    cases d with
    | list ds =>
      have q := all n ih ds (by simpa [okB] using h)
      have q2 := q.2
      simp only [kqdP, PyData.canLay0, PyData.depth, q.1, true_and]
      omega
    | _ => simp_all [okB, kqdP, PyData.canLay0, PyData.depth]
/-- nowhere a bool against an int -/
noncomputable def nmx : Nat → Dat → Dat → Bool
  | _, .bool _, .int _ => false
  | _, .int _, .bool _ => false
  | n + 1, .list ds, .list es => (ds.zip es).all fun p => nmx n p.1 p.2
  | 0, .list _, .list _ => false
  | _, _, _ => true
theorem eqv_bool (b : Bool) (e : Dat) (k : Nat) (h2 : okB k e = true) (h3 : ∀ i, e ≠ .int i) : (PyData.eqv (kqdP (.bool b)) (kqdP e) = true ↔ Dat.bool b = e) := by
  cases e with
  | none => simp [kqdP, PyData.eqv]
  | bool c => simp [kqdP, PyData.eqv]
  | int i => exact absurd rfl (h3 i)
  | str x => simp [kqdP, PyData.eqv]
  | bytes c => cases k <;> simp [okB] at h2
  | tuple es => cases k <;> simp [okB] at h2
  | list es => simp [kqdP, PyData.eqv]
theorem eqv_int (i : Int) (e : Dat) (k : Nat) (h2 : okB k e = true) (h3 : ∀ b, e ≠ .bool b) : (PyData.eqv (kqdP (.int i)) (kqdP e) = true ↔ Dat.int i = e) := by
  cases e with
  | none => simp [kqdP, PyData.eqv]
  | bool c => exact absurd rfl (h3 c)
  | int j => simp [kqdP, PyData.eqv]
  | str x => simp [kqdP, PyData.eqv]
  | bytes c => cases k <;> simp [okB] at h2
  | tuple es => cases k <;> simp [okB] at h2
  | list es => simp [kqdP, PyData.eqv]
theorem eqv_str (y : Str) (e : Dat) (k : Nat) (h2 : okB k e = true) : (PyData.eqv (kqdP (.str y)) (kqdP e) = true ↔ Dat.str y = e) := by
  cases e with
  | none => simp [kqdP, PyData.eqv]
  | bool c => simp [kqdP, PyData.eqv]
  | int j => simp [kqdP, PyData.eqv]
  | str x => simp [kqdP, PyData.eqv]
  | bytes c => cases k <;> simp [okB] at h2
  | tuple es => cases k <;> simp [okB] at h2
  | list es => simp [kqdP, PyData.eqv]
theorem br_eqv : ∀ (n : Nat) (d e : Dat) (k : Nat), okB n d = true → okB k e = true → nmx n d e = true → (PyData.eqv (kqdP d) (kqdP e) = true ↔ d = e) := by
  have all : ∀ (n : Nat), (∀ d e k, okB n d = true → okB k e = true → nmx n d e = true → (PyData.eqv (kqdP d) (kqdP e) = true ↔ d = e)) → ∀ (k : Nat) (ds es : List Dat), (∀ d ∈ ds, okB n d = true) → (∀ d ∈ es, okB k d = true) → (ds.zip es).all (fun p => nmx n p.1 p.2) = true →
      (PyData.eqvAll (kqdPs ds) (kqdPs es) = true ↔ ds = es) := by
    intro n ih k ds
    induction ds with
    | nil => intro es _ _ _; cases es <;> simp [kqdPs, PyData.eqvAll]
    | cons d ds hi =>
      intro es h1 h2 h3
      cases es with
      | nil => simp [kqdPs, PyData.eqvAll]
      | cons e es =>
        rw [List.zip_cons_cons, List.all_cons, Bool.and_eq_true] at h3
        have q1 := ih d e k (h1 d (.head _)) (h2 e (.head _)) h3.1
        have q2 := hi es (fun x hx => h1 x (.tail _ hx)) (fun x hx => h2 x (.tail _ hx)) h3.2
        simp only [kqdPs, PyData.eqvAll, Bool.and_eq_true, q1, q2, List.cons.injEq]
  have atom : ∀ (d e : Dat) (k n : Nat), (∀ ds, d ≠ .list ds) → okB n d = true → okB k e = true → nmx n d e = true → (PyData.eqv (kqdP d) (kqdP e) = true ↔ d = e) := by
    intro d e k n hd h1 h2 h3
    cases d with
    | bool b => exact eqv_bool b e k h2 (by rintro i rfl; simp [nmx] at h3)
    | int i => exact eqv_int i e k h2 (by rintro b rfl; simp [nmx] at h3)
    | str x => exact eqv_str x e k h2
    | list ds => exact absurd rfl (hd ds)
    | none => cases n <;> simp [okB] at h1
    | bytes b => cases n <;> simp [okB] at h1
    | tuple ds => cases n <;> simp [okB] at h1
  intro n
  induction n with
  | zero =>
    intro d e k h1 h2 h3
    refine atom d e k 0 ?_ h1 h2 h3
    rintro ds rfl
    simp [okB] at h1
  | succ n ih =>
    intro d e k h1 h2 h3
    cases d with
    | list ds =>
      cases e with
      | list es =>
        cases k with
        | zero => simp [okB] at h2
        | succ k =>
          simp only [kqdP, PyData.eqv, Dat.list.injEq]
          exact all n ih k ds es (by simpa [okB] using h1) (by simpa [okB] using h2) (by simpa only [nmx] using h3)
      | none => simp [kqdP, PyData.eqv]
      | bool b => simp [kqdP, PyData.eqv]
      | int i => simp [kqdP, PyData.eqv]
      | str x => simp [kqdP, PyData.eqv]
      | bytes b => simp [kqdP, PyData.eqv]
      | tuple es => cases k <;> simp [okB] at h2
    | none => exact atom _ e k (n + 1) (by simp) h1 h2 h3
    | bool b => exact atom _ e k (n + 1) (by simp) h1 h2 h3
    | int i => exact atom _ e k (n + 1) (by simp) h1 h2 h3
    | str x => exact atom _ e k (n + 1) (by simp) h1 h2 h3
    | bytes b => exact atom _ e k (n + 1) (by simp) h1 h2 h3
    | tuple ds => exact atom _ e k (n + 1) (by simp) h1 h2 h3
end TMa
theorem resetMb : True := by
  w_top off
  first | (walk1; done) | trivial
section TMb
theorem strOk_S {t : List Nat} (h : ∀ c ∈ t, c < 1114112) : PyData.strOk (S t) = true := by
  unfold PyData.strOk
  rw [Array.all_eq_true']
  intro c hc
  have : c ∈ t := by simpa [S] using hc
  simpa using h c this
theorem code_small (r : List Int) {c : Nat} (hc : c < 1114112) : ∀ x ∈ codeL r c, x < 1114112 := by
  rcases codeL_ok r c with h | ⟨_, z, h, hz, _⟩
  · rw [h]; intro x hx; rw [List.mem_singleton.mp hx]; exact hc
  · rw [h]
    intro x hx
    rcases List.mem_cons.mp hx with rfl | hx
    · decide
    · exact inner_lt (hz x hx)
theorem bare_ok (n : Nat) (r : List Int) : okB (n + 1) (bareD r) = true := by cases n <;> simp [bareD, okB]
theorem mark_ok (r : List Int) : okB 4 (markD r) = true := by
  unfold markD
  rw [okB, List.all_eq_true]
  intro d hd
  rcases List.mem_append.mp hd with hd | hd
  · rcases List.mem_append.mp hd with hd | hd
    · rcases List.mem_append.mp hd with hd | hd
      · simp only [List.cons_append, List.nil_append, List.mem_cons, List.not_mem_nil, or_false] at hd
        rcases hd with rfl | rfl | rfl | rfl
        · rfl
        · rfl
        · rfl
        · rw [okB, List.all_eq_true]
          intro d hd
          obtain ⟨c, hc, rfl⟩ := List.mem_map.mp hd
          show PyData.strOk _ = true
          refine strOk_S (code_small r ?_)
          simp only [List.mem_cons, List.not_mem_nil, or_false] at hc
          omega
      · split at hd
        · rw [List.mem_singleton.mp hd]; exact bare_ok 2 _
        · cases hd
    · split at hd
      · rw [List.mem_singleton.mp hd]; rfl
      · cases hd
  · split at hd
    · rw [List.mem_singleton.mp hd]; exact bare_ok 2 _
    · cases hd
theorem nmx_bare (n : Nat) (r q : List Int) : nmx (n + 2) (bareD r) (bareD q) = true := by simp [bareD, nmx]
theorem codes_nmx (n : Nat) (r q : List Int) : ∀ l : List Nat, ((l.map fun c => Dat.str (S (codeL r c))).zip (l.map fun c => Dat.str (S (codeL q c)))).all (fun p => nmx n p.1 p.2) = true
  | [] => rfl
  | c :: l => by
    rw [List.map_cons, List.map_cons, List.zip_cons_cons, List.all_cons, codes_nmx n r q l, Bool.and_true]
    cases n <;> rfl
/-- a mark's parts behind the codes: no int among them -/
noncomputable def tailB (d : Dat) : Prop := (∃ b, d = .bool b) ∨ ∃ r, d = bareD r
theorem tail_nmx {d e : Dat} (h1 : tailB d) (h2 : tailB e) : nmx 3 d e = true := by
  rcases h1 with ⟨b, rfl⟩ | ⟨r, rfl⟩
  · rcases h2 with ⟨c, rfl⟩ | ⟨q, rfl⟩
    · rfl
    · rfl
  · rcases h2 with ⟨c, rfl⟩ | ⟨q, rfl⟩
    · rfl
    · exact nmx_bare 1 r q
theorem zip_tail {ds es : List Dat} (h1 : ∀ d ∈ ds, tailB d) (h2 : ∀ d ∈ es, tailB d) : (ds.zip es).all (fun p => nmx 3 p.1 p.2) = true := by
  rw [List.all_eq_true]
  intro p hp
  exact tail_nmx (h1 _ (List.of_mem_zip hp).1) (h2 _ (List.of_mem_zip hp).2)
theorem mark_nmx (r q : List Int) : nmx 4 (markD r) (markD q) = true := by
  have tl : ∀ r : List Int, ∀ d ∈ ((if 5 ∈ aheadL r then [bareD (upto5 (aheadL r))] else []) ++ (if 6 ∈ r then [Dat.bool (decide (codeL (aheadL r) 10 = [10]))] else [])) ++ (if 5 ∈ behindL r then [bareD (aheadL r ++ upto5 (behindL r))] else []), tailB d := by
    intro r d hd
    rcases List.mem_append.mp hd with hd | hd
    · rcases List.mem_append.mp hd with hd | hd
      · split at hd
        · rw [List.mem_singleton.mp hd]; exact .inr ⟨_, rfl⟩
        · cases hd
      · split at hd
        · rw [List.mem_singleton.mp hd]; exact .inl ⟨_, rfl⟩
        · cases hd
    · split at hd
      · rw [List.mem_singleton.mp hd]; exact .inr ⟨_, rfl⟩
      · cases hd
  have z := zip_tail (tl r) (tl q)
  have c := codes_nmx 2 r q [38, 60, 62, 34, 13, 9]
  unfold markD
  simp only [List.append_assoc] at z ⊢
  simp only [List.cons_append, List.nil_append]
  rw [nmx]
  have a1 : ∀ b c, nmx 3 (.bool b) (.bool c) = true := fun _ _ => rfl
  have a2 : ∀ b c, nmx 3 (.int b) (.int c) = true := fun _ _ => rfl
  have a3 : ∀ ds es, nmx 3 (.list ds) (.list es) = (ds.zip es).all fun p => nmx 2 p.1 p.2 := fun _ _ => rfl
  rw [List.zip_cons_cons, List.all_cons, List.zip_cons_cons, List.all_cons, List.zip_cons_cons, List.all_cons, List.zip_cons_cons, List.all_cons, z, a1, a2, a2, a3, c]
  rfl
theorem mark_eq {w : World} {A : Around} {E : Value → Shared → Prop} {s : Shared} {g : Heap} {L : Addr} {a b : Addr} {news K1 K2 : List (Addr × Obj)} {x y : List Int} {Q : Value → Shared → Prop} (N : News g L s.heap news)
    (d1 : DatIn K1 (.ref a) (markD x)) (s1 : ∀ p ∈ K1, p ∈ news) (d2 : DatIn K2 (.ref b) (markD y)) (s2 : ∀ p ∈ K2, p ∈ news) (hu : A.units + 64 < cLine)
    (hq : markD x = markD y → Q (.bool true) s) (hn : markD x ≠ markD y → Q (.bool false) s) : wpAny (model Challenge.rw_pg0133_01.row.prog w) A (compareOp .Eq (.ref a) (.ref b)) Q E s := by
  obtain ⟨as, ra⟩ := br_in N 4 (d1.mono s1) (mark_ok x)
  obtain ⟨bs, rb⟩ := br_in N 4 (d2.mono s2) (mark_ok y)
  have la := br_lay 4 _ (mark_ok x)
  have lb := br_lay 4 _ (mark_ok y)
  have sh : ∀ r, (kqdP (markD r)).canLay0 = true ∧ (kqdP (markD r)).depth ≤ 4 → SeqAt.shaped (kqdP (markD r)) = true := by
    intro r l
    unfold SeqAt.shaped
    rw [l.1, Bool.true_and]
    exact decide_eq_true (Nat.le_trans l.2 (by decide))
  refine eq_dataH ra rb (sh x la) (sh y lb) hu ?_
  have e := br_eqv 4 _ _ 4 (mark_ok x) (mark_ok y) (mark_nmx x y)
  by_cases h : markD x = markD y
  · rw [e.mpr h]; exact hq h
  · rw [Bool.eq_false_iff.mpr fun q => h (e.mp q)]; exact hn h
end TMb
theorem resetLz : True := by
  w_top off
  first | (walk1; done) | trivial
section TLz
/-- a word that hides what it says -/
structure Hold (p : Prop) : Prop where
  out : p
theorem ls_assign {M : Model} {A : Around} {E : Value → Shared → Prop} {s : Shared} {g : Heap} {L : Nat} {m : Str → Option Value} {v1 v2 v3 v4 v5 v6 v7 v8 : Option Value} {K : List (Addr × Obj)} {env : Env} {x : Str} {px : Pos} {v : Value} {Q : Unit → Shared → Prop}
    (S : LS g L s.heap m v1 v2 v3 v4 v5 v6 v7 v8 K) (hx : env.kindOf x = some .local) (hL : env.locals = L) (hp : (env.scope.kind == .class || (env.scope.kind == .module && env.locals != env.globals)) = false)
    (h : ∀ h' tk', LS g L h' (fun y => if y = x then some v else m y) v1 v2 v3 v4 v5 v6 v7 v8 K → Q () { s with heap := h', toks := tk' }) : wpAny M A (assign (.Name x px) env v) Q E s := by
  subst hL
  obtain ⟨F, ⟨c1, c2, c3, c4, c5, c6, c7, c8, N, e1, e2, e3, e4, e5, e6, e7, e8⟩, off⟩ := S
  refine wpAny_assign_Name (wpAny_storeName_local hx F.ns (fun h₂ hn₂ hs₂ => ?_) hp)
  exact h h₂ _ ⟨F.set hn₂ hs₂, ⟨c1, c2, c3, c4, c5, c6, c7, c8, fun p hp => ⟨hs₂.extBut _ _ (N p hp).2.1 (N p hp).1, (N p hp).2⟩, e1, e2, e3, e4, e5, e6, e7, e8⟩, off⟩
theorem slice_any {prog : Program} {w : World} {A : Around} {E : Value → Shared → Prop} {s : Shared} {h₀ : Heap} {L l : Addr} {m : Str → Option Value} {news : List (Addr × Obj)} {value slice : PySem.Expr} {its : Array Value} {vl vu : Value} {lo hi : Option Int} {Q : Value → Shared → Prop}
    (F : Fr h₀ L s.heap m) (N : News h₀ L s.heap news) (hl : s.heap.IsList l its) (pl : IsPart vl lo) (pu : IsPart vu hi)
    (h : ∀ D h', Fr h₀ L h' m → News h₀ L h' ((D, W.listOf (slicePick its lo hi none) 0) :: news) → s.heap.StaysIn h' → @LT.lt Nat _ s.heap.objs.size D → Q (.ref D) { s with heap := h' })
    (hs : subscripted slice false (.ref l) (.ref s.heap.objs.size) = operate [.ref s.heap.objs.size, .ref l] (getItem (.ref l) (.ref s.heap.objs.size))) (hz : its.size ≤ sizeLine) :
    wpAny (model prog w) A (subscriptTail value slice (.ref l) (.ref s.heap.objs.size)) Q E { s with heap := s.heap.push { cls := .type "slice", data := .fields #[vl, vu, .none] } } := by
  refine tail_any (Heap.IsList.typeIs (s := { s with heap := s.heap.push { cls := .type "slice", data := .fields #[vl, vu, .none] } }) (hl.push _)) list_getitem_lookup
    (wpAny_getItem_list_slice (hl.push _) (Heap.IsSliceOf.new ..) pl pu .none (by simp) ?_ hz) hs
  have N1 := News.push (F.push { cls := .type "slice", data := .fields #[vl, vu, .none] }) (N.grown fun _ _ e => Heap.get?_push_of_some _ e) { cls := .type "list", data := .seq (slicePick its lo hi none) }
  refine h _ _ ((F.push _).push _) N1 (fun b o e => Heap.get?_push_of_some _ (Heap.get?_push_of_some _ e)) ?_
  show @LT.lt Nat _ s.heap.objs.size (s.heap.push _).objs.size
  rw [Heap.size_push]
  exact Nat.lt_succ_self _
theorem texts_small (r : List Int) : ∀ t ∈ [t1L, t2L, t3L].map (runL r), ∀ c ∈ t, c < 1114112 := by
  intro t ht
  obtain ⟨t0, h0, rfl⟩ := List.mem_map.mp ht
  refine run_small r t0 ?_
  simp only [List.mem_cons, List.not_mem_nil, or_false] at h0
  rcases h0 with rfl | rfl | rfl
  · unfold t1L; decide
  · unfold t2L; decide
  · unfold t3L; decide
theorem four_small (r : List Int) {dl : List Nat} (hok : ∀ c ∈ dl, okC c) : ∀ t ∈ ([t1L, t2L, t3L] ++ [dl]).map (runL r), ∀ c ∈ t, c < 1114112 := by
  intro t ht
  rw [List.map_append] at ht
  rcases List.mem_append.mp ht with ht | ht
  · exact texts_small r t ht
  · rw [List.map_cons, List.map_nil, List.mem_singleton] at ht
    subst ht
    exact run_small r dl fun c hc => ok_small (hok c hc)
theorem pick3 (us : List Value) : slicePick us.toArray none (some 3) none = (us.take 3).toArray := by
  have e : sliceBounds none (some 3) none us.toArray.size = (((0 : Nat) : Int), ((min 3 us.toArray.size : Nat) : Int), 1) := by
    simp only [sliceBounds, Option.getD_none, show (1 : Int) > 0 by decide, if_true, if_neg (show ¬ ((3 : Int) < 0) by decide)]
    congr 1
    congr 1
    omega
  rw [kmk_pick_nat _ e]
  show ((us.drop 0).take (min 3 us.toArray.size - 0)).toArray = _
  rw [List.drop_zero, Nat.sub_zero, List.size_toArray, kmk_take_min]
theorem dall_take {K : List (Addr × Obj)} : ∀ {us : List Value} {ds : List Dat}, DatAll K us ds → ∀ n, DatAll K (us.take n) (ds.take n)
  | _, _, .nil, n => by rw [List.take_nil, List.take_nil]; exact .nil
  | _, _, .cons h1 h2, n => by
    cases n with
    | zero => exact .nil
    | succ n => exact .cons h1 (dall_take h2 n)
theorem left_take {K : List (Addr × Obj)} {li : Addr} {a b c d : List Nat} {f : List Nat → List Nat} (h : DatIn K (.ref li) (strsD (([a, b, c] ++ [d]).map f))) :
    ∃ us n, (li, W.listOf (List.toArray us) n) ∈ K ∧ us.length = 4 ∧ ∀ (D : Addr) K', (D, W.listOf (us.take 3).toArray 0) ∈ K' → (∀ p ∈ K, p ∈ K') → DatIn K' (.ref D) (strsD ([a, b, c].map f)) := by
  unfold strsD at h
  cases h with
  | list hm hd => exact ⟨_, _, hm, by rw [hd.length]; rfl, fun D K' hD hK => DatIn.list hD ((dall_take hd 3).mono hK)⟩
theorem left_item {K : List (Addr × Obj)} {us : List Value} {rows : List (List Int)} {T : List (List Nat)} {f : List Int → List Nat → List Nat} (h : DatAll K us (rows.map fun r => strsD (T.map (f r)))) {i : Nat} {r : List Int} (hr : rows[i]? = some r) :
    ∃ l, us[i]? = some (.ref l) ∧ DatIn K (.ref l) (strsD (T.map (f r))) := by
  have hi : i < rows.length := by
    apply Classical.byContradiction; intro q
    rw [List.getElem?_eq_none (by omega)] at hr; cases hr
  obtain ⟨d, v, hv, hd, hD⟩ := item_of h (i := i) (by rw [List.length_map]; exact hi)
  rw [List.getElem?_map, hr] at hd
  cases hd
  obtain ⟨l, rfl⟩ : ∃ l, v = .ref l := by unfold strsD at hD; cases hD; exact ⟨_, rfl⟩
  exact ⟨l, hv, hD⟩
theorem mark_item {K : List (Addr × Obj)} {us : List Value} {rows : List (List Int)} (h : DatAll K us (rows.map markD)) {i : Nat} {r : List Int} (hr : rows[i]? = some r) : ∃ l, us[i]? = some (.ref l) ∧ DatIn K (.ref l) (markD r) := by
  have hi : i < rows.length := by
    apply Classical.byContradiction; intro q
    rw [List.getElem?_eq_none (by omega)] at hr; cases hr
  obtain ⟨d, v, hv, hd, hD⟩ := item_of h (i := i) (by rw [List.length_map]; exact hi)
  rw [List.getElem?_map, hr] at hd
  cases hd
  obtain ⟨l, rfl⟩ : ∃ l, v = .ref l := by
    unfold markD at hD
    cases hD; exact ⟨_, rfl⟩
  exact ⟨l, hv, hD⟩
/-- all that two rows, i and j, have on the heap -/
inductive Duo (K : List (Addr × Obj)) (rows : List (List Int)) (uL uM : List Value) (dl : List Nat) (i j : Nat) : Prop where
  | mk (ri rj : List Int) (li lj ki kj : Addr) (ui uj : List Value) (ni nj : Nat) (hri : rows[i]? = some ri) (hrj : rows[j]? = some rj)
    (hli : uL[i]? = some (.ref li)) (dli : DatIn K (.ref li) (strsD (([t1L, t2L, t3L] ++ [dl]).map (runL ri)))) (hlj : uL[j]? = some (.ref lj)) (dlj : DatIn K (.ref lj) (strsD (([t1L, t2L, t3L] ++ [dl]).map (runL rj))))
    (mi : (li, W.listOf (List.toArray ui) ni) ∈ K) (zi : ui.length = 4) (ti : ∀ (D : Addr) K', (D, W.listOf (ui.take 3).toArray 0) ∈ K' → (∀ p ∈ K, p ∈ K') → DatIn K' (.ref D) (strsD ([t1L, t2L, t3L].map (runL ri))))
    (mj : (lj, W.listOf (List.toArray uj) nj) ∈ K) (zj : uj.length = 4) (tj : ∀ (D : Addr) K', (D, W.listOf (uj.take 3).toArray 0) ∈ K' → (∀ p ∈ K, p ∈ K') → DatIn K' (.ref D) (strsD ([t1L, t2L, t3L].map (runL rj))))
    (hki : uM[i]? = some (.ref ki)) (dki : DatIn K (.ref ki) (markD ri)) (hkj : uM[j]? = some (.ref kj)) (dkj : DatIn K (.ref kj) (markD rj)) : Duo K rows uL uM dl i j
theorem duo_of {K : List (Addr × Obj)} {rows : List (List Int)} {uL uM : List Value} {dl : List Nat} {i j : Nat} (iL : DatAll K uL (rows.map fun r => strsD (([t1L, t2L, t3L] ++ [dl]).map (runL r)))) (iM : DatAll K uM (rows.map markD)) (hi : i < rows.length) (hj : j < rows.length) : Duo K rows uL uM dl i j := by
  obtain ⟨li, hli, dli⟩ := left_item iL (List.getElem?_eq_getElem hi)
  obtain ⟨lj, hlj, dlj⟩ := left_item iL (List.getElem?_eq_getElem hj)
  obtain ⟨ui, ni, mi, zi, ti⟩ := left_take dli
  obtain ⟨uj, nj, mj, zj, tj⟩ := left_take dlj
  obtain ⟨ki, hki, dki⟩ := mark_item iM (List.getElem?_eq_getElem hi)
  obtain ⟨kj, hkj, dkj⟩ := mark_item iM (List.getElem?_eq_getElem hj)
  exact ⟨_, _, li, lj, ki, kj, ui, uj, ni, nj, List.getElem?_eq_getElem hi, List.getElem?_eq_getElem hj, hli, dli, hlj, dlj, mi, zi, ti, mj, zj, tj, hki, dki, hkj, dkj⟩
theorem al_facts {ri rj : List Int} (h1 : ∀ n ∈ ri, 0 ≤ n ∧ n ≤ 6) (h2 : ∀ n ∈ rj, 0 ≤ n ∧ n ≤ 6) {dl : List Nat} (hok : ∀ c ∈ dl, okC c) {al : Bool} (hal : decide ([t1L, t2L, t3L].map (runL ri) = [t1L, t2L, t3L].map (runL rj)) = al) :
    ((markD ri = markD rj → al = true) ∧ (markD ri ≠ markD rj → al = false)) ∧ (markD ri = markD rj → ([t1L, t2L, t3L] ++ [dl]).map (runL ri) = ([t1L, t2L, t3L] ++ [dl]).map (runL rj)) := by
  have e3d := three_decide h1 h2
  refine ⟨?_, fun hq => ?_⟩
  · rw [← hal]
    refine ⟨fun hq => ?_, fun hq => ?_⟩
    · obtain ⟨q1, q2, q3⟩ := e3d.mpr hq
      rw [dec_t _ (by simp only [List.map_cons, List.map_nil]; rw [q1, q2, q3])]
    · rw [dec_f _ fun q => hq (e3d.mp (by simpa using q))]
  · obtain ⟨q1, q2, q3⟩ := e3d.mpr hq
    have q4 := same_run ((mark_same ri rj).mp hq) h1 h2 dl hok
    simp only [List.cons_append, List.nil_append, List.map_cons, List.map_nil]
    rw [q1, q2, q3, q4]
set_option maxHeartbeats 8000000 in
theorem law_seg7 {w : World} {p : Program} {loose : List Str} {mean : ExcName → Option Value} {mg mb : Str → Option Value} {dp un : Nat} {gd : Option (List Code)} {outer : List Env} {A₀ : Around} {base g : Heap} {sc : Addr} {vs : List Value} {ns : List Int}
    (C : LC w p loose mean mg mb dp un outer A₀ base g sc vs ns) {L fa : Addr} {cdv : Value} {Q : Flow → Shared → Prop} {s : Shared} {h : Heap} {tk : Nat} {v1 v2 v4 v5 v6 v7 v8 : Option Value} {K : List (Addr × Obj)} {m : Str → Option Value} {Dr Dl Dm : Addr} {rows : List (List Int)} {dl : List Nat}
    (S₀ : LS g L h m v1 v2 (some (.ref Dr)) v4 v5 v6 v7 v8 K) (hml : m (Str.ofString "left") = some (.ref Dl)) (hmm : m (Str.ofString "marks") = some (.ref Dm))
    (dR : DatIn K (.ref Dr) (.list (rows.map intsD))) (dL : DatIn K (.ref Dl) (leftD rows ([t1L, t2L, t3L] ++ [dl]) runL)) (dM : DatIn K (.ref Dm) (.list (rows.map markD)))
    (hr7 : ∀ r ∈ rows, ∀ n ∈ r, 0 ≤ n ∧ n ≤ 6) (hrl : rows.length = 6) (hok : ∀ c ∈ dl, okC c)
    (next : ∀ (h' : Heap) tk' m' v6', LS g L h' m' v1 v2 (some (.ref Dr)) v4 v5 v6' v7 v8 K → Hold (Goes w dp un gd outer L fa cdv 12 Q { s with heap := h', toks := tk' })) :
    Goes w dp un gd outer L fa cdv 11 Q { s with heap := h, toks := tk } := by
  have kf : hd.heap_39 = hd.heap_39 ∧ Challenge.rw_pg0133_01 = Challenge.rw_pg0133_01 := by k_fill; exact ⟨rfl, rfl⟩
  obtain ⟨B, X, T, hdp, hun, hp, hI, hn⟩ := C
  unfold Goes lawScope lawBody lawPack mkPack
  dsimp only [List.drop]
  obtain ⟨uR, nR, mR, iR⟩ := list_of_dat dR
  obtain ⟨uL, nL, mL, iL⟩ := list_of_dat (l := rows.map fun r => strsD (([t1L, t2L, t3L] ++ [dl]).map (runL r))) dL
  obtain ⟨uM, nM, mM, iM⟩ := list_of_dat dM
  have lenR : uR.length = 6 := by rw [iR.length, List.length_map, hrl]
  refine wpAny_execs_cons ?_
  refine wpAny_For ?_
  obtain ⟨F, ⟨c1, c2, c3, c4, c5, c6, c7, c8, N, e1, e2, e3, e4, e5, e6, e7, e8⟩, hoff⟩ := S₀
  have hlR : h.IsList Dr uR.toArray := N.isList (List.mem_append_right _ mR)
  simp only [cl8, List.cons_append, List.nil_append] at N
  iterate 9 walk1
  refine spliced_none ?_
  refine kd_len N (List.mem_append_right (cl8 L c1 c2 c3 c4 c5 c6 c7 c8) mR) iR (by rw [List.length_map, hrl]; omega) ?_
  rw [List.length_map, hrl]
  refine spliced_none ?_
  refine range1_rows (by k_asm) (by k_asm) ?_
  intro h5 tk5 ta tb tc hR F5 N5 _
  have hR' : IsRange h5 _ 0 ((6 : Nat) : Int) 1 _ _ _ := hR
  refine for_ls (g := g) (L := L) (K := K) rfl hR' (by decide) (fun _ m' _ => m' (Str.ofString "left") = some (.ref Dl) ∧ m' (Str.ofString "marks") = some (.ref Dm)) ⟨F5, ⟨c1, c2, c3, c4, c5, c6, c7, c8, N5, e1, e2, e3, e4, e5, e6, e7, e8⟩, hoff⟩ ⟨hml, hmm⟩ ?_ ?_
  · rintro i t h1 tk1 m1 v6' ob hi ⟨hl1, hm1⟩ S₂
    clear N5 F5 hoff hR hR' N F e1 e2 e3 e4 e5 e6 e7 e8 c1 c2 c3 c4 c5 c6 c7 c8 hlR
    obtain ⟨F, ⟨c1, c2, c3, c4, c5, c6, c7, c8, N, e1, e2, e3, e4, e5, e6, e7, e8⟩, off⟩ := S₂
    refine wpAny_assign_Name (st_cell (L := L) F N (by rfl) (by rfl) (by rfl) (o := c6) mem_c6 e6 _ (set_c6 off) ?_)
    clear F N e6 c6
    intro h2 c6 F N e6
    dsimp only
    refine cutP ?_
    intro R hR0
    refine wpAny_execs_cons ?_
    refine wpAny_For ?_
    simp only [cl8, List.cons_append, List.nil_append] at N
    iterate 6 walk1
    refine range1_rows (by k_asm) (by k_asm) ?_
    intro h5 tk5 ta tb tc hR F5 N5 _
    refine for_ls (g := g) (L := L) (K := ob :: K) rfl hR (by omega) (fun _ m' v6' => (m' (Str.ofString "left") = some (.ref Dl) ∧ m' (Str.ofString "marks") = some (.ref Dm)) ∧ v6' = some (.int (i : Nat) t)) ⟨F5, ⟨c1, c2, c3, c4, c5, c6, c7, c8, N5, e1, e2, e3, e4, e5, e6, e7, e8⟩, off⟩ ⟨⟨hl1, hm1⟩, rfl⟩ ?_ ?_
    · rintro j t2 h3 tk3 m2 v6'' ob2 hj ⟨⟨hl2, hm2⟩, rfl⟩ S₃
      clear F5 N5 F N e1 e2 e3 e4 e5 e6 e7 e8 c1 c2 c3 c4 c5 c6 c7 c8 off
      refine ls_assign (s := { s with heap := h3, toks := tk3 }) S₃ ?_ ?_ ?_ ?_
      · rfl
      · rfl
      · rfl
      intro h4 tk4 S₄
      clear S₃
      dsimp only
      refine cutP ?_
      intro R1 hR1
      obtain ⟨ri, rj, li, lj, ki, kj, ui, uj, ni, nj, hri, hrj, hli, dli, hlj, dlj, mi, zi, ti, mj, zj, tj, hki, dki, hkj, dkj⟩ := duo_of iL iM (i := i) (j := j) (by omega) (by omega)
      obtain ⟨F, ⟨c1, c2, c3, c4, c5, c6, c7, c8, N, e1, e2, e3, e4, e5, e6, e7, e8⟩, off⟩ := S₄
      have F2 := fr_put (fr_put F hl2 (by decide)) (k := Str.ofString "marks") (by rw [if_neg (by decide)]; exact hm2) (by decide)
      have M0 : ∀ p ∈ K, p ∈ cl8 L c1 c2 c3 c4 c5 c6 c7 c8 ++ (ob2 :: ob :: K) := fun p hp => List.mem_append_right _ (.tail _ (.tail _ hp))
      have m6 : (L + 1 + 1 + 1 + 1 + 1 + 1, c6) ∈ cl8 L c1 c2 c3 c4 c5 c6 c7 c8 ++ (ob2 :: ob :: K) := mem_c6
      generalize hJ : cl8 L c1 c2 c3 c4 c5 c6 c7 c8 ++ (ob2 :: ob :: K) = J at N M0 m6
      replace N := news_one N m6
      replace M0 := mem_more (a := (L + 1 + 1 + 1 + 1 + 1 + 1, c6)) M0
      clear m6
      refine wpAny_execs_cons ?_
      iterate 6 walk1
      refine any_item (News.isList N (M0 _ mL)) hli (by omega) (by with_unfolding_all rfl) ?_
      iterate 5 walk1
      refine slice_any (s := { s with heap := h4, toks := _ }) F2 N (News.isList N (M0 _ mi)) IsPart.none (IsPart.int _ _) ?_ (by with_unfolding_all rfl) (by rw [List.size_toArray, sizeLine_eq]; omega)
      intro D1 h5 F5 N5 l5
      rw [pick3] at N5
      iterate 5 walk1
      refine any_item (News.isList N5 (.tail _ (M0 _ mL))) hlj (by omega) (by with_unfolding_all rfl) ?_
      iterate 5 walk1
      refine slice_any (s := { s with heap := h5, toks := _ }) F5 N5 (News.isList N5 (.tail _ (M0 _ mj))) IsPart.none (IsPart.int _ _) ?_ (by with_unfolding_all rfl) (by rw [List.size_toArray, sizeLine_eq]; omega)
      intro D2 h6 F6 N6 st6 _
      rw [pick3] at N6
      have Z1 := ti D1 ((D2, W.listOf (uj.take 3).toArray 0) :: (D1, W.listOf (ui.take 3).toArray 0) :: ((L + 1 + 1 + 1 + 1 + 1 + 1, c6) :: J)) (.tail _ (.head _)) (fun p hp => .tail _ (.tail _ (M0 p hp)))
      have Z2 := tj D2 ((D2, W.listOf (uj.take 3).toArray 0) :: (D1, W.listOf (ui.take 3).toArray 0) :: ((L + 1 + 1 + 1 + 1 + 1 + 1, c6) :: J)) (.head _) (fun p hp => .tail _ (.tail _ (M0 p hp)))
      refine strs_eq N6 Z1 (fun _ hp => hp) Z2 (fun _ hp => hp) (texts_small ri) (texts_small rj) (by show un + 64 < cLine; omega) ?_
      generalize hal : decide ([t1L, t2L, t3L].map (runL ri) = [t1L, t2L, t3L].map (runL rj)) = al
      iterate 1 walk1
      rename_i h7 F7 N7
      (try clear F6)
      (try clear N6)
      (try clear F5)
      (try clear N5)
      (try clear F2)
      (try clear F)
      (try clear st6)
      obtain ⟨hal2, same4⟩ := al_facts (hr7 ri (List.mem_of_getElem? hri)) (hr7 rj (List.mem_of_getElem? hrj)) hok hal
      clear hal
      refine wpAny_execs_cons (wpAny_If ?_)
      refine wpAny_mono (Q := fun b s' => b = false ∧ ∃ tk', s' = { s with heap := h7, toks := tk' }) ?_ ?_ (fun _ _ e => e)
      · refine isTrue_or ?_
        iterate 6 walk1
        refine any_item (News.isList N7 (.tail _ (.tail _ (M0 _ mM)))) hki (by omega) (by with_unfolding_all rfl) ?_
        iterate 3 walk1
        refine any_item (News.isList N7 (.tail _ (.tail _ (M0 _ mM)))) hkj (by omega) (by with_unfolding_all rfl) ?_
        refine mark_eq N7 dki (fun p hp => .tail _ (.tail _ (M0 p hp))) dkj (fun p hp => .tail _ (.tail _ (M0 p hp))) (by show un + 64 < cLine; omega) ?_ ?_
        · intro hq
          rw [hal2.1 hq] at F7 ⊢
          refine ne_bool (wpAny_truthy_bool ?_)
          rw [if_neg (by decide)]
          refine isTrue_or ?_
          refine isTrue_and ?_
          iterate 2 walk1
          refine wpAny_truthy_bool ?_
          rw [if_pos rfl]
          refine isTrue_and ?_
          iterate 4 walk1
          refine any_item (News.isList N7 (.tail _ (.tail _ (M0 _ mL)))) hli (by omega) (by with_unfolding_all rfl) ?_
          iterate 3 walk1
          refine any_item (News.isList N7 (.tail _ (.tail _ (M0 _ mL)))) hlj (by omega) (by with_unfolding_all rfl) ?_
          refine strs_ne N7 dli (fun p hp => .tail _ (.tail _ (M0 p hp))) dlj (fun p hp => .tail _ (.tail _ (M0 p hp))) (four_small ri hok) (four_small rj hok) (by show un + 64 < cLine; omega) ?_ (fun hne => absurd (same4 hq) hne)
          intro _
          refine wpAny_truthy_bool ?_
          rw [if_neg Bool.false_ne_true, if_neg Bool.false_ne_true]
          refine isTrue_or_nil ?_
          exact ⟨rfl, _, rfl⟩
        · intro hq
          rw [hal2.2 hq] at F7 ⊢
          refine ne_bool (wpAny_truthy_bool ?_)
          rw [if_neg (by decide)]
          refine isTrue_or ?_
          refine isTrue_and ?_
          iterate 2 walk1
          refine wpAny_truthy_bool ?_
          rw [if_neg Bool.false_ne_true, if_neg Bool.false_ne_true]
          refine isTrue_or_nil ?_
          exact ⟨rfl, _, rfl⟩
      · rintro b _ ⟨rfl, tk', rfl⟩
        rw [if_neg Bool.false_ne_true]
        refine wpAny_execs_nil (wpAny_execs_nil (hR1 _ _ ?_))
        subst hJ
        exact ⟨h7, tk', _, _, rfl, ⟨F7, ⟨c1, c2, c3, c4, c5, c6, c7, c8, news_sub N7 (fun p hp => .tail _ (.tail _ (.tail _ hp))), e1, e2, e3, e4, e5, e6, e7, e8⟩, off⟩, ⟨rfl, rfl⟩, rfl⟩
    · rintro h3 tk3 m2 v6'' ⟨⟨hl2, hm2⟩, rfl⟩ S₃
      refine wpAny_execs_nil (hR0 _ _ ?_)
      exact ⟨h3, tk3, m2, _, rfl, S₃, hl2, hm2⟩
  · rintro h1 tk1 m1 v6' _ S₂
    obtain ⟨q⟩ := next h1 tk1 m1 v6' S₂
    show wpAny _ _ (execs _ _) _ _ _
    assumption
end TLz
theorem resetLa : True := by
  w_top off
  first | (walk1; done) | trivial
section TLa
noncomputable def oneL : Nat → List Int
  | 0 => []
  | 1 => [3, 5]
  | _ => [5, 6, 3, 5]
noncomputable def twoL : Nat → List Int
  | 0 => [2]
  | 1 => [5, 3]
  | _ => [5, 6, 5, 3]
/-- the texts, by their numbers -/
noncomputable def txtN (j : Nat) : List Nat := [t1L, t2L, t3L].getD j []
/-- the rows of the third choice part on this text -/
noncomputable def partP (k : Nat) : Value → Bool
  | .int n _ => decide (runL (oneL k) (txtN n.toNat) ≠ runL (twoL k) (txtN n.toNat))
  | _ => false
theorem oneL_len (k : Nat) : (oneL k).length ≤ 5 := by unfold oneL; split <;> decide
theorem twoL_len (k : Nat) : (twoL k).length ≤ 5 := by unfold twoL; split <;> decide
theorem txtN_len (j : Nat) : (txtN j).length ≤ 16 := by
  unfold txtN
  match j with
  | 0 => decide
  | 1 => decide
  | 2 => decide
  | j + 3 => simp
theorem parts_at : ∀ k, k < 3 → ∀ j, j < 3 → (decide (runL (oneL k) (txtN j) ≠ runL (twoL k) (txtN j)) = decide (j = k)) := by
  intro k hk j hj
  rcases (show k = 0 ∨ k = 1 ∨ k = 2 by omega) with rfl | rfl | rfl <;> rcases (show j = 0 ∨ j = 1 ∨ j = 2 by omega) with rfl | rfl | rfl <;> decide +kernel
theorem parts_one {k : Nat} {us : List Value} {ys : Array Value} (hlen : us.length = 3) (hP : ∀ (j : Nat) v, us[j]? = some v → j < 3 ∧ ∃ t, v = .int (0 + (j : Int) * 1) t) (hPF : Paired (fun v y => y = v) (us.filter (partP k)) ys.toList) (hk : k < 3) : ∃ t, ys = #[.int (k : Nat) t] := by
  obtain ⟨a, b, c, rfl⟩ : ∃ a b c, us = [a, b, c] := by
    rcases us with _ | ⟨a, _ | ⟨b, _ | ⟨c, _ | ⟨d, us⟩⟩⟩⟩
    · cases hlen
    · cases hlen
    · cases hlen
    · exact ⟨a, b, c, rfl⟩
    · exact absurd hlen (Nat.ne_of_gt (Nat.lt_of_lt_of_le (Nat.lt_succ_self 3) (Nat.le_add_left 4 _)))
  · obtain ⟨_, t0, rfl⟩ := hP 0 a rfl
    obtain ⟨_, t1, rfl⟩ := hP 1 b rfl
    obtain ⟨_, t2, rfl⟩ := hP 2 c rfl
    have p0 : ∀ (j : Nat) (t : Tok), j < 3 → partP k (.int (0 + (j : Int) * 1) t) = decide (j = k) := fun j t hj => by
      have e0 : (0 : Int) + (j : Int) * 1 = ((j : Nat) : Int) := by omega
      rw [e0]
      show decide (runL (oneL k) (txtN (Int.toNat (j : Int))) ≠ runL (twoL k) (txtN (Int.toNat (j : Int)))) = _
      rw [Int.toNat_natCast]
      exact parts_at k hk j hj
    have e := paired_eq hPF
    rw [List.filter_cons, List.filter_cons, List.filter_cons, p0 0 t0 (by decide), p0 1 t1 (by decide), p0 2 t2 (by decide)] at e
    rcases (show k = 0 ∨ k = 1 ∨ k = 2 by omega) with rfl | rfl | rfl
    · exact ⟨t0, by rw [← Array.toArray_toList (xs := ys), e]; rfl⟩
    · exact ⟨t1, by rw [← Array.toArray_toList (xs := ys), e]; rfl⟩
    · exact ⟨t2, by rw [← Array.toArray_toList (xs := ys), e]; rfl⟩
/-- the pair that statement 13 takes -/
inductive Pick (g : Heap) (L : Nat) (tot : Int) (ds : List Value) (h : Heap) : Prop where
  | mk (k : Nat) (ta a b : Addr) (ua ub : List Value) (hk3 : k < 3) (hk : tot.fmod 3 = (k : Nat)) (hti : ds[k]? = some (.ref ta)) (hta : h.get? ta = some { cls := .type "tuple", data := .seq #[.ref a, .ref b] }) (hga : g.get? a = none) (hgb : g.get? b = none)
    (ha : h.get? a = some (W.listOf ua.toArray 0)) (ia : IntsAre ua (oneL k)) (hb : h.get? b = some (W.listOf ub.toArray 0)) (ib : IntsAre ub (twoL k)) (oa : @LT.lt Nat _ (L + 8) a) (ob : @LT.lt Nat _ (L + 8) b) : Pick g L tot ds h
set_option maxHeartbeats 8000000 in
theorem law_seg8 {w : World} {p : Program} {loose : List Str} {mean : ExcName → Option Value} {mg mb : Str → Option Value} {dp un : Nat} {gd : Option (List Code)} {outer : List Env} {A₀ : Around} {base g : Heap} {sc : Addr} {vs : List Value} {ns : List Int}
    (C : LC w p loose mean mg mb dp un outer A₀ base g sc vs ns) {L fa : Addr} {cdv : Value} {Q : Flow → Shared → Prop} {s : Shared} {h : Heap} {tk : Nat} {v1 v3 v5 v6 v7 v8 : Option Value} {K : List (Addr × Obj)} {m : Str → Option Value} {De : Addr} {tot : Int} {tt : Tok}
    (S₀ : LS g L h m v1 (some (.int tot tt)) v3 (some (.ref De)) v5 v6 v7 v8 K) (dE : DatIn K (.ref De) (strsD [t1L, t2L, t3L]))
    (hret : ∀ h' tk', Gr g h' → Q (.ret (.bool true)) { s with heap := h', toks := tk' }) :
    Hold (Goes w dp un gd outer L fa cdv 12 Q { s with heap := h, toks := tk }) := by
  refine Hold.mk ?_
  have kf : hd.heap_39 = hd.heap_39 ∧ Challenge.rw_pg0133_01 = Challenge.rw_pg0133_01 := by k_fill; exact ⟨rfl, rfl⟩
  obtain ⟨B, X, T, hdp, hun, hp, hI, hn⟩ := C
  unfold Goes lawScope lawBody lawPack mkPack
  dsimp only [List.drop]
  obtain ⟨uE, nE, mE, iE⟩ := strs_of_dat dE
  obtain ⟨F, ⟨c1, c2, c3, c4, c5, c6, c7, c8, N, e1, e2, e3, e4, e5, e6, e7, e8⟩, hoff⟩ := S₀
  have m2 : (L + 1 + 1, c2) ∈ cl8 L c1 c2 c3 c4 c5 c6 c7 c8 ++ K := mem_c2
  have m8 : (L + 1 + 1 + 1 + 1 + 1 + 1 + 1 + 1, c8) ∈ cl8 L c1 c2 c3 c4 c5 c6 c7 c8 ++ K := .head _
  generalize hJ : cl8 L c1 c2 c3 c4 c5 c6 c7 c8 ++ K = J at N m2 m8
  replace N := news_two N m2 m8
  refine ec ?_
  intro R hR
  iterate 71 walk1
  rename_i x1 h1 p1 x2 h2 p2 d2 h3 p3 x3 h4 p4 x4 h5 p5 d1 h6 p6 x5 h7 p7 x6 h8 p8 d0 h9 p9 li h10 F10 N10 p10
  obtain ⟨k, ta, a, b, ua, ub, hk3, hk, hti, hta, hga, hgb, ha, ia, hb, ib, oa, ob⟩ : Pick g L tot [Value.ref d2, .ref d1, .ref d0] h10 := by
    have o1 : @LT.lt Nat _ (L + 8) x1 := p1.2.1
    have m1 := Int.fmod_lt_of_pos tot (b := 3) (by decide)
    have m2 := Int.fmod_nonneg_of_pos tot (b := 3) (by decide)
    rcases (show tot.fmod 3 = 0 ∨ tot.fmod 3 = 1 ∨ tot.fmod 3 = 2 by omega) with e | e | e
    · exact ⟨0, d2, x1, x2, [], [.int 2 _], by decide, e, rfl, (N10 (d2, _) (by k_mem)).1, (N10 (x1, _) (by k_mem)).2.2, (N10 (x2, _) (by k_mem)).2.2, (N10 (x1, W.listOf #[] 0) (by k_mem)).1, .nil, (N10 (x2, _) (by k_mem)).1, .cons _ _ .nil, o1, Nat.lt_trans o1 p2.1⟩
    · exact ⟨1, d1, x3, x4, [.int 3 _, .int 5 _], [.int 5 _, .int 3 _], by decide, e, rfl, (N10 (d1, _) (by k_mem)).1, (N10 (x3, _) (by k_mem)).2.2, (N10 (x4, _) (by k_mem)).2.2, (N10 (x3, _) (by k_mem)).1, .cons _ _ (.cons _ _ .nil), (N10 (x4, _) (by k_mem)).1, .cons _ _ (.cons _ _ .nil), Nat.lt_trans o1 p4.2.2.1, Nat.lt_trans o1 p5.2.2.2.1⟩
    · exact ⟨2, d0, x5, x6, [.int 5 _, .int 6 _, .int 3 _, .int 5 _], [.int 5 _, .int 6 _, .int 5 _, .int 3 _], by decide, e, rfl, (N10 (d0, _) (by k_mem)).1, (N10 (x5, _) (by k_mem)).2.2, (N10 (x6, _) (by k_mem)).2.2, (N10 (x5, _) (by k_mem)).1, .cons _ _ (.cons _ _ (.cons _ _ (.cons _ _ .nil))), (N10 (x6, _) (by k_mem)).1, .cons _ _ (.cons _ _ (.cons _ _ (.cons _ _ .nil))), Nat.lt_trans o1 p7.2.2.2.2.2.1, Nat.lt_trans o1 p8.2.2.2.2.2.2.1⟩
  subst hJ
  rw [hk]
  refine any_item (vs := [Value.ref d2, .ref d1, .ref d0]) (N10.isList (.head _)) hti (by omega) (by with_unfolding_all rfl) ?_
  have S1 : LS g L h10 m v1 (some (.int tot tt)) v3 (some (.ref De)) v5 v6 v7 v8 ([(a, W.listOf ua.toArray 0), (b, W.listOf ub.toArray 0)] ++ K) := by
    have S0 : LS g L h10 m v1 (some (.int tot tt)) v3 (some (.ref De)) v5 v6 v7 v8 K := ⟨F10, ⟨c1, c2, c3, c4, c5, c6, c7, c8, news_sub N10 (fun _ hp => .tail _ (.tail _ (.tail _ (.tail _ (.tail _ (.tail _ (.tail _ (.tail _ (.tail _ (.tail _ (.tail _ (.tail _ hp)))))))))))), e1, e2, e3, e4, e5, e6, e7, e8⟩, hoff⟩
    refine S0.put (lo := L + 8 + 1) (Nat.lt_succ_self _) fun p hp => ?_
    simp only [List.mem_cons, List.not_mem_nil, or_false] at hp
    rcases hp with rfl | rfl
    · exact ⟨ha, oa, hga⟩
    · exact ⟨hb, ob, hgb⟩
  refine assign_Tuple_tuple (s := { s with heap := h10, toks := _ }) rfl ⟨_, hta, rfl, _, rfl⟩ (by rfl) (by rfl) ?_
  intro h11 hext
  have S2 := S1.stays (h' := h11) fun b o e => hext b o (Nat.ne_of_lt (Heap.lt_size e)) e
  clear S1 N10 F10 p1 p2 p3 p4 p5 p6 p7 p8 p9 p10 m2 m8
  have d1 : DatIn ([(a, W.listOf ua.toArray 0), (b, W.listOf ub.toArray 0)] ++ K) (.ref a) (intsD (oneL k)) := dat_ints (.head _) ia
  have mA : (a, W.listOf ua.toArray 0) ∈ [(a, W.listOf ua.toArray 0), (b, W.listOf ub.toArray 0)] ++ K := .head _
  have mB : (b, W.listOf ub.toArray 0) ∈ [(a, W.listOf ua.toArray 0), (b, W.listOf ub.toArray 0)] ++ K := .tail _ (.head _)
  have mE' : (De, W.listOf uE.toArray nE) ∈ [(a, W.listOf ua.toArray 0), (b, W.listOf ub.toArray 0)] ++ K := .tail _ (.tail _ mE)
  generalize [(a, W.listOf ua.toArray 0), (b, W.listOf ub.toArray 0)] ++ K = K2 at S2 mA mB mE' d1
  clear e1 e2 e3 e4 e5 e6 e7 e8 c1 c2 c3 c4 c5 c6 c7 c8 hoff
  obtain ⟨F, ⟨c1, c2, c3, c4, c5, c6, c7, c8, N, e1, e2, e3, e4, e5, e6, e7, e8⟩, off⟩ := S2
  refine assignInOrder_cons ?_
  show wpAny _ _ (assign (.Name _ _) _ _) _ _ _
  refine wpAny_assign_Name (st_cell (L := L) F N (by rfl) (by rfl) (by rfl) (o := c7) mem_c7 e7 _ (set_c7 off) ?_)
  clear F N e7 c7
  intro h12 c7 F N e7
  refine assignInOrder_cons ?_
  show wpAny _ _ (assign (.Name _ _) _ _) _ _ _
  refine wpAny_assign_Name (st_cell (L := L) F N (by rfl) (by rfl) (by rfl) (o := c8) mem_c8 e8 _ (set_c8 off) ?_)
  clear F N e8 c8
  intro h13 c8 F N e8
  refine assignInOrder_nil (hR _ ?_)
  clear hR R
  refine ec ?_
  intro R hR0
  clear hp hI hn hext d1
  have lenE : uE.length = 3 := by rw [strs_len iE]; rfl
  refine wpAny_Assign_ListComp_free (partP k) (fun v y => y = v) (by rfl) (by rfl) (by decide) rfl (by decide) (by decide) (by rfl) (by rfl) ?_
  simp only [cl8, List.cons_append, List.nil_append] at N
  iterate 6 walk1
  refine range1_rows (by k_asm) (by k_asm) ?_
  intro h5 tk5 ta' tb tc hR F5 N5 _
  have hR' : IsRange h5 _ 0 ((3 : Nat) : Int) 1 _ _ _ := hR
  have hsz : Builtin.Range.rangeSize 0 ((3 : Nat) : Int) 1 = ((3 : Nat) : Int) := by rw [rangeSize_nat]; omega
  refine wpAny_pyIter_range hR' (small_one (by omega) (by omega) (by omega) (by omega)) ?_
  have Wk := (Walks.range (prog := Challenge.rw_pg0133_01.row.prog) (w := w) (A := ktrTop dp un gd (Str.ofString "law") (lawScope w) L fa cdv (cellsFrom (L + 1) (lawScope w).names []) outer) rfl h5.objs.size 0 1 3).bound
  have st1 : h5.StaysIn (h5.push { cls := .type "range_iterator", data := .fields #[rawInt 0, rawInt (Builtin.Range.rangeSize 0 ((3 : Nat) : Int) 1), rawInt 1] }) := push_stays _ _
  have hL5 : @LT.lt Nat _ L h5.objs.size := by obtain ⟨o, _, _, ho, _⟩ := F5.ns; exact Heap.lt_size ho
  refine ⟨_, _, _, _, _, _, m, rfl, Wk, by rw [sizeLine_eq]; omega, ?_, ?_, ?_, (stays_fr st1 F5).ns, ⟨?_, ?_⟩, ?_⟩
  · show IsRangeIter _ _ _ _ _
    rw [hsz]
    simpa using Heap.get?_push_size _ rfl
  · intro b hb
    rw [List.mem_singleton.mp hb]
    show @LT.lt Nat _ _ (Heap.push _ _).objs.size
    rw [Heap.size_push]
    exact Nat.lt_succ_self _
  · intro hmem
    exact absurd (List.mem_singleton.mp hmem) (Nat.ne_of_lt hL5)
  · rintro C i v ⟨h3, g3, r3, t3, o3⟩ m₃ E' hC ⟨hi, t, rfl⟩ hns hm hkp htk
    have e0 : (0 : Int) + (i : Int) * 1 = ((i : Nat) : Int) := by omega
    rw [e0] at hm ⊢
    have st3 : h5.StaysIn h3 := fun b o e => hkp b o (fun q => by rw [List.mem_singleton.mp q, get_size_none] at e; cases e) (st1 b o e)
    have F3 := stays_fr st3 F5
    have N3 := stays_news st3 N5
    have M3 : ∀ p ∈ K2, p ∈ cl8 L c1 c2 c3 c4 c5 c6 c7 c8 ++ K2 := fun p hp => List.mem_append_right _ hp
    have hmem : uE[i]? = some uE[i] := List.getElem?_eq_getElem (by omega)
    obtain ⟨tE, htE⟩ := strs_at (us := []) (l := []) iE i _ hmem
    rw [htE] at hmem
    clear hkp N5 F5 N F htE
    refine wpAny_tests_one ?_
    refine wpAny_isTrue_Compare1 ?_
    iterate 4 walk1
    refine spliced_more ?_
    iterate 1 walk1
    refine spliced_more ?_
    iterate 3 walk1
    refine any_item (News.isList N3 (M3 _ mE')) hmem (by omega) (by with_unfolding_all rfl) ?_
    refine spliced_none ⟨X.keeps F3.keep, ?_⟩
    refine' tl_use (law_run w a ua (oneL k) ia _ _ (oneL_len k) (txtN_len i)) ?k1 ?k2 ?k3 ?k5 ?kf ?kk ?kd ?ku ?kp ?_
    walk_at "mine room"
    case kp => exact News.isList N3 (M3 _ mA)
    rintro _ h6 tk6 G6 ⟨t6, rfl⟩
    have F6 := Gr.fr G6 F3
    have N6 := Gr.news G6 N3
    have hns6 := gr_ns G6 hns
    show wpAny _ _ _ _ _ _
    iterate 4 walk1
    refine spliced_more ?_
    iterate 1 walk1
    refine spliced_more ?_
    iterate 3 walk1
    refine any_item (News.isList N6 (M3 _ mE')) hmem (by omega) (by with_unfolding_all rfl) ?_
    refine spliced_none ⟨X.keeps F6.keep, ?_⟩
    refine' tl_use (law_run w b ub (twoL k) ib _ _ (twoL_len k) (txtN_len i)) ?k1 ?k2 ?k3 ?k5 ?kf ?kk ?kd ?ku ?kp ?_
    walk_at "mine room"
    case kp => exact News.isList N6 (M3 _ mB)
    rintro _ h7 tk7 G7 ⟨t7, rfl⟩
    show wpAny _ _ _ _ _ _
    refine ne_str (wpAny_truthy_bool ⟨?_, h7, _, rfl, fun b o e => G7.st b o (G6.st b o e)⟩)
    show (S (runL (oneL k) (txtN i)) != S (runL (twoL k) (txtN i))) = decide (runL (oneL k) (txtN (Int.toNat (i : Int))) ≠ runL (twoL k) (txtN (Int.toNat (i : Int))))
    rw [Int.toNat_natCast, bne, beq_S]
    simp
  · rintro C i v s₃ m₃ E' hC hP hpv hns hm hkp htk
    exact wpAny_Name (wpAny_loadName_local (env := compEnvC _ _ C _) (by rfl) (by rfl) hns hm ⟨rfl, _, _, rfl, fun _ _ e => e⟩) (by decide)
  · intro D h' tk' ys us hD hlD hpl hlen hP hPF hns hkp
    obtain ⟨nD, hpl⟩ := hpl
    have st2 : ∀ (b : Nat) o, b ≠ L → h5.get? b = some o → h'.get? b = some o := fun b o hb e => hkp b o hb (fun q => by rw [List.mem_singleton.mp q, get_size_none] at e; cases e) (st1 b o e)
    have F6 : Fr g L h' (fun z => if z = Str.ofString "parts" then some (.ref D) else m z) := ⟨hns, fun b o e => st2 b o (fun q => absurd (Nat.lt_of_lt_of_le (Heap.lt_size e) F5.above) (by rw [q]; exact Nat.lt_irrefl _)) (F5.keep b o e), F5.above⟩
    obtain ⟨tk9, hys⟩ := parts_one hlen hP hPF hk3
    have N6 : News g L h' ((D, W.listOf ys nD) :: (cl8 L c1 c2 c3 c4 c5 c6 c7 c8 ++ K2)) := by
      intro p hp
      rcases List.mem_cons.mp hp with rfl | hp
      · refine ⟨hpl, ?_, ?_⟩
        · rintro rfl
          obtain ⟨o, _, _, ho, _⟩ := (stays_fr st1 F5).ns
          rw [hD] at ho; cases ho
        · cases e : g.get? D with
          | none => rfl
          | some o => have := st1 _ _ (F5.keep _ _ e); rw [hD] at this; cases this
      · exact ⟨st2 _ _ (N5 p hp).2.1 (N5 p hp).1, (N5 p hp).2⟩
    clear hkp hns hD hlD N5 F5 N F st1 st2 hPF hP Wk
    simp only [cl8, List.cons_append, List.nil_append] at N6
    refine hR0 _ ?_
    refine wpAny_execs_cons (wpAny_Return_some ?_)
    iterate 8 walk1
    refine spliced_none ?_
    refine newList_K F6 N6 ?_
    intro l h8 F8 N8 _
    subst hys
    rw [hk] at N8
    refine kqd_eq (L := L) (ds := [.int (k : Nat)]) (es := [.int (k : Nat)]) (xs := [Value.int (k : Nat) tk9]) (n₁ := []) (n₂ := []) N8 (.tail _ (.head _)) rfl rfl (.cons (.int _ _) .nil) (fun _ hp => nomatch hp) (.head _) rfl rfl (.cons (.int _ _) .nil) (fun _ hp => nomatch hp) ?_ ?_ (by show un + 64 < cLine; omega) ?_
    · intro d hd; rw [List.mem_singleton.mp hd]; rfl
    · intro d hd; rw [List.mem_singleton.mp hd]; rfl
    rw [dec_t _ rfl]
    exact hret _ _ (Gr.of_fr F8)
end TLa
theorem resetLb : True := by
  w_top off
  first | (walk1; done) | trivial
section TLb
theorem sgn_ok (n : Int) : okC (sgn n) := by
  have h1 := Int.fmod_lt_of_pos n (b := 14) (by decide)
  have h2 := Int.fmod_nonneg_of_pos n (b := 14) (by decide)
  have key : ∀ k, k < 14 → okC (sgnL.getD k 0) := by
    intro k hk
    have : ∀ c ∈ sgnL, okC c := by unfold sgnL okC; decide
    refine this _ ?_
    rw [List.getD_eq_getElem?_getD, List.getElem?_eq_getElem (by show k < 14; exact hk)]
    exact List.getElem_mem _
  exact key _ (by omega)
theorem drawn_ok (ns : List Int) : ∀ c ∈ drawnL ns, okC c := by
  intro c hc
  unfold drawnL at hc
  rcases List.mem_append.mp hc with hc | hc
  · obtain ⟨n, _, rfl⟩ := List.mem_map.mp hc
    exact sgn_ok n
  · simp only [List.mem_cons, List.not_mem_nil, or_false] at hc
    rcases hc with rfl | rfl <;> (unfold okC; decide)
theorem drawn_len (ns : List Int) : (drawnL ns).length ≤ 16 := by
  unfold drawnL
  simp
  omega
theorem four_len (tot : Int) : (fourL tot).length = 4 := by simp [fourL]
theorem three_len (tot : Int) : (threeL tot).length = 3 := by simp [threeL]
theorem four_in (tot : Int) : ∀ n ∈ fourL tot, 0 ≤ n ∧ n ≤ 6 := by
  intro n hn
  obtain ⟨j, _, rfl⟩ := List.mem_map.mp hn
  have h1 := Int.fmod_lt_of_pos ((((1909 + tot).fmod 2401).fdiv (7 ^ j))) (b := 7) (by decide)
  have h2 := Int.fmod_nonneg_of_pos ((((1909 + tot).fmod 2401).fdiv (7 ^ j))) (b := 7) (by decide)
  unfold fourI
  omega
theorem three_in (tot : Int) : ∀ n ∈ threeL tot, 0 ≤ n ∧ n ≤ 6 := by
  intro n hn
  obtain ⟨j, _, rfl⟩ := List.mem_map.mp hn
  have h1 := Int.fmod_lt_of_pos ((((290 + tot.fdiv 2401).fmod 343).fdiv (7 ^ j))) (b := 7) (by decide)
  have h2 := Int.fmod_nonneg_of_pos ((((290 + tot.fdiv 2401).fmod 343).fdiv (7 ^ j))) (b := 7) (by decide)
  unfold threeI
  omega
theorem getD_in {l : List Int} (h : ∀ n ∈ l, 0 ≤ n ∧ n ≤ 6) (k : Nat) : 0 ≤ l.getD k 0 ∧ l.getD k 0 ≤ 6 := by
  by_cases hk : k < l.length
  · rw [List.getD_eq_getElem?_getD, List.getElem?_eq_getElem hk]
    exact h _ (List.getElem_mem hk)
  · rw [List.getD_eq_getElem?_getD, List.getElem?_eq_none (by omega)]
    exact ⟨Int.le_refl _, by decide⟩
theorem swap_in {l : List Int} (h : ∀ n ∈ l, 0 ≤ n ∧ n ≤ 6) (k : Nat) : ∀ n ∈ swapL l k, 0 ≤ n ∧ n ≤ 6 := by
  intro n hn
  unfold swapL at hn
  rcases List.mem_append.mp hn with hn | hn
  · rcases List.mem_append.mp hn with hn | hn
    · exact h n (List.mem_of_mem_take hn)
    · simp only [List.mem_cons, List.not_mem_nil, or_false] at hn
      rcases hn with rfl | rfl
      · exact getD_in h _
      · exact getD_in h _
  · exact h n (List.mem_of_mem_drop hn)
theorem swap_len {l : List Int} (h : l.length = 4) (k : Nat) (hk : k < 3) : (swapL l k).length ≤ 5 := by
  unfold swapL
  simp
  omega
/-- the law's six rows -/
noncomputable def rowsL (tot : Int) : List (List Int) := [fourL tot, threeL tot, fourL tot ++ [6], swapL (fourL tot) 0, swapL (fourL tot) 1, swapL (fourL tot) 2]
theorem rows_len (tot : Int) : ∀ r ∈ rowsL tot, r.length ≤ 5 := by
  intro r hr
  unfold rowsL at hr
  simp only [List.mem_cons, List.not_mem_nil, or_false] at hr
  rcases hr with rfl | rfl | rfl | rfl | rfl | rfl
  · rw [four_len]; decide
  · rw [three_len]; decide
  · rw [List.length_append, four_len]; decide
  · exact swap_len (four_len tot) 0 (by decide)
  · exact swap_len (four_len tot) 1 (by decide)
  · exact swap_len (four_len tot) 2 (by decide)
theorem rows_in (tot : Int) : ∀ r ∈ rowsL tot, ∀ n ∈ r, 0 ≤ n ∧ n ≤ 6 := by
  intro r hr
  unfold rowsL at hr
  simp only [List.mem_cons, List.not_mem_nil, or_false] at hr
  rcases hr with rfl | rfl | rfl | rfl | rfl | rfl
  · exact four_in tot
  · exact three_in tot
  · intro n hn
    rcases List.mem_append.mp hn with hn | hn
    · exact four_in tot n hn
    · rw [List.mem_singleton.mp hn]; decide
  · exact swap_in (four_in tot) 0
  · exact swap_in (four_in tot) 1
  · exact swap_in (four_in tot) 2
theorem texts_ok (ns : List Int) : ∀ t ∈ [t1L, t2L, t3L] ++ [drawnL ns], ∀ c ∈ t, okC c := by
  intro t ht
  simp only [List.cons_append, List.nil_append, List.mem_cons, List.not_mem_nil, or_false] at ht
  rcases ht with rfl | rfl | rfl | rfl
  · unfold t1L okC; decide
  · unfold t2L okC; decide
  · unfold t3L okC; decide
  · exact drawn_ok ns
theorem texts_len (ns : List Int) : ∀ t ∈ [t1L, t2L, t3L] ++ [drawnL ns], t.length ≤ 16 := by
  intro t ht
  simp only [List.cons_append, List.nil_append, List.mem_cons, List.not_mem_nil, or_false] at ht
  rcases ht with rfl | rfl | rfl | rfl
  · decide
  · decide
  · decide
  · exact drawn_len ns
set_option maxHeartbeats 8000000 in
theorem law_all {w : World} {p : Program} {loose : List Str} {mean : ExcName → Option Value} {mg mb : Str → Option Value} {dp un : Nat} {gd : Option (List Code)} {outer : List Env} {A₀ : Around} {base g : Heap} {sc : Addr} {vs : List Value} {ns : List Int}
    (C : LC w p loose mean mg mb dp un outer A₀ base g sc vs ns) {L fa : Addr} {cdv : Value} {Q : Flow → Shared → Prop} {s : Shared} {h : Heap} {tk : Nat}
    (S₀ : LS g L h (fun y => if y = Str.ofString "script" then some (.ref sc) else none) none none none none none none none none [])
    (hret : ∀ h' tk', Gr g h' → Q (.ret (.bool true)) { s with heap := h', toks := tk' }) :
    Goes w dp un gd outer L fa cdv 0 Q { s with heap := h, toks := tk } := by
  refine law_seg1 C S₀ ?_
  intro h1 tk1 K1 a Df Dt t S1 hNA d4 d3
  refine law_seg2 C S1 d4 d3 (four_len _) (three_len _) ?_
  intro h2 tk2 K2 m2 Dr S2 hms dR
  replace hNA : ∀ H, At (K2 ++ K1) H → NamesAt w H a := fun H hH => hNA H hH.tail
  generalize K2 ++ K1 = K at S2 dR hNA
  refine law_seg3 C S2 hms ?_
  intro h3 tk3 K3 De td S3 dE
  replace hNA : ∀ H, At (K3 ++ K) H → NamesAt w H a := fun H hH => hNA H hH.tail
  replace dR := dR.mono (news' := K3 ++ K) fun _ hp => List.mem_append_right _ hp
  generalize K3 ++ K = K at S3 dR hNA dE
  refine law_seg4 (rows := rowsL ns.sum) C S3 dR dE (rows_len _) (by simp [rowsL]) rfl (texts_len ns) ?_
  intro h4 tk4 K4 Dl S4 dL
  replace hNA : ∀ H, At (K4 ++ K) H → NamesAt w H a := fun H hH => hNA H hH.tail
  replace dR := dR.mono (news' := K4 ++ K) fun _ hp => List.mem_append_right _ hp
  replace dE := dE.mono (news' := K4 ++ K) fun _ hp => List.mem_append_right _ hp
  generalize K4 ++ K = K at S4 dR hNA dE dL
  refine law_seg5 (rows := rowsL ns.sum) C S4 rfl hNA dR dE dL (rows_len _) (rows_in _) rfl rfl (texts_len ns) (texts_ok ns) ?_
  intro h5 tk5 m5 v5 S5 hm5
  refine law_seg6 (rows := rowsL ns.sum) C S5 hNA dR (rows_len _) (rows_in _) rfl ?_
  intro h6 tk6 K6 Dm S6 dM
  replace dR := dR.mono (news' := K6 ++ K) fun _ hp => List.mem_append_right _ hp
  replace dE := dE.mono (news' := K6 ++ K) fun _ hp => List.mem_append_right _ hp
  replace dL := dL.mono (news' := K6 ++ K) fun _ hp => List.mem_append_right _ hp
  generalize K6 ++ K = K at S6 dR dE dL dM
  refine law_seg7 (rows := rowsL ns.sum) C S6 (by rw [if_neg (by decide)]; exact hm5) rfl dR dL dM (rows_in _) rfl (drawn_ok ns) ?_
  intro h7 tk7 m7 v7 S7
  exact law_seg8 C S7 dE hret
end TLb
theorem resetLf : True := by
  w_top off
  first | (walk1; done) | trivial
section TLf
theorem goes_out {w : World} {dp un : Nat} {gd : Option (List Code)} {outer : List Env} {L fa : Addr} {cdv : Value} {Q : Flow → Shared → Prop} {s : Shared} {E : Value → Shared → Prop} (h : Goes w dp un gd outer L fa cdv 0 Q s) :
    wpAny (model Challenge.rw_pg0133_01.row.prog w) (ktrTop dp un gd (Str.ofString "law") (lawScope w) L fa cdv (cellsFrom (L + 1) (lawScope w).names []) outer) (execs (lawBody w) (envOfC (Str.ofString "law") (lawScope w) L fa cdv)) Q E s :=
  wpAny_mono h (fun _ _ x => x) fun _ _ e => e.elim
set_option maxHeartbeats 8000000 in
theorem law_top {w : World} {p : Program} {loose : List Str} {mean : ExcName → Option Value} {mg mb : Str → Option Value} {base g : Heap} {sc fa : Addr} {cdv : Value} {vs : List Value} {ns : List Int} {s : Shared} {h : Heap} {tk : Nat} {Q : Flow → Shared → Prop} {E : Value → Shared → Prop} {c1 c2 c3 c4 c5 c6 c7 c8 : Obj}
    (B : Below callerA base [] g) (X : (hd.heap_39 w.params).In g) (T : Top p loose mean mg mb g) (hp : g.IsList sc vs.toArray) (hI : IntsAre vs ns) (hn : ns.length ≤ 63)
    (F : Fr g g.objs.size h (fun y => if y = Str.ofString "script" then some (.ref sc) else none)) (N : News g g.objs.size h (cl8 g.objs.size c1 c2 c3 c4 c5 c6 c7 c8))
    (e1 : c1.data = .cell none) (e2 : c2.data = .cell none) (e3 : c3.data = .cell none) (e4 : c4.data = .cell none) (e5 : c5.data = .cell none) (e6 : c6.data = .cell none) (e7 : c7.data = .cell none) (e8 : c8.data = .cell none)
    (hret : ∀ h' tk', Gr g h' → Q (.ret (.bool true)) { s with heap := h', toks := tk' }) :
    wpAny (model Challenge.rw_pg0133_01.row.prog w) (callerA.deeper (envOfC (Str.ofString "law") (lawScope w) g.objs.size fa cdv)) (execs (lawBody w) (envOfC (Str.ofString "law") (lawScope w) g.objs.size fa cdv)) Q E { s with heap := h, toks := tk } :=
  goes_out (dp := callerA.depth + 1) (un := callerA.units + 3) (gd := some []) (outer := [])
    (law_all ⟨B, X, T, by decide +kernel, by decide +kernel, hp, hI, hn⟩ ⟨F, ⟨c1, c2, c3, c4, c5, c6, c7, c8, by rw [List.append_nil]; exact N, e1, e2, e3, e4, e5, e6, e7, e8⟩, fun _ hp => nomatch hp⟩ hret)
end TLf
theorem resetLg : True := by
  w_top off
  first | (walk1; done) | trivial
section TLg
set_option maxHeartbeats 8000000 in
theorem law_holds : Challenge.rw_pg0133_01.Holds := by
  refine hd ?_
  k_go0
  rename_i w s0 s1 mg mb G Y fa o pm doc ho hg KX XM V GL T BT TE TW a17 o16 M cd a14 hcd ns hs hlay0 hLa hr hl2 l12 l11 sc vs l8 hL ra w1 r0 hI hr2 hc1 hc2 K0 hD h1 tk1 F c8 c7 c6 c5 c4 c3 c2 c1 e8 e7 e6 e5 e4 e3 e2 e1 N0 X0
  refine law_top K0 KX T hL hI ?_ F N0 e1 e2 e3 e4 e5 e6 e7 e8 ?_
  · omega
  · intro h' tk' GG
    clear F N0 X0 e1 e2 e3 e4 e5 e6 e7 e8
    refine ⟨.inl ⟨.bool true, .bool true, [], rfl, ?_, .bool true, ?_, ?_⟩, GG.st, rfl, hg⟩
    · intro cls
      rfl
    · refine postW_of (X := true) (by rfl) ?_ rfl
      show WTm.value _ (WTm.eq .res (.lit (.bool true))) _ = _
      exact w_eq_bool (k := true) (l := true) (w_res rfl) w_lit
    · intro _
      exact ⟨List.nodup_nil, fun _ hp => nomatch hp⟩
end TLg
end Mine
theorem PySem.Challenge.cw_pg0133_01_holds : PySem.Challenge.rw_pg0133_01.Holds :=
  Mine.law_holds
