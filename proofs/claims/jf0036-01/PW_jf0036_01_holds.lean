import PyProof.Rows.All
import Wide.All
import OpenK.AllK
import Wide.FinOn
import PySem.Challenge.RW_jf0036_01
open PySem PySem.W PyProof.Rows PySem.Calls
set_option Elab.async false
set_option maxRecDepth 100000
set_option linter.all false
set_option rowWalk.seconds 0
namespace S36
set_option maxHeartbeats 8000000
section
noncomputable def keepOf : List Stmt → List Stmt
  | a :: _ :: b :: _ :: c :: _ :: d :: _ :: r => a :: b :: c :: d :: r
  | l => l
noncomputable def vw : Program := { PySem.Challenge.rw_jf0036_01.row.prog with main := { PySem.Challenge.rw_jf0036_01.row.prog.main with body := keepOf PySem.Challenge.rw_jf0036_01.row.prog.main.body } }
/-- The top runs from the state that the start-up is known to leave: what is left to look at is the run behind it. -/
theorem from_start {text : Program} {γ : Type} {look : Shared → γ} {want : World → Option γ} {most : Nat} {H : Params → Heap} {G : Array GenState} {D : Drawn} {n : Nat}
    (start : ∀ w : World, (fencedOpening treeTable text w most).map (fun s => (s.heap, s.gens, s.drawn, s.toks)) = some (H w.params, G, D, n))
    (behind : ∀ (w : World) (os : OsState), (topFrom treeTable text w most ⟨H w.params, G, D, n, os⟩).map look = want w) (w : World) : (openEnds treeTable text w most).map look = want w := by
  have h := start w
  unfold openEnds
  generalize fencedOpening treeTable text w most = o at h ⊢
  cases o with
  | none => cases h
  | some s =>
    cases s
    cases h
    exact behind w _
local macro_rules | `(tactic| o_head $H) => `(tactic| refine holds_open (q := vw) (loose := [Str.ofString "SERIALIZER_STATE"]) (Xt := fun s => xlAt vw [] s && recOk (RowW.records PySem.Challenge.rw_jf0036_01.row.toRowW) s) (XP := XL vw []) (Yf := Hook.obs $H) (Ya := Hook.val $H) (YP := Hook.says $H) (N := 3126)
  (from_start (boot_open (by kernel_rfl) (by kernel_rfl) (fun s => by kernel_rfl)) (fun w os => by unfold topFrom; dsimp only; rw [PySem.W.Fast.te14082659384304107361, PySem.W.Fast.te14364793385576792824, PySem.W.Fast.te4187177175401517315, PySem.W.Fast.te8920871248978507458]; kernel_rfl))
  (Hook.of $H) (Hook.keeps $H) (fun s e => xl_of s (Bool.and_eq_true_iff.mp e).1) XL.keeps (by rfl) (by rfl) (by rfl) (fun s e => recFacts_of (Bool.and_eq_true_iff.mp e).2) (by rfl) (by first | assumption | decide +kernel) (by decide +kernel) ⟨rfl, rfl, rfl, rfl, rfl, by decide +kernel⟩ ?hw ?hc)
open_top hd for PySem.Challenge.rw_jf0036_01
end
theorem calm : True := by
  w_top off
  exact True.intro
section
/-- the ledger's entries of `a` lie off those of `b` -/
def Off (a b : List (Addr × Obj)) : Prop := ∀ p ∈ a, ∀ q ∈ b, p.1 ≠ q.1

noncomputable abbrev LO : List Str := looseW vw [Str.ofString "SERIALIZER_STATE"]

/-- the end of a callee's walk -/
def Done (g : Heap) (s : Shared) (Post : Value → List (Addr × Obj) → Prop) (v : Value) (s' : Shared) : Prop :=
  ∃ h' tk L' m' post, s' = { s with heap := h', toks := tk } ∧ Fr g L' h' m' ∧ News g L' h' post ∧ (post.map (·.1)).Nodup ∧ Post v post

/-- what a call of a def of the text does to the objects that it is handed (`pre`), and to no others -/
def Meets (w : World) (l : Nat) (f : Addr) (args : Args) (pre : List (Addr × Obj)) (Post : Value → List (Addr × Obj) → Prop) : Prop :=
  ∀ (h₀ : Heap) (outer : List Env) (gu : Option (List Code)) (d u : Nat) (L : Addr) (m : Str → Option Value)
    (mean : ExcName → Option Value) (mg mb : Str → Option Value) (rest : List (Addr × Obj)) (s : Shared) (R : Result → Shared → Prop),
    Fr h₀ L s.heap m → (hd.heap_39 w.params).In h₀ → Top vw LO mean mg mb h₀ →
    d + 10 * l ≤ 500 → u + 10 * l ≤ 5000 → News h₀ L s.heap (pre ++ rest) → Off pre rest → (pre.map (·.1)).Nodup →
    (∀ h' tk v post, Fr h₀ L h' m → News h₀ L h' (post ++ rest) → Off post rest → (post.map (·.1)).Nodup → s.heap.objs.size ≤ h'.objs.size → Post v post →
      R (.ok (.ret v)) { s with heap := h', toks := tk }) →
    codeAny (model PySem.Challenge.rw_jf0036_01.row.prog w) ⟨none, d, some outer, gu, u⟩ (.call (.ref f) args) R s

theorem Meets.intro {w : World} {l : Nat} {f : Addr} {args : Args} {pre : List (Addr × Obj)} {Post : Value → List (Addr × Obj) → Prop}
    {name qual : Str} {params : Arguments} {body : List Stmt} {scope : Scope} {dV kV doc pm cdv ct oc : Value} {an od : Option Addr} {osl : Array (Option Value)} {binds : List (Str × Value)}
    (ho : (hd.heap_39 w.params).lookup f = some ⟨oc, od, .func (fnOf name qual params body scope dV kV doc pm an cdv ct), osl⟩) (hcd : codeIn (hd.heap_39 w.params) cdv qual = true)
    (hbind : ∀ s, BindsTo s (fnOf name qual params body scope dV kV doc pm an cdv ct) args binds) (hloc : ∀ y ∈ binds, scope.names.lookup y.1 = some .local)
    (hco : scope.isCoroutine = false) (hgen : scope.isGenerator = false) (hk : scope.kind = .function) (hcell : ∀ x ∈ scope.names, x.2 ≠ .cell)
    (h : ∀ (g h₁ : Heap) (envs : List Env) (gu : Option (List Code)) (d u tk : Nat) (L : Addr) (mean : ExcName → Option Value) (mg mb : Str → Option Value) (s : Shared),
      Fr g L h₁ (fun y => binds.reverse.lookup y) → News g L h₁ pre → (hd.heap_39 w.params).In g → Top vw LO mean mg mb g → d + 10 * l ≤ 501 → u + 10 * l ≤ 5003 → (∀ p ∈ pre, p.1 < L) → (pre.map (·.1)).Nodup →
      wpAny (model PySem.Challenge.rw_jf0036_01.row.prog w) ⟨none, d, some (envOf qual scope L f cdv :: envs), gu, u⟩ (execs body (envOf qual scope L f cdv))
        (fun fl s' => Done g s Post (match fl with | .ret v => v | _ => .none) s') (fun _ _ => False) { s with heap := h₁, toks := tk }) :
    Meets w l f args pre Post := by
  intro h₀ outer gu d u L m mean mg mb rest s R F X T hd hu N off nd k
  have N1 : News h₀ L s.heap pre := fun p hp => N p (List.mem_append_left _ hp)
  have nm : ∀ b o, h₀.get? b = some o → b ∉ pre.map (·.1) := fun b o e q => by
    obtain ⟨p, hp, rfl⟩ := List.mem_map.mp q
    rw [(N1 p hp).2.2] at e; cases e
  have st : h₀.StaysIn (hideAll s.heap (pre.map (·.1))) := fun b o e => hideAll_get _ (F.keep b o e) (nm b o e)
  refine codeAny_call_def (fd := fnX name qual params body scope [] dV kV doc pm an cdv ct) (body := body) (binds := binds) (Nat.lt_of_le_of_lt (Nat.le_trans (Nat.le_add_right _ _) hd) (by decide)) ((X.keeps F.keep) _ _ ho) rfl (T.nolimit.keeps F.keep) (codeRec_of (X.keeps F.keep) hcd) rfl (hbind s) hcell hloc (fun h₁ hns hk₁ => ?_) hco hgen hk
  refine wpAny_mono (h (hideAll s.heap (pre.map (·.1))) h₁ outer gu (d + 1) (u + 3) _ s.heap.objs.size mean mg mb s ⟨hns, fun b o e => hk₁ b o (of_hideAll _ e), Nat.le_of_eq (hideAll_size _ _)⟩
    (fun p hp => ⟨hk₁ _ _ (N1 p hp).1, Nat.ne_of_lt (Heap.lt_size (N1 p hp).1), hideAll_none _ (List.mem_map_of_mem hp)⟩) (X.keeps st) (T.keeps st) (by omega) (by omega) (fun p hp => Heap.lt_size (N1 p hp).1) nd) ?_ (fun _ _ y => y.elim)
  rintro fl s' ⟨h', tk, L', m', post, rfl, F', N', nd', hP⟩
  obtain ⟨oL, es, ep, hL, hLd, hLk, hLf⟩ := F.ns
  have nL : L ∉ pre.map (·.1) := fun q => by
    obtain ⟨p, hp, e⟩ := List.mem_map.mp q
    exact (N1 p hp).2.1 e
  have hLg := hideAll_get (pre.map (·.1)) hL nL
  have hrest : ∀ p ∈ rest, (hideAll s.heap (pre.map (·.1))).get? p.1 = some p.2 := fun p hp => by
    refine hideAll_get _ (N p (List.mem_append_right _ hp)).1 fun q => ?_
    obtain ⟨r, hr, e⟩ := List.mem_map.mp q
    exact off r hr p hp e
  refine k h' tk _ post ⟨⟨oL, es, ep, F'.keep L oL hLg, hLd, hLk, hLf⟩, fun b o e => F'.keep b o (st b o e), F.above⟩ (fun p hp => ?_) (fun p hp q hq e => ?_) nd' ?_ hP
  · rcases List.mem_append.mp hp with hp | hp
    · refine ⟨(N' p hp).1, fun q => ?_, ?_⟩
      · have := (N' p hp).2.2; rw [q, hLg] at this; cases this
      · cases q : h₀.get? p.1 with
        | none => rfl
        | some o => have := (N' p hp).2.2; rw [st _ _ q] at this; cases this
    · exact ⟨F'.keep _ _ (hrest p hp), (N p (List.mem_append_right _ hp)).2⟩
  · have h1 := (N' p hp).2.2
    rw [e, hrest q hq] at h1
    cases h1
  · have h1 := F'.above
    rw [hideAll_size] at h1
    exact Nat.le_of_lt (Nat.lt_of_le_of_lt h1 F'.ns.lt)

/-- a stands ahead of b in the list -/
inductive Bef (a b : Addr) : List Addr → Prop
  | head {r} : b ∈ r → Bef a b (a :: r)
  | tail {x r} : Bef a b r → Bef a b (x :: r)
theorem nd_ne {a b : Addr} {l : List Addr} (h : l.Nodup) (p : Bef a b l) : a ≠ b := by
  induction p with
  | head hm => exact fun e => (List.nodup_cons.mp h).1 (e ▸ hm)
  | tail _ ih => exact ih (List.nodup_cons.mp h).2
theorem nd_ne' {a b : Addr} {l : List Addr} (h : l.Nodup) (p : Bef b a l) : a ≠ b := (nd_ne h p).symm
def NeAll (a : Addr) : List Addr → Prop
  | [] => True
  | b :: r => a ≠ b ∧ NeAll a r
theorem nd_cons {a : Addr} {l : List Addr} (h1 : NeAll a l) (h2 : l.Nodup) : (a :: l).Nodup := by
  refine List.nodup_cons.mpr ⟨?_, h2⟩
  clear h2
  induction l with
  | nil => exact List.not_mem_nil
  | cons b r ih => exact fun hm => (List.mem_cons.mp hm).elim h1.1 (ih h1.2)

theorem news_sub {h₀ h : Heap} {L : Addr} {news post : List (Addr × Obj)} (N : News h₀ L h news) (hs : ∀ p ∈ post, p ∈ news) : News h₀ L h post := fun p hp => N p (hs p hp)
theorem Done.intro {g h' : Heap} {L' : Addr} {m' : Str → Option Value} {s : Shared} {tk : Nat} {v : Value} {news post : List (Addr × Obj)} {Post : Value → List (Addr × Obj) → Prop}
    (F : Fr g L' h' m') (N : News g L' h' news) (hP : Post v post) (hs : ∀ p ∈ post, p ∈ news) (nd : (post.map (·.1)).Nodup) : Done g s Post v { s with heap := h', toks := tk } :=
  ⟨h', tk, L', m', post, rfl, F, news_sub N hs, nd, hP⟩

/-- the end of the walk of a def that may raise and catch: the frames of its callers (`frs`) stand, up to their slots -/
def DoneX (g : Heap) (s : Shared) (frs : List (Addr × Obj)) (Post : Value → List (Addr × Obj) → Prop) (v : Value) (s' : Shared) : Prop :=
  ∃ h' tk L' m' post frs', s' = { s with heap := h', toks := tk } ∧ Fr g L' h' m' ∧ News g L' h' (post ++ frs') ∧ TI.SameUp frs frs' ∧ Off post frs' ∧ (post.map (·.1)).Nodup ∧ Post v post

/-- as Meets, of a def that may raise and catch: the frames of the caller's callers are of the caller's ledger, and their slots may turn -/
def MeetsX (w : World) (f : Addr) (args : Args) (pre : List (Addr × Obj)) (Post : Value → List (Addr × Obj) → Prop) : Prop :=
  ∀ (h₀ : Heap) (env : Env) (outer : List Env) (gu : Option (List Code)) (d u : Nat) (L : Addr) (m : Str → Option Value)
    (mean : ExcName → Option Value) (mg mb : Str → Option Value) (rest frs : List (Addr × Obj)) (s : Shared) (R : Result → Shared → Prop),
    Fr h₀ L s.heap m → (hd.heap_39 w.params).In h₀ → Top vw LO mean mg mb h₀ → env.frame = some L → env.scope.kind = .function → TI.Frs outer frs →
    d ≤ 500 → u ≤ 5000 → News h₀ L s.heap (pre ++ rest) → News h₀ L s.heap frs → Off pre rest → Off frs (pre ++ rest) → (pre.map (·.1)).Nodup →
    (∀ h' tk v post frs', Fr h₀ L h' m → News h₀ L h' (post ++ rest) → News h₀ L h' frs' → TI.SameUp frs frs' → Off post rest → Off frs' (post ++ rest) → (post.map (·.1)).Nodup → s.heap.objs.size ≤ h'.objs.size → Post v post →
      R (.ok (.ret v)) { s with heap := h', toks := tk }) →
    codeAny (model PySem.Challenge.rw_jf0036_01.row.prog w) ⟨none, d, some (env :: outer), gu, u⟩ (.call (.ref f) args) R s

theorem SameUp_addr : ∀ {a b : List (Addr × Obj)}, TI.SameUp a b → ∀ q ∈ b, ∃ p ∈ a, q.1 = p.1
  | [], [], _, _, h => nomatch h
  | p :: _, q :: _, ⟨e, _, r⟩, x, hx => by
    rcases List.mem_cons.mp hx with rfl | hx
    · exact ⟨p, .head _, e⟩
    · obtain ⟨y, hy, e'⟩ := SameUp_addr r x hx; exact ⟨y, .tail _ hy, e'⟩
  | [], _ :: _, h, _, _ => h.elim
  | _ :: _, [], h, _, _ => h.elim
theorem enterX {w : World} {f : Addr} {args : Args} {pre : List (Addr × Obj)} {Post : Value → List (Addr × Obj) → Prop}
    {name qual : Str} {params : Arguments} {body : List Stmt} {scope : Scope} {dV kV doc pm cdv ct oc : Value} {an od : Option Addr} {osl : Array (Option Value)} {binds : List (Str × Value)}
    (ho : (hd.heap_39 w.params).lookup f = some ⟨oc, od, .func (fnOf name qual params body scope dV kV doc pm an cdv ct), osl⟩) (hcd : codeIn (hd.heap_39 w.params) cdv qual = true)
    (hbind : ∀ s, BindsTo s (fnOf name qual params body scope dV kV doc pm an cdv ct) args binds) (hloc : ∀ y ∈ binds, scope.names.lookup y.1 = some .local)
    (hco : scope.isCoroutine = false) (hgen : scope.isGenerator = false) (hk : scope.kind = .function) (hcell : ∀ x ∈ scope.names, x.2 ≠ .cell)
    {h₀ : Heap} {env : Env} {outer : List Env} {gu : Option (List Code)} {d u : Nat} {L : Addr} {m : Str → Option Value}
    {mean : ExcName → Option Value} {mg mb : Str → Option Value} {rest frs : List (Addr × Obj)} {s : Shared} {R : Result → Shared → Prop}
    (F : Fr h₀ L s.heap m) (X : (hd.heap_39 w.params).In h₀) (T : Top vw LO mean mg mb h₀) (hf : env.frame = some L) (hke : env.scope.kind = .function) (Fs : TI.Frs outer frs)
    (hdp : d ≤ 500) (_hu : u ≤ 5000) (N : News h₀ L s.heap (pre ++ rest)) (Nf : News h₀ L s.heap frs) (off : Off pre rest) (offF : Off frs (pre ++ rest)) (_nd : (pre.map (·.1)).Nodup)
    (k : ∀ h' tk v post frs', Fr h₀ L h' m → News h₀ L h' (post ++ rest) → News h₀ L h' frs' → TI.SameUp frs frs' → Off post rest → Off frs' (post ++ rest) → (post.map (·.1)).Nodup → s.heap.objs.size ≤ h'.objs.size → Post v post →
      R (.ok (.ret v)) { s with heap := h', toks := tk })
    (h : ∀ (g h₁ : Heap) (oL : Obj) (tk : Nat) (L' : Addr),
      g = hideAll s.heap (pre.map (·.1) ++ L :: frs.map (·.1)) → (∀ b o, s.heap.get? b = some o → h₁.get? b = some o) → L' = s.heap.objs.size →
      Fr g L' h₁ (fun y => binds.reverse.lookup y) → News g L' h₁ (pre ++ (L, oL) :: frs) → TI.Frs (env :: outer) ((L, oL) :: frs) → Off pre ((L, oL) :: frs) → (hd.heap_39 w.params).In g → Top vw LO mean mg mb g → (∀ p ∈ pre, p.1 < L') →
      wpAny (model PySem.Challenge.rw_jf0036_01.row.prog w) (Around.deeper ⟨none, d, some (env :: outer), gu, u⟩ (envOf qual scope L' f cdv)) (execs body (envOf qual scope L' f cdv))
        (fun fl s' => DoneX g s ((L, oL) :: frs) Post (match fl with | .ret v => v | _ => .none) s') (fun _ _ => False) { s with heap := h₁, toks := tk }) :
    codeAny (model PySem.Challenge.rw_jf0036_01.row.prog w) ⟨none, d, some (env :: outer), gu, u⟩ (.call (.ref f) args) R s := by
  obtain ⟨oL, es, ep, hL, hLd, hLk, hLf⟩ := id F.ns
  have N1 : News h₀ L s.heap pre := fun p hp => N p (List.mem_append_left _ hp)
  have hL0 : h₀.get? L = none := Heap.get?_none_of_le F.above
  have nm : ∀ b o, h₀.get? b = some o → b ∉ pre.map (·.1) ++ L :: frs.map (·.1) := fun b o e q => by
    rcases List.mem_append.mp q with q | q
    · obtain ⟨p, hp, rfl⟩ := List.mem_map.mp q
      rw [(N1 p hp).2.2] at e; cases e
    · rcases List.mem_cons.mp q with rfl | q
      · rw [hL0] at e; cases e
      · obtain ⟨p, hp, rfl⟩ := List.mem_map.mp q
        rw [(Nf p hp).2.2] at e; cases e
  have st : h₀.StaysIn (hideAll s.heap (pre.map (·.1) ++ L :: frs.map (·.1))) := fun b o e => hideAll_get _ (F.keep b o e) (nm b o e)
  have hrest : ∀ p ∈ rest, (hideAll s.heap (pre.map (·.1) ++ L :: frs.map (·.1))).get? p.1 = some p.2 := fun p hp => by
    refine hideAll_get _ (N p (List.mem_append_right _ hp)).1 fun q => ?_
    rcases List.mem_append.mp q with q | q
    · obtain ⟨r, hr, e⟩ := List.mem_map.mp q
      exact off r hr p hp e
    · rcases List.mem_cons.mp q with q | q
      · exact (N p (List.mem_append_right _ hp)).2.1 q
      · obtain ⟨r, hr, e⟩ := List.mem_map.mp q
        exact offF r hr p (List.mem_append_right _ hp) e
  refine codeAny_call_def (fd := fnX name qual params body scope [] dV kV doc pm an cdv ct) (body := body) (binds := binds) (Nat.lt_of_le_of_lt hdp (by decide)) ((X.keeps F.keep) _ _ ho) rfl (T.nolimit.keeps F.keep) (codeRec_of (X.keeps F.keep) hcd) rfl (hbind s) hcell hloc (fun h₁ hns hk₁ => ?_) hco hgen hk
  refine wpAny_mono (h (hideAll s.heap (pre.map (·.1) ++ L :: frs.map (·.1))) h₁ oL _ s.heap.objs.size rfl hk₁ rfl ⟨hns, fun b o e => hk₁ b o (of_hideAll _ e), Nat.le_of_eq (hideAll_size _ _)⟩
    (fun p hp => ?_) ⟨by rw [hke]; decide, hf, ⟨es, ep, hLd⟩, Fs⟩ (fun p hp q hq e => ?_) (X.keeps st) (T.keeps st) (fun p hp => Heap.lt_size (N1 p hp).1)) ?_ (fun _ _ y => y.elim)
  · rcases List.mem_append.mp hp with hp | hp
    · exact ⟨hk₁ _ _ (N1 p hp).1, Nat.ne_of_lt (Heap.lt_size (N1 p hp).1), hideAll_none _ (List.mem_append_left _ (List.mem_map_of_mem hp))⟩
    · rcases List.mem_cons.mp hp with rfl | hp
      · exact ⟨hk₁ _ _ hL, Nat.ne_of_lt (Heap.lt_size hL), hideAll_none _ (List.mem_append_right _ (.head _))⟩
      · exact ⟨hk₁ _ _ (Nf p hp).1, Nat.ne_of_lt (Heap.lt_size (Nf p hp).1), hideAll_none _ (List.mem_append_right _ (.tail _ (List.mem_map_of_mem hp)))⟩
  · rcases List.mem_cons.mp hq with rfl | hq
    · exact (N1 p hp).2.1 e
    · exact offF q hq p (List.mem_append_left _ hp) e.symm
  rintro fl s' ⟨h', tk, L', m', post, frs', rfl, F', N', SU, offP, nd', hP⟩
  cases frs' with
  | nil => exact SU.elim
  | cons q frs' =>
    obtain ⟨q1, q2⟩ := q
    obtain ⟨e1, ⟨sl, e2⟩, SU'⟩ := SU
    have hL' : h'.get? L = some { oL with slots := sl } := by
      have h1 := (N' (q1, q2) (List.mem_append_right _ (.head _))).1
      rw [show q2 = _ from e2] at h1
      exact (show q1 = L from e1) ▸ h1
    refine k h' tk _ post frs' ⟨⟨_, es, ep, hL', hLd, hLk, hLf⟩, fun b o e => F'.keep b o (st b o e), F.above⟩ (fun p hp => ?_) (fun p hp => ?_) SU' (fun p hp q hq e => ?_) (fun p hp q hq e => ?_) nd' ?_ hP
    · rcases List.mem_append.mp hp with hp | hp
      · refine ⟨(N' p (List.mem_append_left _ hp)).1, fun e => offP p hp _ (.head _) (e.trans (show q1 = L from e1).symm), ?_⟩
        cases q : h₀.get? p.1 with
        | none => rfl
        | some o => have := (N' p (List.mem_append_left _ hp)).2.2; rw [st _ _ q] at this; cases this
      · exact ⟨F'.keep _ _ (hrest p hp), (N p (List.mem_append_right _ hp)).2⟩
    · obtain ⟨r, hr, e⟩ := SameUp_addr SU' p hp
      exact ⟨(N' p (List.mem_append_right _ (.tail _ hp))).1, e ▸ (Nf r hr).2.1, e ▸ (Nf r hr).2.2⟩
    · have h1 := (N' p (List.mem_append_left _ hp)).2.2
      rw [e, hrest q hq] at h1
      cases h1
    · rcases List.mem_append.mp hq with hq | hq
      · exact offP q hq p (.tail _ hp) e.symm
      · have h1 := (N' p (List.mem_append_right _ (.tail _ hp))).2.2
        rw [e, hrest q hq] at h1
        cases h1
    · have h1 := F'.above
      rw [hideAll_size] at h1
      exact Nat.le_of_lt (Nat.lt_of_le_of_lt h1 F'.ns.lt)
theorem MeetsX.intro {w : World} {f : Addr} {args : Args} {pre : List (Addr × Obj)} {Post : Value → List (Addr × Obj) → Prop}
    {name qual : Str} {params : Arguments} {body : List Stmt} {scope : Scope} {dV kV doc pm cdv ct oc : Value} {an od : Option Addr} {osl : Array (Option Value)} {binds : List (Str × Value)}
    (ho : (hd.heap_39 w.params).lookup f = some ⟨oc, od, .func (fnOf name qual params body scope dV kV doc pm an cdv ct), osl⟩) (hcd : codeIn (hd.heap_39 w.params) cdv qual = true)
    (hbind : ∀ s, BindsTo s (fnOf name qual params body scope dV kV doc pm an cdv ct) args binds) (hloc : ∀ y ∈ binds, scope.names.lookup y.1 = some .local)
    (hco : scope.isCoroutine = false) (hgen : scope.isGenerator = false) (hk : scope.kind = .function) (hcell : ∀ x ∈ scope.names, x.2 ≠ .cell)
    (h : ∀ (g h₁ : Heap) (envs : List Env) (frs : List (Addr × Obj)) (gu : Option (List Code)) (d u tk : Nat) (L : Addr) (mean : ExcName → Option Value) (mg mb : Str → Option Value) (s : Shared),
      Fr g L h₁ (fun y => binds.reverse.lookup y) → News g L h₁ (pre ++ frs) → TI.Frs envs frs → Off pre frs → (hd.heap_39 w.params).In g → Top vw LO mean mg mb g → d ≤ 500 → u ≤ 5000 → (∀ p ∈ pre, p.1 < L) → (pre.map (·.1)).Nodup →
      wpAny (model PySem.Challenge.rw_jf0036_01.row.prog w) (Around.deeper ⟨none, d, some envs, gu, u⟩ (envOf qual scope L f cdv)) (execs body (envOf qual scope L f cdv))
        (fun fl s' => DoneX g s frs Post (match fl with | .ret v => v | _ => .none) s') (fun _ _ => False) { s with heap := h₁, toks := tk }) :
    MeetsX w f args pre Post := by
  intro h₀ env outer gu d u L m mean mg mb rest frs s R F X T hf hke Fs hd hu N Nf off offF nd k
  exact enterX ho hcd hbind hloc hco hgen hk hcell F X T hf hke Fs hd hu N Nf off offF nd k fun g h₁ oL tk L' _ _ _ F' N' Fs' off' X' T' lo => h g h₁ _ _ gu d u tk L' mean mg mb s F' N' Fs' off' X' T' hd hu lo nd

/-- as MeetsX, called from the law's own frame (no frame stands above it) -/
def MeetsL (w : World) (f : Addr) (args : Args) (pre : List (Addr × Obj)) (Post : Value → List (Addr × Obj) → Prop) : Prop :=
  ∀ (h₀ : Heap) (env : Env) (gu : Option (List Code)) (d u : Nat) (L : Addr) (m : Str → Option Value)
    (mean : ExcName → Option Value) (mg mb : Str → Option Value) (rest : List (Addr × Obj)) (s : Shared) (R : Result → Shared → Prop),
    Fr h₀ L s.heap m → (hd.heap_39 w.params).In h₀ → Top vw LO mean mg mb h₀ → env.frame = some L → env.scope.kind = .function →
    d ≤ 470 → u ≤ 4900 → News h₀ L s.heap (pre ++ rest) → Off pre rest → (pre.map (·.1)).Nodup →
    (∀ h' tk v post, Fr h₀ L h' m → News h₀ L h' (post ++ rest) → Off post rest → (post.map (·.1)).Nodup → s.heap.objs.size ≤ h'.objs.size → Post v post →
      R (.ok (.ret v)) { s with heap := h', toks := tk }) →
    codeAny (model PySem.Challenge.rw_jf0036_01.row.prog w) ⟨none, d, some [env], gu, u⟩ (.call (.ref f) args) R s

theorem nd_app {a b : List (Addr × Obj)} (n1 : (a.map (·.1)).Nodup) (n2 : (b.map (·.1)).Nodup) (off : Off a b) : ((a ++ b).map (·.1)).Nodup := by
  rw [List.map_append]
  refine List.nodup_append.mpr ⟨n1, n2, fun x hx y hy e => ?_⟩
  obtain ⟨p, hp, rfl⟩ := List.mem_map.mp hx
  obtain ⟨q, hq, rfl⟩ := List.mem_map.mp hy
  exact off p hp q hq e
theorem nd_split {a b : List (Addr × Obj)} (n : ((a ++ b).map (·.1)).Nodup) : (a.map (·.1)).Nodup ∧ (b.map (·.1)).Nodup ∧ Off a b := by
  rw [List.map_append] at n
  obtain ⟨n1, n2, n3⟩ := List.nodup_append.mp n
  exact ⟨n1, n2, fun p hp q hq => n3 _ (List.mem_map_of_mem hp) _ (List.mem_map_of_mem hq)⟩
/-- two grounds of one walk: the objects of R stand on the first and are free on the second -/
structure Two (w : World) (g g₀ : Heap) (R : List (Addr × Obj)) (mean : ExcName → Option Value) (mg mb : Str → Option Value) : Prop where
  sub : ∀ b o, g₀.get? b = some o → g.get? b = some o
  size : g₀.objs.size = g.objs.size
  held : ∀ p ∈ R, g.get? p.1 = some p.2 ∧ g₀.get? p.1 = none
  kin : (hd.heap_39 w.params).In g₀
  top : Top vw LO mean mg mb g₀
theorem Two.fr {w : World} {g g₀ h : Heap} {R : List (Addr × Obj)} {mean : ExcName → Option Value} {mg mb : Str → Option Value} (W : Two w g g₀ R mean mg mb) {L : Addr} {m : Str → Option Value} (F : Fr g L h m) : Fr g₀ L h m :=
  ⟨F.ns, fun b o e => F.keep b o (W.sub b o e), W.size ▸ F.above⟩
theorem Two.news {w : World} {g g₀ h : Heap} {R : List (Addr × Obj)} {mean : ExcName → Option Value} {mg mb : Str → Option Value} (W : Two w g g₀ R mean mg mb) {L : Addr} {news : List (Addr × Obj)} (N : News g L h news) : News g₀ L h news := fun p hp => by
  refine ⟨(N p hp).1, (N p hp).2.1, ?_⟩
  cases q : g₀.get? p.1 with
  | none => rfl
  | some o => have := W.sub _ _ q; rw [(N p hp).2.2] at this; cases this
theorem Two.rest {w : World} {g g₀ h : Heap} {R : List (Addr × Obj)} {mean : ExcName → Option Value} {mg mb : Str → Option Value} (W : Two w g g₀ R mean mg mb) {L : Addr} {m : Str → Option Value} (F : Fr g L h m) : News g₀ L h R := fun p hp =>
  ⟨F.keep _ _ (W.held p hp).1, Nat.ne_of_lt (Nat.lt_of_lt_of_le (Heap.lt_size (W.held p hp).1) F.above), (W.held p hp).2⟩
theorem Two.off {w : World} {g g₀ h : Heap} {R : List (Addr × Obj)} {mean : ExcName → Option Value} {mg mb : Str → Option Value} (W : Two w g g₀ R mean mg mb) {L : Addr} {news : List (Addr × Obj)} (N : News g L h news) : Off news R := fun p hp q hq e => by
  have := (N p hp).2.2
  rw [e, (W.held q hq).1] at this; cases this
theorem MeetsL.intro {w : World} {f : Addr} {args : Args} {pre R : List (Addr × Obj)} {Post : Value → List (Addr × Obj) → Prop}
    {name qual : Str} {params : Arguments} {body : List Stmt} {scope : Scope} {dV kV doc pm cdv ct oc : Value} {an od : Option Addr} {osl : Array (Option Value)} {binds : List (Str × Value)}
    (ho : (hd.heap_39 w.params).lookup f = some ⟨oc, od, .func (fnOf name qual params body scope dV kV doc pm an cdv ct), osl⟩) (hcd : codeIn (hd.heap_39 w.params) cdv qual = true)
    (hbind : ∀ s, BindsTo s (fnOf name qual params body scope dV kV doc pm an cdv ct) args binds) (hloc : ∀ y ∈ binds, scope.names.lookup y.1 = some .local)
    (hco : scope.isCoroutine = false) (hgen : scope.isGenerator = false) (hk : scope.kind = .function) (hcell : ∀ x ∈ scope.names, x.2 ≠ .cell)
    (h : ∀ (g g₀ h₁ : Heap) (env : Env) (L0 : Addr) (o0 : Obj) (gu : Option (List Code)) (d u tk : Nat) (L : Addr) (mean : ExcName → Option Value) (mg mb : Str → Option Value) (s : Shared),
      Two w g g₀ R mean mg mb → Fr g L h₁ (fun y => binds.reverse.lookup y) → News g L h₁ (pre ++ [(L0, o0)]) → TI.Frs [env] [(L0, o0)] → (hd.heap_39 w.params).In g → Top vw LO mean mg mb g → d ≤ 470 → u ≤ 4900 →
      ((pre ++ [(L0, o0)]).map (·.1)).Nodup → (R.map (·.1)).Nodup →
      wpAny (model PySem.Challenge.rw_jf0036_01.row.prog w) (Around.deeper ⟨none, d, some [env], gu, u⟩ (envOf qual scope L f cdv)) (execs body (envOf qual scope L f cdv))
        (fun fl s' => DoneX g₀ s [(L0, o0)] Post (match fl with | .ret v => v | _ => .none) s') (fun _ _ => False) { s with heap := h₁, toks := tk }) :
    MeetsL w f args (pre ++ R) Post := by
  intro h₀ env gu d u L m mean mg mb rest s R' F X T hf hke hd hu N off nd k
  obtain ⟨n1, n2, offR⟩ := nd_split nd
  refine enterX (frs := []) ho hcd hbind hloc hco hgen hk hcell F X T hf hke trivial (by omega) (by omega) N (fun _ h => nomatch h) off (fun _ h => nomatch h) nd (fun h' tk v post frs' F' N' _ _ o1 _ n1 z P => k h' tk v post F' N' o1 n1 z P)
    fun g h₁ oL tk L' hg hk₁ hL' F' N' Fs' off' X' T' lo => ?_
  have hN0 : News h₀ L s.heap (pre ++ R) := fun p hp => N p (List.mem_append_left _ hp)
  have hLn : s.heap.get? L = some oL ∧ True := by
    have := (N' (L, oL) (List.mem_append_right _ (.head _))).1
    obtain ⟨o, es, ep, ho, _⟩ := F.ns
    have h2 := hk₁ _ _ ho
    rw [show (L, oL).1 = L from rfl] at this
    rw [h2] at this
    exact ⟨ho.trans this, trivial⟩
  have hRn : ∀ p ∈ R, p.1 ∉ pre.map (·.1) ++ [L] := fun p hp q => by
    rcases List.mem_append.mp q with q | q
    · obtain ⟨r, hr, e⟩ := List.mem_map.mp q
      exact offR r hr p hp e
    · exact (hN0 p (List.mem_append_right _ hp)).2.1 (List.mem_singleton.mp q)
  have sub : ∀ b o, g.get? b = some o → (hideAll s.heap (pre.map (·.1) ++ [L])).get? b = some o := fun b o e => by
    rw [hg] at e
    refine hideAll_get _ (of_hideAll _ e) fun q => ?_
    have hn : b ∈ (pre ++ R).map (·.1) ++ L :: ([] : List (Addr × Obj)).map (·.1) := by
      rcases List.mem_append.mp q with q | q
      · rw [List.map_append]; exact List.mem_append_left _ (List.mem_append_left _ q)
      · exact List.mem_append_right _ q
    rw [hideAll_none _ hn] at e; cases e
  have W : Two w (hideAll s.heap (pre.map (·.1) ++ [L])) g R mean mg mb :=
    ⟨sub, by rw [hg, hideAll_size, hideAll_size], fun p hp => ⟨hideAll_get _ (hN0 p (List.mem_append_right _ hp)).1 (hRn p hp), (N' p (List.mem_append_left _ (List.mem_append_right _ hp))).2.2⟩, X', T'⟩
  refine h (hideAll s.heap (pre.map (·.1) ++ [L])) g h₁ env L oL gu d u tk L' mean mg mb s W ⟨F'.ns, fun b o e => hk₁ b o (of_hideAll _ e), by rw [hideAll_size, hL']; exact Nat.le_refl _⟩ (fun p hp => ?_) Fs' (X'.keeps sub) (T'.keeps sub) hd hu
    (nd_app n1 (List.nodup_cons.mpr ⟨List.not_mem_nil, List.nodup_nil⟩) fun p hp q hq => off' p (List.mem_append_left _ hp) q hq) n2
  rcases List.mem_append.mp hp with hp | hp
  · have z := N' p (List.mem_append_left _ (List.mem_append_left _ hp))
    exact ⟨z.1, z.2.1, hideAll_none _ (List.mem_append_left _ (List.mem_map_of_mem hp))⟩
  · have z := N' p (List.mem_append_right _ hp)
    rw [List.mem_singleton.mp hp]
    rw [List.mem_singleton.mp hp] at z
    exact ⟨z.1, z.2.1, hideAll_none _ (List.mem_append_right _ (.head _))⟩
theorem DoneX.intro {g h' : Heap} {L' : Addr} {m' : Str → Option Value} {s : Shared} {tk : Nat} {v : Value} {news post frs frs' : List (Addr × Obj)} {Post : Value → List (Addr × Obj) → Prop}
    (F : Fr g L' h' m') (N : News g L' h' news) (Nf : News g L' h' frs') (SU : TI.SameUp frs frs') (off : Off post frs') (hP : Post v post) (hs : ∀ p ∈ post, p ∈ news) (nd : (post.map (·.1)).Nodup) : DoneX g s frs Post v { s with heap := h', toks := tk } :=
  ⟨h', tk, L', m', post, frs', rfl, F, fun p hp => (List.mem_append.mp hp).elim (fun q => N p (hs p q)) (Nf p), SU, off, nd, hP⟩
theorem off_up {a frs frs' : List (Addr × Obj)} (h : Off a frs) (SU : TI.SameUp frs frs') : Off a frs' := fun p hp q hq e => by
  obtain ⟨r, hr, e'⟩ := SameUp_addr SU q hq
  exact h p hp r hr (e.trans e')

section
variable {w : World} {f : Addr} {args : List Value} {pre : List (Addr × Obj)} {Post : Value → List (Addr × Obj) → Prop} {h₀ : Heap} {env : Env} {outer : List Env} {gu : Option (List Code)} {d u : Nat} {L : Addr} {m : Str → Option Value}
  {mean : ExcName → Option Value} {mg mb : Str → Option Value} {s : Shared} {Q : Value → Shared → Prop} {E : Value → Shared → Prop} {news : List (Addr × Obj)}
theorem Meets.use {l : Nat} (M : Meets w l f ⟨args, []⟩ pre Post) (rest : List (Addr × Obj)) (F : Fr h₀ L s.heap m) (X : (hd.heap_39 w.params).In h₀) (T : Top vw LO mean mg mb h₀) (N : News h₀ L s.heap news) (hd : d + 10 * l ≤ 500) (hu : u + 10 * l ≤ 5000)
    (hs : ∀ p ∈ pre ++ rest, p ∈ news) (nd : ((pre ++ rest).map (·.1)).Nodup)
    (k : ∀ h' tk v post, Fr h₀ L h' m → News h₀ L h' (post ++ rest) → ((post ++ rest).map (·.1)).Nodup → Post v post → Q v { s with heap := h', toks := tk }) :
    wpAny (model PySem.Challenge.rw_jf0036_01.row.prog w) ⟨none, d, some outer, gu, u⟩ (call (.ref f) args) Q E s := by
  obtain ⟨n1, n2, off⟩ := nd_split nd
  exact wpAny_call (M h₀ outer gu d u L m mean mg mb rest s _ F X T hd hu (news_sub N hs) off n1 fun h' tk v post F' N' off' nd' _ P => k h' tk v post F' N' (nd_app nd' n2 off') P)
theorem MeetsX.use (M : MeetsX w f ⟨args, []⟩ pre Post) (rest : List (Addr × Obj)) {frs : List (Addr × Obj)} (F : Fr h₀ L s.heap m) (X : (hd.heap_39 w.params).In h₀) (T : Top vw LO mean mg mb h₀) (N : News h₀ L s.heap news) (hf : env.frame = some L) (hke : env.scope.kind = .function) (Fs : TI.Frs outer frs) (hd : d ≤ 500) (hu : u ≤ 5000)
    (hs : ∀ p ∈ pre ++ rest, p ∈ news) (hsf : ∀ p ∈ frs, p ∈ news) (nd : ((pre ++ rest).map (·.1)).Nodup) (off : Off frs (pre ++ rest))
    (k : ∀ h' tk v post frs', Fr h₀ L h' m → News h₀ L h' ((post ++ rest) ++ frs') → TI.SameUp frs frs' → Off frs' (post ++ rest) → ((post ++ rest).map (·.1)).Nodup → Post v post → Q v { s with heap := h', toks := tk }) :
    wpAny (model PySem.Challenge.rw_jf0036_01.row.prog w) ⟨none, d, some (env :: outer), gu, u⟩ (call (.ref f) args) Q E s := by
  obtain ⟨n1, n2, off'⟩ := nd_split nd
  exact wpAny_call (M h₀ env outer gu d u L m mean mg mb rest frs s _ F X T hf hke Fs hd hu (news_sub N hs) (news_sub N hsf) off' off n1 fun h' tk v post frs' F' N' Nf' SU off1 off2 nd' _ P =>
    k h' tk v post frs' F' (fun p hp => (List.mem_append.mp hp).elim (N' p) (Nf' p)) SU off2 (nd_app nd' n2 off1) P)
theorem MeetsL.use (M : MeetsL w f ⟨args, []⟩ pre Post) (rest : List (Addr × Obj)) (F : Fr h₀ L s.heap m) (X : (hd.heap_39 w.params).In h₀) (T : Top vw LO mean mg mb h₀) (N : News h₀ L s.heap news) (hf : env.frame = some L) (hke : env.scope.kind = .function) (hd : d ≤ 470) (hu : u ≤ 4900)
    (hs : ∀ p ∈ pre ++ rest, p ∈ news) (nd : ((pre ++ rest).map (·.1)).Nodup)
    (k : ∀ h' tk v post, Fr h₀ L h' m → News h₀ L h' (post ++ rest) → ((post ++ rest).map (·.1)).Nodup → Post v post → Q v { s with heap := h', toks := tk }) :
    wpAny (model PySem.Challenge.rw_jf0036_01.row.prog w) ⟨none, d, some [env], gu, u⟩ (call (.ref f) args) Q E s := by
  obtain ⟨n1, n2, off⟩ := nd_split nd
  exact wpAny_call (M h₀ env gu d u L m mean mg mb rest s _ F X T hf hke hd hu (news_sub N hs) off n1 fun h' tk v post F' N' off' nd' _ P => k h' tk v post F' N' (nd_app nd' n2 off') P)
end
theorem nd_pick {l l' : List Addr} (h : l.Nodup) (is : List Nat) (hn : is.Nodup) (hb : is.all (fun i => decide (i < l.length)) = true) (he : l' = is.map fun i => l.getD i 0) : l'.Nodup := by
  rw [he]
  have hb' : ∀ i ∈ is, i < l.length := fun i hi => of_decide_eq_true (List.all_eq_true.mp hb i hi)
  refine List.pairwise_map.mpr (List.Pairwise.imp_of_mem (fun {i j} hi hj hne e => hne ?_) hn)
  have h1 := hb' i hi
  have h2 := hb' j hj
  rw [List.getD_eq_getElem?_getD, List.getD_eq_getElem?_getD, List.getElem?_eq_getElem h1, List.getElem?_eq_getElem h2] at e
  exact (List.getElem_inj h).mp e
theorem sub_pick {news post : List (Addr × Obj)} (is : List Nat) (hb : is.all (fun i => decide (i < news.length)) = true) (he : post = is.map fun i => news.getD i default) : ∀ p ∈ post, p ∈ news := by
  rw [he]
  intro p hp
  obtain ⟨i, hi, rfl⟩ := List.mem_map.mp hp
  have h1 : i < news.length := of_decide_eq_true (List.all_eq_true.mp hb i hi)
  rw [List.getD_eq_getElem?_getD, List.getElem?_eq_getElem h1]
  exact List.getElem_mem h1
theorem Meets.use0 {w : World} {l : Nat} {f : Addr} {args : List Value} {Post : Value → List (Addr × Obj) → Prop} {h₀ : Heap} {outer : List Env} {gu : Option (List Code)} {d u : Nat} {L : Addr} {m : Str → Option Value}
    {mean : ExcName → Option Value} {mg mb : Str → Option Value} {s : Shared} {Q : Value → Shared → Prop} {E : Value → Shared → Prop} {news : List (Addr × Obj)}
    (M : Meets w l f ⟨args, []⟩ [] Post) (F : Fr h₀ L s.heap m) (X : (hd.heap_39 w.params).In h₀) (T : Top vw LO mean mg mb h₀) (N : News h₀ L s.heap news) (hd : d + 10 * l ≤ 500) (hu : u + 10 * l ≤ 5000)
    (k : ∀ h' tk v post, Fr h₀ L h' m → News h₀ L h' (post ++ news) → Off post news → (post.map (·.1)).Nodup → Post v post → Q v { s with heap := h', toks := tk }) :
    wpAny (model PySem.Challenge.rw_jf0036_01.row.prog w) ⟨none, d, some outer, gu, u⟩ (call (.ref f) args) Q E s :=
  wpAny_call (M h₀ outer gu d u L m mean mg mb news s _ F X T hd hu N (fun _ h => nomatch h) List.nodup_nil fun h' tk v post F' N' off' nd' _ P => k h' tk v post F' N' off' nd' P)
/-- the facts that the walk lays beside a fresh address -/
def LtC (a : Addr) : List Addr → Prop
  | [] => True
  | [x] => @LT.lt Nat _ x a
  | x :: y :: r => @LT.lt Nat _ x a ∧ LtC a (y :: r)
theorem LtC.all {a : Addr} : ∀ {l : List Addr}, LtC a l → ∀ x ∈ l, @LT.lt Nat _ x a
  | [x], h, _, hm => by rw [List.mem_singleton.mp hm]; exact h
  | x :: y :: r, h, z, hm => by
    rcases List.mem_cons.mp hm with rfl | hm
    · exact h.1
    · exact LtC.all h.2 z hm
theorem nd_lt {a : Addr} {l : List Addr} (h : LtC a l) (n : l.Nodup) : (a :: l).Nodup :=
  List.nodup_cons.mpr ⟨fun hm => Nat.lt_irrefl a (h.all a hm), n⟩
inductive AtF (d : Addr) (o : Obj) : List (Addr × Obj) → (Obj → List (Addr × Obj)) → Prop
  | head {r} : AtF d o ((d, o) :: r) (fun o' => (d, o') :: r)
  | tail {p r g} : AtF d o r g → AtF d o (p :: r) (fun o' => p :: g o')
theorem AtF.mem {d : Addr} {o : Obj} {l : List (Addr × Obj)} {g : Obj → List (Addr × Obj)} (a : AtF d o l g) : (d, o) ∈ l := by
  induction a with
  | head => exact .head _
  | tail _ ih => exact .tail _ ih
theorem updF_of {d : Addr} {o : Obj} {l : List (Addr × Obj)} {g : Obj → List (Addr × Obj)} (nd : (l.map (·.1)).Nodup) (a : AtF d o l g) : UpdF d o l g := by
  induction a with
  | head => exact .head fun p hp e => (List.nodup_cons.mp nd).1 (List.mem_map.mpr ⟨p, hp, e⟩)
  | tail a ih => exact .tail (fun e => (List.nodup_cons.mp nd).1 (List.mem_map.mpr ⟨_, a.mem, e.symm⟩)) (ih (List.nodup_cons.mp nd).2)
inductive AtU (d : Addr) (o o' : Obj) : List (Addr × Obj) → List (Addr × Obj) → Prop
  | head {r} : AtU d o o' ((d, o) :: r) ((d, o') :: r)
  | tail {p r r'} : AtU d o o' r r' → AtU d o o' (p :: r) (p :: r')
theorem AtU.mem {d : Addr} {o o' : Obj} {l l' : List (Addr × Obj)} (a : AtU d o o' l l') : (d, o) ∈ l := by
  induction a with
  | head => exact .head _
  | tail _ ih => exact .tail _ ih
theorem upd_of {d : Addr} {o o' : Obj} {l l' : List (Addr × Obj)} (nd : (l.map (·.1)).Nodup) (a : AtU d o o' l l') : Upd d o o' l l' := by
  induction a with
  | head => exact .head fun p hp e => (List.nodup_cons.mp nd).1 (List.mem_map.mpr ⟨p, hp, e⟩)
  | tail a ih => exact .tail (fun e => (List.nodup_cons.mp nd).1 (List.mem_map.mpr ⟨_, a.mem, e.symm⟩)) (ih (List.nodup_cons.mp nd).2)
theorem off_sub {a a' b b' : List (Addr × Obj)} (h : Off a b) (h1 : ∀ p ∈ a', p ∈ a) (h2 : ∀ p ∈ b', p ∈ b) : Off a' b' := fun p hp q hq => h p (h1 p hp) q (h2 q hq)
theorem off_app {a b c : List (Addr × Obj)} (h1 : Off a c) (h2 : Off b c) : Off (a ++ b) c := fun p hp q hq => (List.mem_append.mp hp).elim (fun x => h1 p x q hq) fun x => h2 p x q hq
theorem off_app' {a b c : List (Addr × Obj)} (h1 : Off a b) (h2 : Off a c) : Off a (b ++ c) := fun p hp q hq => (List.mem_append.mp hq).elim (h1 p hp q) (h2 p hp q)
theorem off_symm {a b : List (Addr × Obj)} (h : Off a b) : Off b a := fun p hp q hq e => h q hq p hp e.symm
theorem nd_shuffle {p1 r1 pH rH : List (Addr × Obj)} (n1 : ((p1 ++ r1).map (·.1)).Nodup) (n2 : ((pH ++ rH).map (·.1)).Nodup) (off : Off (p1 ++ r1) (pH ++ rH)) : (((p1 ++ pH) ++ (r1 ++ rH)).map (·.1)).Nodup := by
  obtain ⟨a1, a2, a3⟩ := nd_split n1
  obtain ⟨b1, b2, b3⟩ := nd_split n2
  refine nd_app (nd_app a1 b1 (off_sub off (fun _ h => List.mem_append_left _ h) fun _ h => List.mem_append_left _ h)) (nd_app a2 b2 (off_sub off (fun _ h => List.mem_append_right _ h) fun _ h => List.mem_append_right _ h)) ?_
  exact off_app (off_app' a3 (off_sub off (fun _ h => List.mem_append_left _ h) fun _ h => List.mem_append_right _ h)) (off_app' (off_symm (off_sub off (fun _ h => List.mem_append_right _ h) fun _ h => List.mem_append_left _ h)) b3)
section
variable {w : World} {g g₀ : Heap} {R pre1 rest1 preH restH news : List (Addr × Obj)} {mean : ExcName → Option Value} {mg mb : Str → Option Value} {L L0 : Addr} {o0 o0' : Obj} {m : Str → Option Value} {s : Shared} {Q : Value → Shared → Prop} {E : Value → Shared → Prop}
  {l : Nat} {f : Addr} {args : List Value} {Post : Value → List (Addr × Obj) → Prop} {outer : List Env} {gu : Option (List Code)} {d u : Nat} {v : Value} {h' : Heap} {tk : Nat}
theorem asks_use (M : Meets w l f ⟨args, []⟩ (pre1 ++ preH) Post) (rest1 : List (Addr × Obj)) (W : Two w g g₀ R mean mg mb) (F : Fr g L s.heap m) (N : News g L s.heap news) (hR : R = preH ++ restH) (ndR : (R.map (·.1)).Nodup) (hd : d + 10 * l ≤ 500) (hu : u + 10 * l ≤ 5000)
    (hs : ∀ p ∈ pre1 ++ rest1, p ∈ news) (nd : ((pre1 ++ rest1).map (·.1)).Nodup)
    (k : ∀ h' tk v post, Fr g₀ L h' m → News g₀ L h' (post ++ (rest1 ++ restH)) → ((post ++ (rest1 ++ restH)).map (·.1)).Nodup → Post v post → Q v { s with heap := h', toks := tk }) :
    wpAny (model PySem.Challenge.rw_jf0036_01.row.prog w) ⟨none, d, some outer, gu, u⟩ (call (.ref f) args) Q E s := by
  have N0 := W.news N
  have NR := W.rest F
  subst hR
  refine Meets.use M (rest1 ++ restH) (W.fr F) W.kin W.top (news := news ++ (preH ++ restH)) (fun p hp => (List.mem_append.mp hp).elim (N0 p) (NR p)) hd hu (fun p hp => ?_) (nd_shuffle nd ndR (off_sub (W.off N) hs fun _ h => h)) k
  rcases List.mem_append.mp hp with hp | hp
  · rcases List.mem_append.mp hp with hp | hp
    · exact List.mem_append_left _ (hs p (List.mem_append_left _ hp))
    · exact List.mem_append_right _ (List.mem_append_left _ hp)
  · rcases List.mem_append.mp hp with hp | hp
    · exact List.mem_append_left _ (hs p (List.mem_append_right _ hp))
    · exact List.mem_append_right _ (List.mem_append_right _ hp)
theorem asks_end (lit : List (Addr × Obj)) (W : Two w g g₀ R mean mg mb) (F : Fr g L h' m) (N : News g L h' news) (ndR : (R.map (·.1)).Nodup) (SU : TI.SameUp [(L0, o0)] [(L0, o0')])
    (hs : ∀ p ∈ lit ++ [(L0, o0')], p ∈ news) (nd : ((lit ++ [(L0, o0')]).map (·.1)).Nodup) (hP : Post v (lit ++ R)) : DoneX g₀ s [(L0, o0)] Post v { s with heap := h', toks := tk } := by
  have N0 := W.news N
  have NR := W.rest F
  obtain ⟨a1, a2, a3⟩ := nd_split nd
  have offR := off_sub (W.off N) hs fun _ h => h
  exact ⟨h', tk, L, m, lit ++ R, [(L0, o0')], rfl, W.fr F, fun p hp => (List.mem_append.mp hp).elim (fun x => (List.mem_append.mp x).elim (fun y => N0 p (hs p (List.mem_append_left _ y))) (NR p)) fun x => N0 p (hs p (List.mem_append_right _ x)),
    SU, off_app a3 (off_symm (off_sub offR (fun _ h => List.mem_append_right _ h) fun _ h => h)), nd_app a1 ndR (off_sub offR (fun _ h => List.mem_append_left _ h) fun _ h => h), hP⟩
theorem asks_end2 {q oth : List (Addr × Obj)} (F : Fr g₀ L h' m) (N : News g₀ L h' (q ++ ((oth ++ [(L0, o0')]) ++ restH))) (nd : ((q ++ ((oth ++ [(L0, o0')]) ++ restH)).map (·.1)).Nodup) (SU : TI.SameUp [(L0, o0)] [(L0, o0')]) (hP : Post v ((q ++ oth) ++ restH)) :
    DoneX g₀ s [(L0, o0)] Post v { s with heap := h', toks := tk } := by
  obtain ⟨a1, a2, a3⟩ := nd_split nd
  obtain ⟨b1, b2, b3⟩ := nd_split a2
  obtain ⟨c1, c2, c3⟩ := nd_split b1
  have oq1 : Off q oth := off_sub a3 (fun _ h => h) fun _ h => List.mem_append_left _ (List.mem_append_left _ h)
  have oq2 : Off q [(L0, o0')] := off_sub a3 (fun _ h => h) fun _ h => List.mem_append_left _ (List.mem_append_right _ h)
  have oq3 : Off q restH := off_sub a3 (fun _ h => h) fun _ h => List.mem_append_right _ h
  have ob1 : Off oth restH := off_sub b3 (fun _ h => List.mem_append_left _ h) fun _ h => h
  have ob2 : Off [(L0, o0')] restH := off_sub b3 (fun _ h => List.mem_append_right _ h) fun _ h => h
  refine ⟨h', tk, L, m, (q ++ oth) ++ restH, [(L0, o0')], rfl, F, fun p hp => N p ?_, SU, off_app (off_app oq2 c3) (off_symm ob2), nd_app (nd_app a1 c1 oq1) b2 (off_app oq3 ob1), hP⟩
  simp only [List.mem_append] at hp ⊢
  rcases hp with ((h | h) | h) | h
  · exact .inl h
  · exact .inr (.inl (.inl h))
  · exact .inr (.inr h)
  · exact .inr (.inl (.inr h))
end
theorem dep {d l l' : Nat} (h : d + 10 * l ≤ 501) (hl : 10 * l' < 10 * l) : d + 10 * l' ≤ 500 := by omega
theorem depu {u l l' : Nat} (h : u + 10 * l ≤ 5003) (hl : 10 * l' + 3 ≤ 10 * l) : u + 10 * l' ≤ 5000 := by omega
end
section
abbrev bookK (sz ln : Value) (wt : Bool) (dv rv : Value) (pl cm ld ct : Addr) : List (Str × Value) :=
  [(Str.ofString "size", sz), (Str.ofString "length", ln), (Str.ofString "waits", .bool wt), (Str.ofString "dump", dv), (Str.ofString "ready", rv),
   (Str.ofString "places", .ref pl), (Str.ofString "coming", .ref cm), (Str.ofString "loaded", .ref ld), (Str.ofString "cut", .ref ct)]
abbrev SD (w : World) (o : Obj) (kvs : List (Str × Value)) : Prop := Obj.IsDictOf (PySem.strKind PySem.Challenge.rw_jf0036_01.row.prog w) o kvs
abbrev ID (w : World) (o : Obj) (kvs : List (Int × Value)) : Prop := Obj.IsDictOf (PySem.intKind PySem.Challenge.rw_jf0036_01.row.prog w) o kvs
abbrev tup (vs : List Value) : Obj := { cls := .type "tuple", data := .seq vs.toArray }
abbrev lst (vs : List Value) (n : Nat) : Obj := W.listOf vs.toArray n
abbrev serEs (w : World) (k : Nat → Tok) (gv bs pid cid tr inc mem : Value) : List DictEntry :=
  [⟨PyData.keyHash w.params (Str.ofString "_Serializer__given"), .str (Str.ofString "_Serializer__given") (k 0), gv⟩,
   ⟨PyData.keyHash w.params (Str.ofString "_Serializer__transmissionBatchSize"), .str (Str.ofString "_Serializer__transmissionBatchSize") (k 1), bs⟩,
   ⟨PyData.keyHash w.params (Str.ofString "_Serializer__pid"), .str (Str.ofString "_Serializer__pid") (k 2), pid⟩,
   ⟨PyData.keyHash w.params (Str.ofString "_Serializer__currentID"), .str (Str.ofString "_Serializer__currentID") (k 3), cid⟩,
   ⟨PyData.keyHash w.params (Str.ofString "_Serializer__transmissions"), .str (Str.ofString "_Serializer__transmissions") (k 4), tr⟩,
   ⟨PyData.keyHash w.params (Str.ofString "_Serializer__incomingTransmissionFile"), .str (Str.ofString "_Serializer__incomingTransmissionFile") (k 5), inc⟩,
   ⟨PyData.keyHash w.params (Str.ofString "_Serializer__inMemorySerializedData"), .str (Str.ofString "_Serializer__inMemorySerializedData") (k 6), mem⟩]
abbrev serD (w : World) (k : Nat → Tok) (gv bs pid cid tr inc mem : Value) : Obj := dictOf (serEs w k gv bs pid cid tr inc mem) 7
abbrev givEs (w : World) (k : Nat → Tok) (now dr ap te du ln cv : Value) : List DictEntry :=
  [⟨PyData.keyHash w.params (Str.ofString "now"), .str (Str.ofString "now") (k 0), now⟩,
   ⟨PyData.keyHash w.params (Str.ofString "drawn"), .str (Str.ofString "drawn") (k 1), dr⟩,
   ⟨PyData.keyHash w.params (Str.ofString "applied"), .str (Str.ofString "applied") (k 2), ap⟩,
   ⟨PyData.keyHash w.params (Str.ofString "told"), .str (Str.ofString "told") (k 3), te⟩,
   ⟨PyData.keyHash w.params (Str.ofString "dumped"), .str (Str.ofString "dumped") (k 4), du⟩,
   ⟨PyData.keyHash w.params (Str.ofString "length"), .str (Str.ofString "length") (k 5), ln⟩,
   ⟨PyData.keyHash w.params (Str.ofString "codeVersion"), .str (Str.ofString "codeVersion") (k 6), cv⟩]
abbrev givD (w : World) (k : Nat → Tok) (now dr ap te du ln cv : Value) : Obj := dictOf (givEs w k now dr ap te du ln cv) 7
end
section
theorem bi_no_bytes : typeLookup (.type "int") "__bytes__" = pure none := by rw [typeLookup_type, builtinLookup_eq_fast]; kernel_rfl
theorem bytes_new_nat {prog : Program} {w : World} {A : Around} {E : Value → Shared → Prop} {s : Shared} {z : Int} {t : Tok} {Q : Value → Shared → Prop} (h0 : 0 ≤ z) (hn : z ≤ 1000)
    (hQ : ∀ t' k, Q (.bytes (Array.replicate z.toNat 0) t') { s with toks := k }) : codeAny (model prog w) A (.call (.builtin "bytes.__new__") ⟨[.type "bytes", .int z t], []⟩) (wants Q E) s := by
  have hT : s.TypeIs (.int z t) "int" := typeIs_int _ _ _
  refine codeAny_of_tree ?_
  show wpAny _ A.in1 (do checkBuiltinCall "bytes.__new__" ⟨[.type "bytes", .int z t], []⟩; again (.builtin "bytes.__new__" ⟨[.type "bytes", .int z t], []⟩)) _ _ s
  refine wpAny_bind (wpAny_of_eq (F.bm_newCall _) (wpAny_pure ⟨plainId_quiet F.bm_plain _, codeAny_builtin F.bm_entry ?_⟩))
  rw [Around.under_plainId F.bm_plain _]
  unfold Builtin.«bytes.__new__»
  refine wpAny_bind (wpAny_of_eq (a := true) rfl ?_)
  refine bm_if_false rfl ?_
  refine wpAny_bind (wpAny_of_eq F.bm_sub ?_)
  refine bm_if_false rfl ?_
  refine wpAny_bind (wpAny_of_eq (F.bm_bind _) ?_)
  refine wpAny_bind (wpAny_of_eq (a := ()) rfl ?_)
  refine wpAny_bind (wpAny_of_eq (a := ()) rfl ?_)
  refine bm_if_false rfl ?_
  refine wpAny_bind (wpAny_specialOf hT bi_no_bytes ?_)
  refine wpAny_bind (wpAny_of_eq (a := false) rfl ?_)
  refine bm_if_false rfl ?_
  refine wpAny_bind (wpAny_specialOf hT int_index ?_)
  refine bm_if_false rfl ?_
  refine wpAny_bind (wpAny_attempt (wpAny_of_eq (a := z) rfl ?_))
  dsimp only
  refine bm_if_false (by simp only [Builtin.Bytes.fitsIndex, Bool.not_eq_false', Bool.and_eq_true, decide_eq_true_eq]; omega) ?_
  refine wpAny_ite ?_
  rw [if_neg (by omega)]
  refine wpAny_ite ?_
  rw [if_neg (by omega)]
  refine bm_if_false (by simp only [Builtin.Bytes.tooLong, sizeLine_eq, decide_eq_false_iff_not]; omega) ?_
  refine wpAny_bind (wpAny_rule ?_)
  refine wpAny_bind (wpAny_mkBytes ?_ (by rw [Array.size_replicate, sizeLine_eq]; omega))
  show wpAny _ _ (if (Value.type "bytes" == Value.type "bytes") = true then _ else _) _ _ _
  refine bm_if_true (by decide) ?_
  first
    | exact wpAny_pure (hQ _ _)
    | exact wpAny_bind (wpAny_pure (wpAny_pure (hQ _ _)))
theorem bytes_zeros {prog : Program} {w : World} {A : Around} {E : Value → Shared → Prop} {s : Shared} {n : Nat} {t : Tok} {Q : Value → Shared → Prop} (hn : n ≤ 1000)
    (hQ : ∀ t' k, Q (.bytes (Array.replicate n 0) t') { s with toks := k }) : wpAny (model prog w) A (call (.type "bytes") [.int (n : Int) t]) Q E s := by
  refine callType_codes (Q₁ := fun obj s₁ => s₁.TypeIs obj "bytes" ∧ Q obj s₁) F.bm_called (F.bm_typeCall _) F.entry_object_init
    (bytes_new_nat (by omega) (by omega) fun t' k => ⟨PySem.W.typeIs_bytes _ _ _, by rw [Int.toNat_natCast]; exact hQ t' k⟩) fun obj s₁ h₁ => ?_
  exact ⟨h₁.1, F.args_object_init_2 obj _, object_init_meets F.bm_called.init.lookup F.bm_called.made (by decide) prog w A.in1 _ s₁ ⟨h₁.1, rfl, h₁.2⟩⟩
end
section
def PlAt (P : List (Int × Value)) (j p : Nat) : Prop := (valueAt P (j : Int) = none ∧ p = 0) ∨ ∃ t, valueAt P (j : Int) = some (.int p t)
section
variable {prog : Program} {w : World} {A : Around} {E : Value → Shared → Prop} {s : Shared} {h₀ : Heap} {L d : Addr} {m : Str → Option Value} {news news' : List (Addr × Obj)} {o : Obj}
theorem places_get {P : List (Int × Value)} {j p : Nat} {tj t0 : Tok} {Q : Value → Shared → Prop}
    (N : News h₀ L s.heap news) (hp : (d, o) ∈ news) (hd : o.IsDictOf (PySem.intKind prog w) P) (lo : (d == sysModules) = false) (hv : PlAt P j p) (h : ∀ t, Q (.int p t) { s with toks := s.toks + 1 }) :
    wpAny (model prog w) A (call (.builtin "dict.get") [.ref d, .int j tj, .int 0 t0]) Q E s := by
  refine kdg_get2 N hp hd lo (intKind_is _ _ _ _) (valueAt P j) rfl ?_
  rcases hv with ⟨e, rfl⟩ | ⟨t, e⟩
  · rw [e]; exact h _
  · rw [e]; exact h _

theorem extract_cut (b : Array UInt8) (p q : Nat) : ((b.toList.drop (min p b.size)).take (min q b.size - min p b.size)).toArray = b.extract p q := by
  apply Array.ext'
  rw [Array.toList_extract, List.extract_eq_take_drop]
  simp only
  apply List.ext_getElem?
  intro i
  simp only [List.getElem?_take, List.getElem?_drop, Array.getElem?_toList]
  by_cases h1 : i < q - p
  · rw [if_pos h1]
    by_cases h2 : i < min q b.size - min p b.size
    · rw [if_pos h2]; congr 1; omega
    · rw [if_neg h2]
      rw [Array.getElem?_eq_none]; omega
  · rw [if_neg h1, if_neg (by omega)]

theorem cut_K {value slice : PySem.Expr} {b : Array UInt8} {t : Tok} {x y : Int} {p q : Nat} {t1 t2 : Tok} {Q : Value → Shared → Prop} (F : Fr h₀ L s.heap m) (N : News h₀ L s.heap news) (hz : b.size ≤ 16777216) (hx : x = (p : Int)) (hy : y = (q : Int))
    (h : ∀ h' t' k, Fr h₀ L h' m → News h₀ L h' news → Q (.bytes (b.extract p q) t') { s with heap := h', toks := k })
    (hs : subscripted slice false (.bytes b t) (.ref s.heap.objs.size) = operate [.ref s.heap.objs.size, .bytes b t] (getItem (.bytes b t) (.ref s.heap.objs.size)) := by with_unfolding_all rfl)
    (ht : ∀ r, letTemporaryGo value (.bytes b t) r = pure () := by intro _; with_unfolding_all rfl) :
    wpAny (model prog w) A (subscriptTail value slice (.bytes b t) (.ref s.heap.objs.size)) Q E { s with heap := s.heap.push { cls := .type "slice", data := .fields #[.int x t1, .int y t2, .none] } } := by
  subst hx hy
  refine KBc.slice_K F N rfl (.int _ _) (.int _ _) (by rw [KBw.ints_length]; exact hz) (fun h' t' k F' N' _ => ?_) hs ht
  have e : KBy.picked b (some (p : Int)) (some (q : Int)) = b.extract p q := by
    rw [KBc.picked_eq]
    show ((b.toList.drop (clipAt b.size p)).take (clipAt b.size q - clipAt b.size p)).toArray = _
    rw [clipAt_nat, clipAt_nat, extract_cut]
  rw [e]
  exact h h' t' k F' N'

theorem blen_K {b : Array UInt8} {t : Tok} {Q : Value → Shared → Prop} (hfit : b.size ≤ 16777216) (h : ∀ t' k, Q (.int (b.size : Nat) t') { s with toks := k }) : wpAny (model prog w) A (call (.builtin "len") [.bytes b t]) Q E s := by
  refine KBw.len_K rfl (by rw [KBw.ints_length]; omega) ?_
  rw [KBw.ints_length]; exact h _ _

theorem lget_K {value slice : PySem.Expr} {vs : List Value} {n j : Nat} {tj : Tok} {v : Value} {Q : Value → Shared → Prop} (N : News h₀ L s.heap news) (hm : (d, lst vs n) ∈ news) (hj : j < 1000) (hx : vs[j]? = some v) (h : Q v s)
    (hs : subscripted slice false (.ref d) (.int (j : Int) tj) = operate [.ref d, .int (j : Int) tj] (getItem (.ref d) (.int (j : Int) tj)) := by with_unfolding_all rfl)
    (hg : ∀ r, letTemporaryGo value (.ref d) r = pure () := by intro _; with_unfolding_all rfl) :
    wpAny (model prog w) A (subscriptTail value slice (.ref d) (.int (j : Int) tj)) Q E s :=
  kim_list N hm rfl rfl (by omega) (by omega) (by simpa using hx) h hs hg

theorem lset_K {vs : List Value} {n j : Nat} {tj : Tok} {v : Value} {Q : Unit → Shared → Prop} (F : Fr h₀ L s.heap m) (N : News h₀ L s.heap news) (U : Upd d (lst vs n) (lst (vs.set j v) n) news news') (hj : j < vs.length) (hv : vs.length < 1000)
    (h : ∀ h', Fr h₀ L h' m → News h₀ L h' news' → Q () { s with heap := h' }) :
    wpAny (model prog w) A (setItem (.ref d) (.int (j : Int) tj) v) Q E s := by
  obtain ⟨pre, post, rfl, rfl, a, b⟩ := U.split
  have z := N (d, lst vs n) (List.mem_append.mpr (.inr (.head _)))
  refine ki_setAt z.1 (by omega) (by omega) (by simp; omega) (h _ (F.change (Heap.SameBut.update ..) z.2.1 z.2.2) (ki_turn _ N a b ?_ ?_))
  · show vs.toArray.setIfInBounds _ v = (vs.set j v).toArray
    apply Array.toList_inj.mp
    simp
  · simp
end
section
variable {K : Type} [DecidableEq K]
theorem valueAt_stored (kvs : List (K × Value)) (k k' : K) (v : Value) : valueAt (stored kvs k v) k' = if k' = k then some v else valueAt kvs k' := by
  unfold stored
  split
  · rename_i h
    induction kvs with
    | nil => simp at h
    | cons kv r ih =>
      simp only [List.map_cons, valueAt, List.find?_cons] at ih ⊢
      by_cases h1 : kv.1 = k
      · subst h1
        simp only [if_true]
        by_cases h2 : kv.1 = k'
        · simp [h2]
        · rw [decide_eq_false h2, if_neg (fun e => h2 e.symm)]
          simp only
          by_cases h3 : r.any (fun x => decide (x.1 = kv.1)) = true
          · have := ih h3; rw [if_neg (fun e => h2 e.symm)] at this; exact this
          · have e : (List.map (fun x => if x.1 = kv.1 then (x.1, v) else x) r) = r := by
              refine map_store_of_not_mem r kv.1 v fun hm => h3 ?_
              obtain ⟨x, hx, e⟩ := List.mem_map.mp hm
              exact List.any_eq_true.mpr ⟨x, hx, by simp [e]⟩
            rw [e]
      · simp only [if_neg h1]
        have h3 : r.any (fun x => decide (x.1 = k)) = true := by simpa [List.any_cons, h1] using h
        by_cases h2 : kv.1 = k'
        · subst h2; simp [h1]
        · rw [decide_eq_false h2]; exact ih h3
  · rename_i h
    have hn : ∀ x ∈ kvs, x.1 ≠ k := fun x hx e => h (List.any_eq_true.mpr ⟨x, hx, by simp [e]⟩)
    unfold valueAt
    rw [List.find?_append]
    by_cases h2 : k' = k
    · subst h2
      have : List.find? (fun kv => decide (kv.1 = k')) kvs = none := List.find?_eq_none.mpr fun x hx => by simp [hn x hx]
      simp [this]
    · rw [if_neg h2]
      have h3 : ¬ k = k' := fun e => h2 e.symm
      cases List.find? (fun kv => decide (kv.1 = k')) kvs <;> simp [h3]
theorem valueAt_without (kvs : List (K × Value)) (k k' : K) : valueAt (without kvs k) k' = if k' = k then none else valueAt kvs k' := by
  unfold without valueAt
  induction kvs with
  | nil => simp
  | cons kv r ih =>
    rw [List.filter_cons]
    by_cases h1 : kv.1 = k
    · subst h1
      simp only [ne_eq, not_true_eq_false, decide_false, Bool.false_eq_true, if_false, List.find?_cons]
      rw [ih]
      by_cases h2 : k' = kv.1
      · simp [h2]
      · rw [if_neg h2, if_neg h2, decide_eq_false (fun e : kv.1 = k' => h2 e.symm)]
    · simp only [ne_eq, h1, not_false_eq_true, decide_true, if_true, List.find?_cons]
      by_cases h2 : kv.1 = k'
      · subst h2; simp [h1]
      · simp only [decide_eq_false h2]; exact ih
theorem without_length_le (kvs : List (K × Value)) (k : K) : (without kvs k).length ≤ kvs.length := List.length_filter_le ..
end
/-- what a store into the places does -/
structure PlStep (P P' : List (Int × Value)) (j p : Nat) : Prop where
  len : P'.length ≤ P.length + 1
  here : PlAt P' j p
  off : ∀ i : Nat, i ≠ j → valueAt P' (i : Int) = valueAt P (i : Int)
theorem PlStep.one (P : List (Int × Value)) (j p : Nat) (t : Tok) : PlStep P (stored P (j : Int) (.int p t)) j p :=
  ⟨stored_length_le _ _ _, .inr ⟨t, by rw [valueAt_stored, if_pos rfl]⟩, fun i h => by rw [valueAt_stored, if_neg (by omega)]⟩
theorem stored_stored (P : List (K' × Value)) [DecidableEq K'] (k : K') (v v' : Value) : (stored (stored P k v) k v').length = (stored P k v).length := by
  unfold stored
  by_cases h : P.any (fun kv => decide (kv.1 = k)) = true
  · rw [if_pos h]
    have h2 : (P.map (fun kv => if kv.1 = k then (kv.1, v) else kv)).any (fun kv => decide (kv.1 = k)) = true := by
      obtain ⟨x, hx, e⟩ := List.any_eq_true.mp h
      refine List.any_eq_true.mpr ⟨(x.1, v), List.mem_map.mpr ⟨x, hx, ?_⟩, e⟩
      rw [if_pos (of_decide_eq_true e)]
    rw [if_pos h2]; simp
  · rw [if_neg h]
    have h2 : (P ++ [(k, v)]).any (fun kv => decide (kv.1 = k)) = true := by simp
    rw [if_pos h2]; simp
theorem PlStep.two (P : List (Int × Value)) (j p : Nat) (v : Value) (t : Tok) : PlStep P (stored (stored P (j : Int) v) (j : Int) (.int p t)) j p :=
  ⟨by rw [stored_stored]; exact stored_length_le _ _ _, .inr ⟨t, by rw [valueAt_stored, if_pos rfl]⟩, fun i h => by rw [valueAt_stored, if_neg (by omega), valueAt_stored, if_neg (by omega)]⟩
theorem int_beq_nat_zero (p : Nat) : ((p : Int) == 0) = decide (p = 0) := by
  by_cases h : p = 0
  · subst h; rfl
  · rw [decide_eq_false h]; exact beq_false_of_ne (by omega)
theorem without_none {K : Type} [DecidableEq K] {kvs : List (K × Value)} {k : K} (h : valueAt kvs k = none) : without kvs k = kvs := by
  refine without_of_not_mem kvs k fun hm => ?_
  obtain ⟨x, hx, rfl⟩ := List.mem_map.mp hm
  unfold valueAt at h
  have := List.find?_eq_none.mp (Option.map_eq_none_iff.mp h) x hx
  simp at this
section
open PyProof.V PySem.Spec
variable {prog : Program} {w : World} {A : Around} {E : Value → Shared → Prop} {s : Shared} {h₀ : Heap} {L d : Addr} {m : Str → Option Value} {news : List (Addr × Obj)} {o : Obj} {g : Obj → List (Addr × Obj)}
theorem pop_any {kvs : List (Str × Value)} {key : Str} {tk : Tok} {Q : Value → Shared → Prop} (F : Fr h₀ L s.heap m) (N : News h₀ L s.heap news) (U : UpdF d o news g) (hd : o.IsDictOf (PySem.strKind prog w) kvs) (lo : (d == sysModules) = false) (hsz : kvs.length ≤ 10000)
    (h : ∀ h' o' v, Fr h₀ L h' m → News h₀ L h' (g o') → o'.IsDictOf (PySem.strKind prog w) (without kvs key) → Q v { s with heap := h', toks := s.toks + 1 }) :
    wpAny (model prog w) A (call (.builtin "dict.pop") [.ref d, .str key tk, .none]) Q E s := by
  cases hv : valueAt kvs key with
  | some v =>
    exact kob_pop (more := [.none]) F N U hd (strKind_is _ _ _ _) (.inr ⟨_, rfl⟩) (by rfl) (PySem.F.args_dict_pop_3 _ _ _) hv (by rw [sizeLine_eq]; omega) fun h' o' F' N' hd' => h h' o' v F' N' hd'
  | none =>
    obtain ⟨pre, post, rfl, hg, a, b⟩ := U.split
    have hm := N (d, o) (List.mem_append_right _ (.head _))
    have hD : s.heap.DictOf (PySem.strKind prog w) d kvs := Heap.dictOf_iff.mpr ⟨o, hm.1, hd⟩
    refine call_meetsIn PySem.F.slot_dict_pop hD.typeIs PySem.F.entry_dict_pop (PySem.F.args_dict_pop_3 _ _ _) (meets_dict_pop_default _ d (strKind_is _ _ _ _) lo (by rfl) .none) ⟨kvs, hD, hv, ?_⟩
    exact h s.heap o .none F (hg o ▸ N) (by rw [without_none hv]; exact hd)
theorem sget_K {kvs : List (Str × Value)} {key : Str} {tk : Tok} {x : Option Value} {Q : Value → Shared → Prop} (N : News h₀ L s.heap news) (hp : (d, o) ∈ news) (hd : o.IsDictOf (PySem.strKind prog w) kvs) (lo : (d == sysModules) = false) (hv : valueAt kvs key = x)
    (h : Q (x.getD .none) { s with toks := s.toks + 1 }) : wpAny (model prog w) A (call (.builtin "dict.get") [.ref d, .str key tk, .none]) Q E s :=
  kdg_get2 N hp hd lo (strKind_is _ _ _ _) x hv h
end
section
open PyProof.V PySem.Spec
variable {prog : Program} {w : World} {A : Around} {E : Value → Shared → Prop} {s : Shared} {h₀ : Heap} {L d : Addr} {m : Str → Option Value} {news : List (Addr × Obj)} {o : Obj} {g : Obj → List (Addr × Obj)}
theorem spop_none {kvs : List (Str × Value)} {key : Str} {tk : Tok} {Q : Value → Shared → Prop} (N : News h₀ L s.heap news) (hp : (d, o) ∈ news) (hd : o.IsDictOf (PySem.strKind prog w) kvs) (lo : (d == sysModules) = false) (hv : valueAt kvs key = none)
    (h : Q .none { s with toks := s.toks + 1 }) : wpAny (model prog w) A (call (.builtin "dict.pop") [.ref d, .str key tk, .none]) Q E s := by
  have hD : s.heap.DictOf (PySem.strKind prog w) d kvs := Heap.dictOf_iff.mpr ⟨o, (N _ hp).1, hd⟩
  exact call_meetsIn PySem.F.slot_dict_pop hD.typeIs PySem.F.entry_dict_pop (PySem.F.args_dict_pop_3 _ _ _) (meets_dict_pop_default _ d (strKind_is _ _ _ _) lo (by rfl) .none) ⟨kvs, hD, hv, h⟩
end
theorem noI_bytes_add : typeLookup (.type "bytes") (dunderI "add") = pure none := by rw [typeLookup_type, builtinLookup_eq_fast]; kernel_rfl
theorem iadd_bytes {prog : Program} {w : World} {A : Around} {E : Value → Shared → Prop} {s : Shared} {b c : Array UInt8} {t u : Tok} {Q : Value → Shared → Prop} (hsz : b.size + c.size ≤ 16777216) (h : ∀ t' k, Q (.bytes (b ++ c) t') { s with toks := k }) :
    wpAny (model prog w) A (inplaceOp .Add (.bytes b t) (.bytes c u)) Q E s := by
  refine iconcat_gives (typeIs_bytes s b t) (typeIs_bytes s c u) noI_bytes_add KBy.noFill_bytes_add KBy.seq_bytes_add FB.slot_bytes_add FB.entry_bytes_add (FB.args_bytes_add_2 _ _) (KBy.gives_bytes_add (KBy.tooLong_not hsz)) ?_
  by_cases hb : b.isEmpty = true
  · rw [if_pos hb]
    have e : b = #[] := Array.isEmpty_iff.1 hb
    have h' := h u s.toks
    rw [e, Array.empty_append] at h'
    exact h'
  · rw [if_neg hb]
    by_cases hc : c.isEmpty = true
    · rw [if_pos hc]
      have e : c = #[] := Array.isEmpty_iff.1 hc
      have h' := h t s.toks
      rw [e, Array.append_empty] at h'
      exact h'
    · rw [if_neg hc]
      exact ⟨by rw [Array.size_append, sizeLine_eq]; exact hsz, h s.toks (s.toks + 1)⟩
theorem cut0_K {prog : Program} {w : World} {A : Around} {E : Value → Shared → Prop} {s : Shared} {h₀ : Heap} {L : Addr} {m : Str → Option Value} {news : List (Addr × Obj)} {value slice : PySem.Expr} {b : Array UInt8} {t : Tok} {y : Int} {q : Nat} {t2 : Tok} {Q : Value → Shared → Prop} (F : Fr h₀ L s.heap m) (N : News h₀ L s.heap news) (hz : b.size ≤ 16777216) (hy : y = (q : Int))
    (h : ∀ h' t' k, Fr h₀ L h' m → News h₀ L h' news → Q (.bytes (b.extract 0 q) t') { s with heap := h', toks := k })
    (hs : subscripted slice false (.bytes b t) (.ref s.heap.objs.size) = operate [.ref s.heap.objs.size, .bytes b t] (getItem (.bytes b t) (.ref s.heap.objs.size)) := by with_unfolding_all rfl)
    (ht : ∀ r, letTemporaryGo value (.bytes b t) r = pure () := by intro _; with_unfolding_all rfl) :
    wpAny (model prog w) A (subscriptTail value slice (.bytes b t) (.ref s.heap.objs.size)) Q E { s with heap := s.heap.push { cls := .type "slice", data := .fields #[.none, .int y t2, .none] } } := by
  subst hy
  refine KBc.slice_K (lo := none) F N rfl (by constructor) (.int _ _) (by rw [KBw.ints_length]; exact hz) (fun h' t' k F' N' _ => ?_) hs ht
  have e : KBy.picked b none (some (q : Int)) = b.extract 0 q := by
    rw [KBc.picked_eq]
    show ((b.toList.drop 0).take (clipAt b.size q - 0)).toArray = _
    rw [clipAt_nat]
    have := extract_cut b 0 q
    rw [Nat.zero_min] at this
    exact this
  rw [e]
  exact h h' t' k F' N'
theorem llen_K {prog : Program} {w : World} {A : Around} {E : Value → Shared → Prop} {s : Shared} {h₀ : Heap} {L d : Addr} {news : List (Addr × Obj)} {vs : List Value} {n : Nat} {Q : Value → Shared → Prop} (N : News h₀ L s.heap news) (hm : (d, lst vs n) ∈ news) (hv : vs.length ≤ 100000)
    (h : ∀ t' k, Q (.int (vs.length : Nat) t') { s with toks := k }) : wpAny (model prog w) A (call (.builtin "len") [.ref d]) Q E s := by
  have hl : s.heap.IsList d vs.toArray := PySem.IsL.isList (n := n) (N _ hm).1
  refine call_len_list hl (by simp; omega) ?_
  have := h (s.toks + 1) (s.toks + 1 + 1)
  simpa using this
def octs (k len : Nat) : Array UInt8 := #[0, 0, 0, UInt8.ofNat k] ++ Array.replicate len 0
theorem octs_size (k len : Nat) : (octs k len).size = 4 + len := by simp [octs]
end
local macro_rules | `(tactic| k_room) => `(tactic| ((try simp only [depth_under_make, depth_under_kw, depth_in1, depth_deeper, depth_caller]); (try dsimp only); (show _ < 1000); omega))
local macro_rules | `(tactic| k_units) => `(tactic| ((try simp only [units_under_make, units_in1, units_deeper]); (try dsimp only); (show _ < 9900); omega))
local macro_rules | `(tactic| kwd_rel) => `(tactic| (unfold Meets; k_fill; (show Meets _ _ _ _ _ _); (refine' Meets.intro ?k6 ?k7 ?k9 ?kB ?c2 ?c3 ?c4 ?c5 ?_); (case k6 => k_is); (case k7 => k_is); (case k9 => exact fun s => BindsTo.of_eq rfl); (case c5 => decide); (case kB => exact locs rfl); (case c2 => exact rfl); (case c3 => exact rfl); (case c4 => exact rfl)))
local macro_rules | `(tactic| walk_at "call builtin:dict.get") => `(tactic| (k_here; k_dflt (refine places_get (by k_asm) (by k_mem) (by assumption) (by assumption) (by assumption) ?_); intro _))
local macro_rules | `(tactic| walk_at "subscriptTail") => `(tactic| (k_here; (with_reducible show wpAny _ _ (subscriptTail _ (Expr.Slice _ _ none _) (Value.bytes _ _) (Value.ref _)) _ _ _); (with_reducible rename Fr _ _ _ _ => F'); (with_reducible rename News _ _ _ _ => N'); (refine cut_K (s := ⟨_, _, _, _, _⟩) F' N' (by omega) (by first | rfl | (rw [Int.natCast_add]) | omega) (by first | rfl | (rw [← Int.natCast_add]) | omega) ?_); intro _ _ _ F' N'))
local macro_rules | `(tactic| walk_at "call builtin:len") => `(tactic| (k_here; (with_reducible show wpAny _ _ (call (Value.builtin "len") [Value.bytes _ _]) _ _ _); (refine blen_K (by first | omega | ((try simp only [Array.size_extract]); omega)) ?_); intro _ _))
local macro_rules | `(tactic| walk_at "subscriptTail") => `(tactic| (k_here; (with_reducible show wpAny _ _ (subscriptTail _ _ (Value.ref _) (Value.int (Nat.cast _) _)) _ _ _); k_dflt (first | refine lget_K (by k_asm) (by k_mem) (by omega) (by assumption) ?_ | (refine kba_turn (value' := PySem.Expr.Name (PySem.Str.ofString "_") ⟨0, 0, 0, 0⟩) (fun _ => rfl) ?_; refine lget_K (by k_asm) (by k_mem) (by omega) (by assumption) ?_))))
local macro_rules | `(tactic| walk_at "setItem ref int") => `(tactic| (k_here; (with_reducible show wpAny _ _ (setItem (Value.ref _) (Value.int (Nat.cast _) _) _) _ _ _); k_dflt (refine lset_K (by k_asm) (by k_asm) (by k_upd) (by first | assumption | omega) (by first | assumption | omega) ?_); intro _ F' N'))
local macro_rules | `(tactic| walk_at "setItem ref int") => `(tactic| (k_here; kda_here; k_dflt (refine' kda_set (knd := PySem.intKind _ _) ?F ?N ?U ?d (intKind_is _ _ _ _) ?z ?_; (case F => k_asm); (case N => k_asm); (case U => k_updF); (case d => k_asm); (case z => (rw [sizeLine_eq]; first | omega | (refine Nat.le_trans (stored_length_le _ _ _) ?_; omega)))); intro h' o' F' N' hd'; (try dsimp only at N')))
local macro_rules | `(tactic| ktr_rel) => `(tactic| first | exact Bef.head (by k_mem) | (refine Bef.tail ?_; ktr_rel))
local macro_rules | `(tactic| k_ne) => `(tactic| (refine neN ?_; (try dsimp only); (rename List.Nodup _ => hND); first | exact nd_ne hND (by ktr_rel) | exact nd_ne' hND (by ktr_rel) | omega))
local macro_rules | `(tactic| tb_rel) => `(tactic| ((try dsimp only [List.map]); repeat' (first | exact List.nodup_nil | exact True.intro | (refine nd_cons ?_ ?_) | (refine And.intro ?_ ?_) | k_ne)))
local macro_rules | `(tactic| kwd_inv) => `(tactic| (k_unfold; (try dsimp only); (refine Done.intro (by k_asm) (by k_asm) ?hP ?hs ?nd); rotate_left; (case hP => skip)))
local macro_rules | `(tactic| walk_at "call builtin:dict.get") => `(tactic| (k_here; (with_reducible show wpAny _ _ (call (Value.builtin "dict.get") [Value.ref _, Value.str _ _, Value.none]) _ _ _); k_dflt (refine sget_K (by k_asm) (by k_mem) (by assumption) (by assumption) (by assumption) ?_); (try dsimp only [Option.getD])))
local macro_rules | `(tactic| walk_at "call builtin:dict.pop") => `(tactic| (k_here; (with_reducible show wpAny _ _ (call (Value.builtin "dict.pop") [Value.ref _, Value.str _ _, Value.none]) _ _ _); k_dflt (refine' pop_any ?F ?N ?U ?d ?l ?z ?_; (case F => k_asm); (case N => k_asm); (case U => k_updF); (case d => k_asm); (case l => assumption); (case z => first | omega | (refine Nat.le_trans (stored_length_le _ _ _) ?_; omega))); intro h' o' v' F' N' hd'; (try dsimp only at N')))
local macro_rules | `(tactic| walk_at "setItem ref str") => `(tactic| (k_here; (with_reducible show wpAny _ _ (setItem (Value.ref _) (Value.str _ _) _) _ _ _); kob_here; k_dflt (refine' kda_set (knd := PySem.strKind _ _) ?F ?N ?U ?d (strKind_is _ _ _ _) ?z ?_; (case F => k_asm); (case N => k_asm); (case U => k_updF); (case d => k_asm); (case z => (rw [sizeLine_eq]; first | exact Nat.le_of_ble_eq_true (by with_unfolding_all rfl) | omega))); intro h' o' F' N' hd'; (try kob_lit); (try dsimp only at N')))
local macro_rules | `(tactic| kwd_less) => `(tactic| (unfold MeetsX; k_fill; (show MeetsX _ _ _ _ _); (refine' MeetsX.intro ?k6 ?k7 ?k9 ?kB ?c2 ?c3 ?c4 ?c5 ?_); (case k6 => k_is); (case k7 => k_is); (case k9 => exact fun s => BindsTo.of_eq rfl); (case c5 => decide); (case kB => exact locs rfl); (case c2 => exact rfl); (case c3 => exact rfl); (case c4 => exact rfl)))
local macro_rules | `(tactic| walk_at "call builtin:dict.pop") => `(tactic| (k_here; (with_reducible show wpAny _ _ (call (Value.builtin "dict.pop") [Value.ref _, Value.str _ _, Value.none]) _ _ _); k_dflt (refine spop_none (by k_asm) (by k_mem) (by assumption) (by assumption) (by assumption) ?_)))
local macro_rules | `(tactic| walk_at "inplaceOp Add bytes bytes") => `(tactic| (k_here; (refine iadd_bytes (by first | omega | ((try simp only [Array.size_empty, List.size_toArray, List.length_nil]); omega)) ?_); intro _ _; (try simp only [Array.empty_append])))
local macro_rules | `(tactic| walk_at "subscriptTail") => `(tactic| (k_here; (with_reducible show wpAny _ _ (subscriptTail _ (Expr.Slice none _ none _) (Value.bytes _ _) (Value.ref _)) _ _ _); (with_reducible rename Fr _ _ _ _ => F'); (with_reducible rename News _ _ _ _ => N'); (refine cut0_K (s := ⟨_, _, _, _, _⟩) (q := 4) F' N' (by first | omega | (rw [octs_size]; omega)) rfl ?_); intro _ _ _ F' N'))
local macro_rules | `(tactic| ksw_less) => `(tactic| (unfold MeetsL; k_fill; (show MeetsL _ _ _ _ _); (refine' MeetsL.intro ?k6 ?k7 ?k9 ?kB ?c2 ?c3 ?c4 ?c5 ?_); (case k6 => k_is); (case k7 => k_is); (case k9 => exact fun s => BindsTo.of_eq rfl); (case c5 => decide); (case kB => exact locs rfl); (case c2 => exact rfl); (case c3 => exact rfl); (case c4 => exact rfl)))
local macro_rules | `(tactic| walk_at "call builtin:len") => `(tactic| (k_here; (with_reducible show wpAny _ _ (call (Value.builtin "len") [Value.ref _]) _ _ _); k_dflt (refine llen_K (by k_asm) (by k_mem) (by first | omega | (rw [List.length_append, List.length_cons, List.length_nil]; omega)) ?_); intro _ _))
local macro_rules | `(tactic| walk_at "call type:bytes") => `(tactic| (k_here; (with_reducible show wpAny _ _ (call (Value.type "bytes") [Value.int (Nat.cast _) _]) _ _ _); (refine bytes_zeros (by omega) ?_); intro _ _))
local macro_rules | `(tactic| kas_types) => `(tactic| ((rename List.Nodup _ => hND); first | exact hND | exact nd_lt (by assumption) hND | exact nd_lt (by assumption) (nd_lt (by assumption) hND) | exact nd_lt (by assumption) (nd_lt (by assumption) (nd_lt (by assumption) hND)) | exact nd_lt (by assumption) (nd_lt (by assumption) (nd_lt (by assumption) (nd_lt (by assumption) hND)))))
local macro_rules | `(tactic| kat_tups) => `(tactic| first | exact AtF.head | (refine' AtF.tail ?aab; (case aab => kat_tups)))
local macro_rules | `(tactic| kbo_bools) => `(tactic| first | exact AtU.head | (refine' AtU.tail ?aab; (case aab => kbo_bools)))
local macro_rules | `(tactic| k_updF) => `(tactic| (refine' updF_of ?nd ?aat; (case nd => kas_types); (case aat => kat_tups)))
local macro_rules | `(tactic| k_upd) => `(tactic| (refine' upd_of ?nd ?aat; (case nd => kas_types); (case aat => kbo_bools)))
section
theorem piece_some (w : World) {bk pl cm ld ct db : Addr} {ob op : Obj} {sz : Nat} {ts : Tok} {ln rv d0 : Value} {j p : Nat} {tj : Tok} {P : List (Int × Value)} {oct : Array UInt8} {to : Tok}
    (hb : SD w ob (bookK (.int sz ts) ln false (.ref db) rv pl cm ld ct)) (hp : ID w op P) (hP : P.length ≤ 1000) (hpl : (pl == sysModules) = false)
    (hv : PlAt P j p) (hsz : 1 ≤ sz ∧ sz ≤ 5) (ho : oct.size ≤ 12) (hpo : p ≤ oct.size) :
    Meets w 0 196 ⟨[.ref bk, .int j tj], []⟩ [(bk, ob), (pl, op), (db, tup [d0, .bytes oct to])]
      (fun v post => ∃ x op' P' t b1 b2, v = .ref x ∧ post = [(x, tup [.bytes (oct.extract p (p + sz)) t, .bool b1, .bool b2]), (bk, ob), (pl, op'), (db, tup [d0, .bytes oct to])]
        ∧ ID w op' P' ∧ b1 = decide (p = 0) ∧ b2 = decide (p = oct.size) ∧ PlStep P P' j (if p = oct.size then 0 else p + (oct.extract p (p + sz)).size)) := by
  unfold SD at hb; unfold ID at hp
  kwd_rel
  intro g h₁ envs gu d u tk0 L mean mg mb s F' N' X' T' hd hu lo nd
  try dsimp only [List.map] at nd
  try dsimp only
  k_fold
  have hsize : (oct.extract p (p + sz)).size = min (p + sz) oct.size - p := Array.size_extract
  k_steps
  · show Done _ _ _ _ _
    refine' Done.intro (post := [(_, tup [_, .bool _, .bool _]), (bk, ob), (pl, _), (db, _)]) (by k_asm) (by k_asm) ?hP ?hs ?nd
    case hs => k_allIn
    case nd => tb_rel
    case hP =>
      refine' ⟨_, _, _, _, _, _, rfl, rfl, by assumption, ?_, ?_, ?_⟩
      · exact int_beq_nat_zero p
      · rw [int_beq_nat_zero]; exact decide_eq_decide.mpr (by omega)
      · rw [if_pos (by omega)]; exact PlStep.two ..
  · show Done _ _ _ _ _
    refine' Done.intro (post := [(_, tup [_, .bool _, .bool _]), (bk, ob), (pl, _), (db, _)]) (by k_asm) (by k_asm) ?hP ?hs ?nd
    case hs => k_allIn
    case nd => tb_rel
    case hP =>
      refine' ⟨_, _, _, _, _, _, rfl, rfl, by assumption, ?_, ?_, ?_⟩
      · exact int_beq_nat_zero p
      · rw [int_beq_nat_zero]; exact decide_eq_decide.mpr (by omega)
      · rw [if_neg (by omega)]; exact PlStep.one ..
end
section
theorem piece_waits (w : World) {bk pl cm ld ct : Addr} {ob : Obj} {sz ln rv dv : Value} {j : Nat} {tj : Tok}
    (hb : SD w ob (bookK sz ln true dv rv pl cm ld ct)) :
    Meets w 0 196 ⟨[.ref bk, .int j tj], []⟩ [(bk, ob)] (fun v post => v = .none ∧ post = [(bk, ob)]) := by
  unfold SD at hb
  kwd_rel
  intro g h₁ envs gu d u tk0 L mean mg mb s F' N' X' T' hd hu lo nd
  try dsimp only [List.map] at nd
  try dsimp only
  k_fold
  k_steps
  · show Done _ _ _ _ _
    exact Done.intro (post := [(bk, ob)]) (by k_asm) (by k_asm) ⟨rfl, rfl⟩ (by k_allIn) (by tb_rel)
theorem piece_nodump (w : World) {bk pl cm ld ct : Addr} {ob : Obj} {sz ln rv : Value} {j : Nat} {tj : Tok}
    (hb : SD w ob (bookK sz ln false .none rv pl cm ld ct)) :
    Meets w 0 196 ⟨[.ref bk, .int j tj], []⟩ [(bk, ob)] (fun v post => v = .none ∧ post = [(bk, ob)]) := by
  unfold SD at hb
  kwd_rel
  intro g h₁ envs gu d u tk0 L mean mg mb s F' N' X' T' hd hu lo nd
  try dsimp only [List.map] at nd
  try dsimp only
  k_fold
  k_steps
  · show Done _ _ _ _ _
    exact Done.intro (post := [(bk, ob)]) (by k_asm) (by k_asm) ⟨rfl, rfl⟩ (by k_allIn) (by tb_rel)
end
section
theorem get_waits (w : World) {sd sdd : Addr} {k : Nat → Tok} {gv bs cid tr inc mem : Value} {tp ti : Tok} {key : Str} :
    Meets w 0 77 ⟨[.ref sd, .str key ti], []⟩ [(sd, instObj 94 sdd), (sdd, serD w k gv bs (.int (-1) tp) cid tr inc mem)]
      (fun v post => v = .none ∧ post = [(sd, instObj 94 sdd), (sdd, serD w k gv bs (.int (-1) tp) cid tr inc mem)]) := by
  kwd_rel
  intro g h₁ envs gu d u tk0 L mean mg mb s F' N' X' T' hd hu lo nd
  try dsimp only [List.map] at nd
  try dsimp only
  k_fold
  k_steps
  · show Done _ _ _ _ _
    exact Done.intro (post := [(sd, instObj 94 sdd), (sdd, serD w k gv bs (.int (-1) tp) cid tr inc mem)]) (by k_asm) (by k_asm) ⟨rfl, rfl⟩ (by k_allIn) (by tb_rel)
end
section
theorem get_nil (w : World) {sd sdd tr : Addr} {ot : Obj} {T : List (Str × Value)} {k : Nat → Tok} {gv bs cid inc : Value} {tp ti : Tok} {key : Str}
    (ht : SD w ot T) (hT : T.length ≤ 1000) (hlo : (tr == sysModules) = false) (hv : valueAt T key = none) :
    MeetsX w 77 ⟨[.ref sd, .str key ti], []⟩ [(sd, instObj 94 sdd), (sdd, serD w k gv bs (.int 0 tp) cid (.ref tr) inc .none), (tr, ot)]
      (fun v post => v = .none ∧ post = [(sd, instObj 94 sdd), (sdd, serD w k gv bs (.int 0 tp) cid (.ref tr) inc .none), (tr, ot)]) := by
  unfold SD at ht
  kwd_less
  intro g h₁ envs frs gu d u tk0 L mean mg mb s F' N' Fs off X' T' hd hu lo nd
  try simp only [List.cons_append, List.nil_append] at N'
  try dsimp only [List.map] at nd
  try dsimp only
  k_fold
  k_steps
  rename_i hx
  rename Fr g L _ _ => F2
  rename News g L _ _ => N2
  refine TLg.noted_newA (A₀ := ⟨none, d, some envs, gu, u⟩) (new := [(sd, instObj 94 sdd), (sdd, serD w k gv bs (.int 0 tp) cid (.ref tr) inc .none), (tr, ot)]) rfl Fs hx F2 N2 ?_ ?_
  · intro p hp hm
    rcases List.mem_cons.mp hm with q | hm
    · exact Nat.ne_of_lt (lo p hp) q
    · obtain ⟨r, hr, e⟩ := List.mem_map.mp hm
      exact off p hp r hr e.symm
  clear hx F2 N2
  intro h' frs' SU Fs' tiH'
  simp only [List.cons_append, List.nil_append] at tiH'
  have tiHH' := TT.HeldNA.held tiH'
  k_steps
  · show DoneX _ _ _ _ _ _
    refine DoneX.intro (post := [(sd, instObj 94 sdd), (sdd, serD w k gv bs (.int 0 tp) cid (.ref tr) inc .none), (tr, ot)]) (frs' := frs') (by k_asm) (by k_asm) ?_ SU ?_ ⟨rfl, rfl⟩ (by k_allIn) (by tb_rel)
    · rename News g L _ _ => N2
      exact fun p hp => N2 p (.tail _ (.tail _ (.tail _ hp)))
    · exact off_up off SU
end
section
theorem get_new (w : World) {sd sdd tr : Addr} {ot : Obj} {T : List (Str × Value)} {k : Nat → Tok} {gv cid inc : Value} {sz : Nat} {tp ti ts to : Tok} {key : Str} {oct : Array UInt8}
    (ht : SD w ot T) (hT : T.length ≤ 1000) (hlo : (tr == sysModules) = false) (hv : valueAt T key = none) (hsz : 1 ≤ sz ∧ sz ≤ 5) (ho : oct.size ≤ 12) (ho4 : 4 ≤ oct.size) :
    Meets w 0 77 ⟨[.ref sd, .str key ti], []⟩ [(sd, instObj 94 sdd), (sdd, serD w k gv (.int sz ts) (.int 0 tp) cid (.ref tr) inc (.bytes oct to)), (tr, ot)]
      (fun v post => ∃ x ta oa ot' t t1 b1 b2, v = .ref x ∧ post = [(x, tup [.bytes (oct.extract 0 (0 + sz)) t, .bool b1, .bool b2]), (ta, oa), (sd, instObj 94 sdd), (sdd, serD w k gv (.int sz ts) (.int 0 tp) cid (.ref tr) inc (.bytes oct to)), (tr, ot')]
        ∧ b1 = true ∧ b2 = false ∧ SD w ot' (stored T key (.ref ta)) ∧ SD w oa [(Str.ofString "transmitted", .int ((oct.extract 0 (0 + sz)).size : Nat) t1), (Str.ofString "data", .bytes oct to)]) := by
  unfold SD at ht
  kwd_rel
  intro g h₁ envs gu d u tk0 L mean mg mb s F' N' X' T' hd hu lo nd
  try dsimp only [List.map] at nd
  try dsimp only
  k_fold
  have hsize : (oct.extract 0 (0 + sz)).size = min (0 + sz) oct.size - 0 := Array.size_extract
  k_steps
  · omega
  · show Done _ _ _ _ _
    rename Obj.IsDictOf _ _ (stored T key _) => h1
    rename Obj.IsDictOf _ _ [_, _] => h2
    rw [Int.zero_add] at h2
    refine' Done.intro (by k_asm) (by k_asm) ⟨_, _, _, _, _, _, _, _, rfl, rfl, ?b1, ?b2, h1, h2⟩ ?hs ?nd
    case hs => k_allIn
    case nd => tb_rel
    case b1 => rfl
    case b2 => exact beq_false_of_ne (by omega)
theorem get_old (w : World) {sd sdd tr ta : Addr} {ot oa : Obj} {T : List (Str × Value)} {k : Nat → Tok} {gv cid inc mem : Value} {sz p : Nat} {tp ti ts to t0 : Tok} {key : Str} {oct : Array UInt8}
    (ht : SD w ot T) (hT : T.length ≤ 1000) (hlo : (tr == sysModules) = false) (hv : valueAt T key = some (.ref ta)) (ha : SD w oa [(Str.ofString "transmitted", .int p t0), (Str.ofString "data", .bytes oct to)]) (hsz : 1 ≤ sz ∧ sz ≤ 5) (ho : oct.size ≤ 12) (hp : p ≤ oct.size) :
    Meets w 0 77 ⟨[.ref sd, .str key ti], []⟩ [(ta, oa), (sd, instObj 94 sdd), (sdd, serD w k gv (.int sz ts) (.int 0 tp) cid (.ref tr) inc mem), (tr, ot)]
      (fun v post => ∃ x oa' ot' t t1 b1 b2, v = .ref x ∧ post = [(x, tup [.bytes (oct.extract p (p + sz)) t, .bool b1, .bool b2]), (ta, oa'), (sd, instObj 94 sdd), (sdd, serD w k gv (.int sz ts) (.int 0 tp) cid (.ref tr) inc mem), (tr, ot')]
        ∧ b1 = decide (p = 0) ∧ b2 = decide (p = oct.size) ∧ SD w ot' (if p = oct.size then without T key else T) ∧ SD w oa' [(Str.ofString "transmitted", .int ((p + (oct.extract p (p + sz)).size : Nat) : Int) t1), (Str.ofString "data", .bytes oct to)]) := by
  unfold SD at ht ha
  kwd_rel
  intro g h₁ envs gu d u tk0 L mean mg mb s F' N' X' T' hd hu lo nd
  try dsimp only [List.map] at nd
  try dsimp only
  k_fold
  have hsize : (oct.extract p (p + sz)).size = min (p + sz) oct.size - p := Array.size_extract
  k_steps
  · show Done _ _ _ _ _
    rename Obj.IsDictOf _ _ (without T key) => h1
    rename Obj.IsDictOf _ _ [_, _] => h2
    rw [← Int.natCast_add] at h2
    refine' Done.intro (by k_asm) (by k_asm) ⟨_, _, _, _, _, _, _, rfl, rfl, ?b1, ?b2, (by rw [if_pos (by omega)]; exact h1), h2⟩ ?hs ?nd
    case hs => k_allIn
    case nd => tb_rel
    case b1 => exact int_beq_nat_zero p
    case b2 => rw [int_beq_nat_zero]; exact decide_eq_decide.mpr (by omega)
  · show Done _ _ _ _ _
    rename Obj.IsDictOf _ _ [_, _] => h2
    rw [← Int.natCast_add] at h2
    refine' Done.intro (by k_asm) (by k_asm) ⟨_, _, _, _, _, _, _, rfl, rfl, ?b1, ?b2, (by rw [if_neg (by omega)]; exact ht), h2⟩ ?hs ?nd
    case hs => k_allIn
    case nd => tb_rel
    case b1 => exact int_beq_nat_zero p
    case b2 => rw [int_beq_nat_zero]; exact decide_eq_decide.mpr (by omega)
end
section
theorem set_none (w : World) {r rd : Addr} {k : Nat → Tok} {gv bs pid cid tr inc mem : Value} :
    Meets w 0 84 ⟨[.ref r, .none], []⟩ [(r, instObj 94 rd), (rd, serD w k gv bs pid cid tr inc mem)]
      (fun v post => v = .bool false ∧ post = [(r, instObj 94 rd), (rd, serD w k gv bs pid cid tr inc mem)]) := by
  kwd_rel
  intro g h₁ envs gu d u tk0 L mean mg mb s F' N' X' T' hd hu lo nd
  try dsimp only [List.map] at nd
  try dsimp only
  k_fold
  k_steps
  · show Done _ _ _ _ _
    refine' Done.intro (by k_asm) (by k_asm) ⟨rfl, rfl⟩ ?hs ?nd
    case hs => k_allIn
    case nd => tb_rel
theorem set_first (w : World) {r rd pt : Addr} {k : Nat → Tok} {gv bs pid cid tr inc mem : Value} {part : Array UInt8} {t : Tok} (hp : part.size ≤ 12) :
    Meets w 0 84 ⟨[.ref r, .ref pt], []⟩ [(r, instObj 94 rd), (rd, serD w k gv bs pid cid tr inc mem), (pt, tup [.bytes part t, .bool true, .bool false])]
      (fun v post => ∃ t', v = .bool false ∧ post = [(r, instObj 94 rd), (rd, serD w k gv bs pid cid tr (.bytes part t') mem), (pt, tup [.bytes part t, .bool true, .bool false])]) := by
  kwd_rel
  intro g h₁ envs gu d u tk0 L mean mg mb s F' N' X' T' hd hu lo nd
  try dsimp only [List.map] at nd
  try dsimp only
  k_fold
  k_steps
  · show Done _ _ _ _ _
    refine' Done.intro (by k_asm) (by k_asm) ⟨_, rfl, rfl⟩ ?hs ?nd
    case hs => k_allIn
    case nd => tb_rel
theorem set_mid (w : World) {r rd pt : Addr} {k : Nat → Tok} {gv bs pid cid tr mem : Value} {part b : Array UInt8} {t tb : Tok} (hp : part.size ≤ 12) (hb : b.size ≤ 12) :
    Meets w 0 84 ⟨[.ref r, .ref pt], []⟩ [(r, instObj 94 rd), (rd, serD w k gv bs pid cid tr (.bytes b tb) mem), (pt, tup [.bytes part t, .bool false, .bool false])]
      (fun v post => ∃ t', v = .bool false ∧ post = [(r, instObj 94 rd), (rd, serD w k gv bs pid cid tr (.bytes (b ++ part) t') mem), (pt, tup [.bytes part t, .bool false, .bool false])]) := by
  kwd_rel
  intro g h₁ envs gu d u tk0 L mean mg mb s F' N' X' T' hd hu lo nd
  try dsimp only [List.map] at nd
  try dsimp only
  k_fold
  k_steps
  · show Done _ _ _ _ _
    refine' Done.intro (by k_asm) (by k_asm) ⟨_, rfl, rfl⟩ ?hs ?nd
    case hs => k_allIn
    case nd => tb_rel
theorem set_last (w : World) {r rd pt : Addr} {k : Nat → Tok} {gv bs pid cid tr mem : Value} {part b : Array UInt8} {t tb : Tok} (hp : part.size ≤ 12) (hb : b.size ≤ 12) :
    Meets w 0 84 ⟨[.ref r, .ref pt], []⟩ [(r, instObj 94 rd), (rd, serD w k gv bs pid cid tr (.bytes b tb) mem), (pt, tup [.bytes part t, .bool false, .bool true])]
      (fun v post => ∃ t', v = .bool true ∧ post = [(r, instObj 94 rd), (rd, serD w k gv bs pid cid tr .none (.bytes (b ++ part) t')), (pt, tup [.bytes part t, .bool false, .bool true])]) := by
  kwd_rel
  intro g h₁ envs gu d u tk0 L mean mg mb s F' N' X' T' hd hu lo nd
  try dsimp only [List.map] at nd
  try dsimp only
  k_fold
  k_steps
  · show Done _ _ _ _ _
    refine' Done.intro (by k_asm) (by k_asm) ⟨_, rfl, rfl⟩ ?hs ?nd
    case hs => k_allIn
    case nd => tb_rel
end
section
theorem flat_rep (n : Nat) : (List.replicate n [(0 : Int)]).flatten = List.replicate n 0 := by
  induction n with
  | zero => rfl
  | succ n ih => rw [List.replicate_succ, List.flatten_cons, ih]; rfl
theorem octets_meets (w : World) (k len : Nat) (tk tl : Tok) (hk : k < 256) (hl : len ≤ 8) :
    Meets w 0 182 ⟨[.int k tk, .int len tl], []⟩ [] (fun v post => (∃ t, v = .bytes (octs k len) t) ∧ post = []) := by
  kwd_rel
  intro g h₁ envs gu d u tk0 L mean mg mb s F' N' X' T' hd hu lo nd
  try dsimp only [List.map] at nd
  try dsimp only
  k_fold
  have hdiv : Int.fdiv (k : Int) 256 = 0 := by rw [Int.fdiv_eq_ediv_of_nonneg _ (by decide)]; omega
  have hmod : Int.fmod (k : Int) 256 = k := by rw [Int.fmod_eq_emod_of_nonneg _ (by decide)]; omega
  k_steps
  refine KBa.make_K (by k_asm) (by k_asm) rfl (by kba_isList) (by kba_listInts) ?_ ?_ ?_
  · rw [Int.toNat_natCast, flat_rep]
    intro n hn
    have := List.eq_of_mem_replicate hn
    omega
  · rw [Int.toNat_natCast, flat_rep]; simp; omega
  intro h' t' k' F' N' hIn
  k_steps
  · show Done _ _ _ _ _
    have e : byteArr [0, 0, (k : Int).fdiv 256, (k : Int).fmod 256] ++ byteArr (List.replicate ((len : Int)).toNat [(0 : Int)]).flatten = octs k len := by
      rw [hdiv, hmod, Int.toNat_natCast, flat_rep]
      unfold octs byteArr
      simp
    refine' Done.intro (post := []) (by k_asm) (by k_asm) ⟨⟨_, congrArg (fun b => Value.bytes b _) e⟩, rfl⟩ ?hs ?nd
    case hs => k_allIn
    case nd => tb_rel
end
section
theorem octs_head (i len : Nat) : (octs i len).extract 0 4 = #[0, 0, 0, UInt8.ofNat i] := by
  unfold octs
  apply Array.ext'
  rw [Array.toList_extract, List.extract_eq_take_drop]
  simp
theorem octs_ints {i : Nat} (len : Nat) (hi : i < 256) : KBw.bInts ((octs i len).extract 0 4) = [0, 0, 0, (i : Int)] := by
  rw [octs_head]
  show [((0 : UInt8).toNat : Int), ((0 : UInt8).toNat : Int), ((0 : UInt8).toNat : Int), ((UInt8.ofNat i).toNat : Int)] = _
  have : (UInt8.ofNat i).toNat = i := by simp; omega
  rw [this]; rfl
theorem loads (w : World) {gv gd dm : Addr} {kg : Nat → Tok} {now dr ap te ln cv : Value} {len i n : Nat} {to : Tok} {vs : List Value} {v : Value}
    (hi : i < 256) (hl : len ≤ 8) (hv : vs[i]? = some v) :
    Meets w 0 168 ⟨[.ref gv, .bytes (octs i len) to], []⟩ [(gv, instObj 171 gd), (gd, givD w kg now dr ap te (.ref dm) ln cv), (dm, lst vs n)]
      (fun x post => x = v ∧ post = [(gv, instObj 171 gd), (gd, givD w kg now dr ap te (.ref dm) ln cv), (dm, lst vs n)]) := by
  kwd_rel
  intro g h₁ envs gu d u tk0 L mean mg mb s F' N' X' T' hd hu lo nd
  try dsimp only [List.map] at nd
  try dsimp only
  k_fold
  k_steps
  refine KFB.call_big (by k_asm) (by k_mem) (octs_ints len hi) (by simp) ?_
  intro t' k'
  have e : KFB.value [0, 0, 0, (i : Int)] = i := by simp [KFB.value]
  rw [e]
  k_steps
  · show Done _ _ _ _ _
    refine' Done.intro (by k_asm) (by k_asm) ⟨rfl, rfl⟩ ?hs ?nd
    case hs => k_allIn
    case nd => tb_rel
theorem deser (w : World) {r rd gv gd dm : Addr} {k kg : Nat → Tok} {bs pid cid tr inc : Value} {now dr ap te ln cv : Value} {len i n : Nat} {to : Tok} {vs : List Value} {v : Value}
    (hi : i < 256) (hl : len ≤ 8) (hv : vs[i]? = some v) :
    Meets w 1 70 ⟨[.ref r], []⟩ [(r, instObj 94 rd), (rd, serD w k (.ref gv) bs pid cid tr inc (.bytes (octs i len) to)), (gv, instObj 171 gd), (gd, givD w kg now dr ap te (.ref dm) ln cv), (dm, lst vs n)]
      (fun x post => x = v ∧ post = [(r, instObj 94 rd), (rd, serD w k (.ref gv) bs pid cid tr inc (.bytes (octs i len) to)), (gv, instObj 171 gd), (gd, givD w kg now dr ap te (.ref dm) ln cv), (dm, lst vs n)]) := by
  kwd_rel
  intro g h₁ envs gu d u tk0 L mean mg mb s F' N' X' T' hd hu lo nd
  try dsimp only [List.map] at nd
  try dsimp only
  k_fold
  k_steps
  refine Meets.use (loads w hi hl hv) [(r, instObj 94 rd), (rd, serD w k (.ref gv) bs pid cid tr inc (.bytes (octs i len) to))] (by k_asm) (by k_asm) (by k_asm) (by k_asm) (dep hd (by decide)) (depu hu (by decide)) (by k_allIn) (by tb_rel) ?_
  rintro h' tk v' post F' N' nd' ⟨rfl, rfl⟩
  dsimp only [List.map, List.cons_append, List.nil_append] at N' nd'
  k_steps
  · show Done _ _ _ _ _
    refine' Done.intro (by k_asm) (by k_asm) ⟨rfl, rfl⟩ ?hs ?nd
    case hs => k_allIn
    case nd => tb_rel
end
section
theorem handed_none0 (w : World) {bk pl cm ld ct rv r rd : Addr} {ob : Obj} {sz ln dv rdv : Value} {wt : Bool} {k : Nat → Tok} {gv bs pid cid tr : Value} {j nr nl : Nat} {tj : Tok} {rvs lds : List Value} {mem : Value} {inc : Value}
    (hb : SD w ob (bookK sz ln wt dv rdv pl cm ld ct)) (hj : j < 3) (hr : rvs[j]? = some (.ref r)) (hl : lds[j]? = some .none) :
    Meets w 2 203 ⟨[.ref bk, .ref rv, .int j tj, .none], []⟩ [(bk, ob), (rv, lst rvs nr), (r, instObj 94 rd), (rd, serD w k gv bs pid cid tr inc mem), (ld, lst lds nl)]
      (fun v post => v = .bool true ∧ post = [(bk, ob), (rv, lst rvs nr), (r, instObj 94 rd), (rd, serD w k gv bs pid cid tr inc mem), (ld, lst lds nl)]) := by
  unfold SD at hb
  kwd_rel
  intro g h₁ envs gu d u tk0 L mean mg mb s F' N' X' T' hd hu lo nd
  try dsimp only [List.map] at nd
  try dsimp only
  k_fold
  k_steps
  refine Meets.use (set_none w) [(bk, ob), (rv, lst rvs nr), (ld, lst lds nl)] (by k_asm) (by k_asm) (by k_asm) (by k_asm) (dep hd (by decide)) (depu hu (by decide)) (sub_pick [2, 3, 0, 1, 4] rfl rfl) (nd_pick nd [2, 3, 0, 1, 4] (by decide) rfl rfl) ?_
  rintro h' tk v' post F' N' nd' ⟨rfl, rfl⟩
  dsimp only [List.map, List.cons_append, List.nil_append] at N' nd'
  k_steps
  · show Done _ _ _ _ _
    refine' Done.intro (by k_asm) (by k_asm) ⟨rfl, rfl⟩ ?hs ?nd
    case hs => exact sub_pick [2, 3, 0, 1, 4] rfl rfl
    case nd => exact nd_pick nd' [2, 3, 0, 1, 4] (by decide) rfl rfl
theorem handed_none1 (w : World) {bk pl cm ld ct rv r rd gv gd dm t1 t2 : Addr} {ob : Obj} {sz ln dv rdv : Value} {wt : Bool} {k kg : Nat → Tok} {bs pid cid tr : Value} {now dr ap te lng cv : Value} {j nr nl nd0 len i : Nat} {tj to : Tok} {rvs lds vs : List Value} {a b : Int} {u1 u2 u3 u4 : Tok} {inc : Value}
    (hb : SD w ob (bookK sz ln wt dv rdv pl cm ld ct)) (hj : j < 3) (hr : rvs[j]? = some (.ref r)) (hl : lds[j]? = some (.ref t2)) (hi : i < 256) (hle : len ≤ 8) (hv : vs[i]? = some (.ref t1)) :
    Meets w 2 203 ⟨[.ref bk, .ref rv, .int j tj, .none], []⟩ [(bk, ob), (rv, lst rvs nr), (r, instObj 94 rd), (rd, serD w k (.ref gv) bs pid cid tr inc (.bytes (octs i len) to)), (ld, lst lds nl), (gv, instObj 171 gd), (gd, givD w kg now dr ap te (.ref dm) lng cv), (dm, lst vs nd0), (t1, tup [.int a u1, .int b u2]), (t2, tup [.int a u3, .int b u4])]
      (fun v post => v = .bool true ∧ post = [(bk, ob), (rv, lst rvs nr), (r, instObj 94 rd), (rd, serD w k (.ref gv) bs pid cid tr inc (.bytes (octs i len) to)), (ld, lst lds nl), (gv, instObj 171 gd), (gd, givD w kg now dr ap te (.ref dm) lng cv), (dm, lst vs nd0), (t1, tup [.int a u1, .int b u2]), (t2, tup [.int a u3, .int b u4])]) := by
  unfold SD at hb
  kwd_rel
  intro g h₁ envs gu d u tk0 L mean mg mb s F' N' X' T' hd hu lo nd
  try dsimp only [List.map] at nd
  try dsimp only
  k_fold
  k_steps
  refine Meets.use (set_none w) [(bk, ob), (rv, lst rvs nr), (ld, lst lds nl), (gv, instObj 171 gd), (gd, givD w kg now dr ap te (.ref dm) lng cv), (dm, lst vs nd0), (t1, tup [.int a u1, .int b u2]), (t2, tup [.int a u3, .int b u4])] (by k_asm) (by k_asm) (by k_asm) (by k_asm) (dep hd (by decide)) (depu hu (by decide)) (sub_pick [2, 3, 0, 1, 4, 5, 6, 7, 8, 9] rfl rfl) (nd_pick nd [2, 3, 0, 1, 4, 5, 6, 7, 8, 9] (by decide) rfl rfl) ?_
  rintro h' tk v' post F' N' nd' ⟨rfl, rfl⟩
  dsimp only [List.map, List.cons_append, List.nil_append] at N' nd'
  k_steps
  refine Meets.use (deser w hi hle hv) [(bk, ob), (rv, lst rvs nr), (ld, lst lds nl), (t1, tup [.int a u1, .int b u2]), (t2, tup [.int a u3, .int b u4])] (by k_asm) (by k_asm) (by k_asm) (by k_asm) (dep hd (by decide)) (depu hu (by decide)) (sub_pick [0, 1, 5, 6, 7, 2, 3, 4, 8, 9] rfl rfl) (nd_pick nd' [0, 1, 5, 6, 7, 2, 3, 4, 8, 9] (by decide) rfl rfl) ?_
  rintro h' tk v' post F' N' nd' ⟨rfl, rfl⟩
  dsimp only [List.map, List.cons_append, List.nil_append] at N' nd'
  k_steps
  · show Done _ _ _ _ _
    refine' Done.intro (by k_asm) (by k_asm) ⟨rfl, rfl⟩ ?hs ?nd
    case hs => exact sub_pick [5, 6, 0, 1, 7, 2, 3, 4, 8, 9] rfl rfl
    case nd => exact nd_pick nd' [5, 6, 0, 1, 7, 2, 3, 4, 8, 9] (by decide) rfl rfl
end
section
theorem handed_first0 (w : World) {bk pl cm ld ct rv r rd : Addr} {ob : Obj} {sz ln rdv : Value} {wt : Bool} {k : Nat → Tok} {gv bs pid cid tr : Value} {j nr nl : Nat} {tj : Tok} {rvs lds : List Value} {mem : Value} {inc : Value} {db d0 pt : Addr} {oct part : Array UInt8} {toc t : Tok} {cms : List Value} {nc : Nat}
    (hb : SD w ob (bookK sz ln wt (.ref db) rdv pl cm ld ct)) (hj : j < 3) (hr : rvs[j]? = some (.ref r)) (hl : lds[j]? = some .none) (hc : cms.length = 3) (hp : part.size ≤ 12) :
    Meets w 2 203 ⟨[.ref bk, .ref rv, .int j tj, .ref pt], []⟩ [(bk, ob), (rv, lst rvs nr), (r, instObj 94 rd), (rd, serD w k gv bs pid cid tr inc mem), (ld, lst lds nl), (cm, lst cms nc), (db, tup [.ref d0, .bytes oct toc]), (pt, tup [.bytes part t, .bool true, .bool false])]
      (fun v post => ∃ t', v = .bool true ∧ post = [(bk, ob), (rv, lst rvs nr), (r, instObj 94 rd), (rd, serD w k gv bs pid cid tr (.bytes part t') mem), (ld, lst lds nl), (cm, lst (cms.set j (.ref d0)) nc), (db, tup [.ref d0, .bytes oct toc]), (pt, tup [.bytes part t, .bool true, .bool false])]) := by
  unfold SD at hb
  kwd_rel
  intro g h₁ envs gu d u tk0 L mean mg mb s F' N' X' T' hd hu lo nd
  try dsimp only [List.map] at nd
  try dsimp only
  k_fold
  k_steps
  refine Meets.use (set_first w hp) [(bk, ob), (rv, lst rvs nr), (ld, lst lds nl), (cm, lst cms nc), (db, tup [.ref d0, .bytes oct toc])] (by k_asm) (by k_asm) (by k_asm) (by k_asm) (dep hd (by decide)) (depu hu (by decide)) (sub_pick [2, 3, 7, 0, 1, 4, 5, 6] rfl rfl) (nd_pick nd [2, 3, 7, 0, 1, 4, 5, 6] (by decide) rfl rfl) ?_
  rintro h' tk v' post F' N' nd' ⟨t', rfl, rfl⟩
  dsimp only [List.map, List.cons_append, List.nil_append] at N' nd'
  k_steps
  · show Done _ _ _ _ _
    refine' Done.intro (by k_asm) (by k_asm) ⟨t', rfl, rfl⟩ ?hs ?nd
    case hs => exact sub_pick [3, 4, 0, 1, 5, 6, 7, 2] rfl rfl
    case nd => exact nd_pick nd' [3, 4, 0, 1, 5, 6, 7, 2] (by decide) rfl rfl
end
section
theorem handed_first1 (w : World) {bk pl cm ld ct rv r rd gv gd dm t1 t2 : Addr} {ob : Obj} {sz ln rdv : Value} {wt : Bool} {k kg : Nat → Tok} {bs pid cid tr : Value} {now dr ap te lng cv : Value} {j nr nl nd0 len i : Nat} {tj to : Tok} {rvs lds vs : List Value} {a b : Int} {u1 u2 u3 u4 : Tok} {inc : Value} {db d0 pt : Addr} {oct part : Array UInt8} {toc t : Tok} {cms : List Value} {nc : Nat}
    (hb : SD w ob (bookK sz ln wt (.ref db) rdv pl cm ld ct)) (hj : j < 3) (hr : rvs[j]? = some (.ref r)) (hl : lds[j]? = some (.ref t2)) (hi : i < 256) (hle : len ≤ 8) (hv : vs[i]? = some (.ref t1)) (hc : cms.length = 3) (hp : part.size ≤ 12) :
    Meets w 2 203 ⟨[.ref bk, .ref rv, .int j tj, .ref pt], []⟩ [(bk, ob), (rv, lst rvs nr), (r, instObj 94 rd), (rd, serD w k (.ref gv) bs pid cid tr inc (.bytes (octs i len) to)), (ld, lst lds nl), (cm, lst cms nc), (db, tup [.ref d0, .bytes oct toc]), (pt, tup [.bytes part t, .bool true, .bool false]), (gv, instObj 171 gd), (gd, givD w kg now dr ap te (.ref dm) lng cv), (dm, lst vs nd0), (t1, tup [.int a u1, .int b u2]), (t2, tup [.int a u3, .int b u4])]
      (fun v post => ∃ t', v = .bool true ∧ post = [(bk, ob), (rv, lst rvs nr), (r, instObj 94 rd), (rd, serD w k (.ref gv) bs pid cid tr (.bytes part t') (.bytes (octs i len) to)), (ld, lst lds nl), (cm, lst (cms.set j (.ref d0)) nc), (db, tup [.ref d0, .bytes oct toc]), (pt, tup [.bytes part t, .bool true, .bool false]), (gv, instObj 171 gd), (gd, givD w kg now dr ap te (.ref dm) lng cv), (dm, lst vs nd0), (t1, tup [.int a u1, .int b u2]), (t2, tup [.int a u3, .int b u4])]) := by
  unfold SD at hb
  kwd_rel
  intro g h₁ envs gu d u tk0 L mean mg mb s F' N' X' T' hd hu lo nd
  try dsimp only [List.map] at nd
  try dsimp only
  k_fold
  k_steps
  refine Meets.use (set_first w hp) [(bk, ob), (rv, lst rvs nr), (ld, lst lds nl), (cm, lst cms nc), (db, tup [.ref d0, .bytes oct toc]), (gv, instObj 171 gd), (gd, givD w kg now dr ap te (.ref dm) lng cv), (dm, lst vs nd0), (t1, tup [.int a u1, .int b u2]), (t2, tup [.int a u3, .int b u4])] (by k_asm) (by k_asm) (by k_asm) (by k_asm) (dep hd (by decide)) (depu hu (by decide)) (sub_pick [2, 3, 7, 0, 1, 4, 5, 6, 8, 9, 10, 11, 12] rfl rfl) (nd_pick nd [2, 3, 7, 0, 1, 4, 5, 6, 8, 9, 10, 11, 12] (by decide) rfl rfl) ?_
  rintro h' tk v' post F' N' nd' ⟨t', rfl, rfl⟩
  dsimp only [List.map, List.cons_append, List.nil_append] at N' nd'
  k_steps
  refine Meets.use (deser w hi hle hv) [(bk, ob), (rv, lst rvs nr), (ld, lst lds nl), (cm, lst (cms.set j (.ref d0)) nc), (db, tup [.ref d0, .bytes oct toc]), (pt, tup [.bytes part t, .bool true, .bool false]), (t1, tup [.int a u1, .int b u2]), (t2, tup [.int a u3, .int b u4])] (by k_asm) (by k_asm) (by k_asm) (by k_asm) (dep hd (by decide)) (depu hu (by decide)) (sub_pick [0, 1, 8, 9, 10, 3, 4, 5, 6, 7, 2, 11, 12] rfl rfl) (nd_pick nd' [0, 1, 8, 9, 10, 3, 4, 5, 6, 7, 2, 11, 12] (by decide) rfl rfl) ?_
  rintro h' tk v' post F' N' nd' ⟨rfl, rfl⟩
  dsimp only [List.map, List.cons_append, List.nil_append] at N' nd'
  k_steps
  · show Done _ _ _ _ _
    refine' Done.intro (by k_asm) (by k_asm) ⟨t', rfl, rfl⟩ ?hs ?nd
    case hs => exact sub_pick [5, 6, 0, 1, 7, 8, 9, 10, 2, 3, 4, 11, 12] rfl rfl
    case nd => exact nd_pick nd' [5, 6, 0, 1, 7, 8, 9, 10, 2, 3, 4, 11, 12] (by decide) rfl rfl
end
section
theorem handed_mid0 (w : World) {bk pl cm ld ct rv r rd : Addr} {ob : Obj} {sz ln dv rdv : Value} {wt : Bool} {k : Nat → Tok} {gv bs pid cid tr : Value} {j nr nl : Nat} {tj : Tok} {rvs lds : List Value} {mem : Value} {pt : Addr} {part bb : Array UInt8} {t tb : Tok}
    (hb : SD w ob (bookK sz ln wt dv rdv pl cm ld ct)) (hj : j < 3) (hr : rvs[j]? = some (.ref r)) (hl : lds[j]? = some .none) (hp : part.size ≤ 12) (hbb : bb.size ≤ 12) :
    Meets w 2 203 ⟨[.ref bk, .ref rv, .int j tj, .ref pt], []⟩ [(bk, ob), (rv, lst rvs nr), (r, instObj 94 rd), (rd, serD w k gv bs pid cid tr (.bytes bb tb) mem), (ld, lst lds nl), (pt, tup [.bytes part t, .bool false, .bool false])]
      (fun v post => ∃ t', v = .bool true ∧ post = [(bk, ob), (rv, lst rvs nr), (r, instObj 94 rd), (rd, serD w k gv bs pid cid tr (.bytes (bb ++ part) t') mem), (ld, lst lds nl), (pt, tup [.bytes part t, .bool false, .bool false])]) := by
  unfold SD at hb
  kwd_rel
  intro g h₁ envs gu d u tk0 L mean mg mb s F' N' X' T' hd hu lo nd
  try dsimp only [List.map] at nd
  try dsimp only
  k_fold
  k_steps
  refine Meets.use (set_mid w hp hbb) [(bk, ob), (rv, lst rvs nr), (ld, lst lds nl)] (by k_asm) (by k_asm) (by k_asm) (by k_asm) (dep hd (by decide)) (depu hu (by decide)) (sub_pick [2, 3, 5, 0, 1, 4] rfl rfl) (nd_pick nd [2, 3, 5, 0, 1, 4] (by decide) rfl rfl) ?_
  rintro h' tk v' post F' N' nd' ⟨t', rfl, rfl⟩
  dsimp only [List.map, List.cons_append, List.nil_append] at N' nd'
  k_steps
  · show Done _ _ _ _ _
    refine' Done.intro (by k_asm) (by k_asm) ⟨t', rfl, rfl⟩ ?hs ?nd
    case hs => exact sub_pick [3, 4, 0, 1, 5, 2] rfl rfl
    case nd => exact nd_pick nd' [3, 4, 0, 1, 5, 2] (by decide) rfl rfl
end
section
theorem handed_mid1 (w : World) {bk pl cm ld ct rv r rd gv gd dm t1 t2 : Addr} {ob : Obj} {sz ln dv rdv : Value} {wt : Bool} {k kg : Nat → Tok} {bs pid cid tr : Value} {now dr ap te lng cv : Value} {j nr nl nd0 len i : Nat} {tj to : Tok} {rvs lds vs : List Value} {a b : Int} {u1 u2 u3 u4 : Tok} {pt : Addr} {part bb : Array UInt8} {t tb : Tok}
    (hb : SD w ob (bookK sz ln wt dv rdv pl cm ld ct)) (hj : j < 3) (hr : rvs[j]? = some (.ref r)) (hl : lds[j]? = some (.ref t2)) (hi : i < 256) (hle : len ≤ 8) (hv : vs[i]? = some (.ref t1)) (hp : part.size ≤ 12) (hbb : bb.size ≤ 12) :
    Meets w 2 203 ⟨[.ref bk, .ref rv, .int j tj, .ref pt], []⟩ [(bk, ob), (rv, lst rvs nr), (r, instObj 94 rd), (rd, serD w k (.ref gv) bs pid cid tr (.bytes bb tb) (.bytes (octs i len) to)), (ld, lst lds nl), (pt, tup [.bytes part t, .bool false, .bool false]), (gv, instObj 171 gd), (gd, givD w kg now dr ap te (.ref dm) lng cv), (dm, lst vs nd0), (t1, tup [.int a u1, .int b u2]), (t2, tup [.int a u3, .int b u4])]
      (fun v post => ∃ t', v = .bool true ∧ post = [(bk, ob), (rv, lst rvs nr), (r, instObj 94 rd), (rd, serD w k (.ref gv) bs pid cid tr (.bytes (bb ++ part) t') (.bytes (octs i len) to)), (ld, lst lds nl), (pt, tup [.bytes part t, .bool false, .bool false]), (gv, instObj 171 gd), (gd, givD w kg now dr ap te (.ref dm) lng cv), (dm, lst vs nd0), (t1, tup [.int a u1, .int b u2]), (t2, tup [.int a u3, .int b u4])]) := by
  unfold SD at hb
  kwd_rel
  intro g h₁ envs gu d u tk0 L mean mg mb s F' N' X' T' hd hu lo nd
  try dsimp only [List.map] at nd
  try dsimp only
  k_fold
  k_steps
  refine Meets.use (set_mid w hp hbb) [(bk, ob), (rv, lst rvs nr), (ld, lst lds nl), (gv, instObj 171 gd), (gd, givD w kg now dr ap te (.ref dm) lng cv), (dm, lst vs nd0), (t1, tup [.int a u1, .int b u2]), (t2, tup [.int a u3, .int b u4])] (by k_asm) (by k_asm) (by k_asm) (by k_asm) (dep hd (by decide)) (depu hu (by decide)) (sub_pick [2, 3, 5, 0, 1, 4, 6, 7, 8, 9, 10] rfl rfl) (nd_pick nd [2, 3, 5, 0, 1, 4, 6, 7, 8, 9, 10] (by decide) rfl rfl) ?_
  rintro h' tk v' post F' N' nd' ⟨t', rfl, rfl⟩
  dsimp only [List.map, List.cons_append, List.nil_append] at N' nd'
  k_steps
  refine Meets.use (deser w hi hle hv) [(bk, ob), (rv, lst rvs nr), (ld, lst lds nl), (pt, tup [.bytes part t, .bool false, .bool false]), (t1, tup [.int a u1, .int b u2]), (t2, tup [.int a u3, .int b u4])] (by k_asm) (by k_asm) (by k_asm) (by k_asm) (dep hd (by decide)) (depu hu (by decide)) (sub_pick [0, 1, 6, 7, 8, 3, 4, 5, 2, 9, 10] rfl rfl) (nd_pick nd' [0, 1, 6, 7, 8, 3, 4, 5, 2, 9, 10] (by decide) rfl rfl) ?_
  rintro h' tk v' post F' N' nd' ⟨rfl, rfl⟩
  dsimp only [List.map, List.cons_append, List.nil_append] at N' nd'
  k_steps
  · show Done _ _ _ _ _
    refine' Done.intro (by k_asm) (by k_asm) ⟨t', rfl, rfl⟩ ?hs ?nd
    case hs => exact sub_pick [5, 6, 0, 1, 7, 8, 2, 3, 4, 9, 10] rfl rfl
    case nd => exact nd_pick nd' [5, 6, 0, 1, 7, 8, 2, 3, 4, 9, 10] (by decide) rfl rfl
end
section
theorem handed_last (w : World) {bk pl cm ld ct rv r rd gv gd dm t1 t2 : Addr} {ob : Obj} {sz ln dv rdv : Value} {wt : Bool} {k kg : Nat → Tok} {bs pid cid tr : Value} {now dr ap te lng cv : Value} {j nr nl nd0 len i : Nat} {tj : Tok} {rvs lds vs : List Value} {a b : Int} {u1 u2 u3 u4 : Tok} {mem : Value} {pt : Addr} {part bb : Array UInt8} {t tb : Tok} {cms : List Value} {nc : Nat}
    (hb : SD w ob (bookK sz ln wt dv rdv pl cm ld ct)) (hj : j < 3) (hr : rvs[j]? = some (.ref r)) (hl : lds.length = 3) (hi : i < 256) (hle : len ≤ 8) (hv : vs[i]? = some (.ref t1)) (hcl : cms.length = 3) (hc : cms[j]? = some (.ref t2)) (hp : part.size ≤ 12) (hbb : bb.size ≤ 12) (hoct : bb ++ part = octs i len) :
    Meets w 2 203 ⟨[.ref bk, .ref rv, .int j tj, .ref pt], []⟩ [(bk, ob), (rv, lst rvs nr), (r, instObj 94 rd), (rd, serD w k (.ref gv) bs pid cid tr (.bytes bb tb) mem), (ld, lst lds nl), (cm, lst cms nc), (pt, tup [.bytes part t, .bool false, .bool true]), (gv, instObj 171 gd), (gd, givD w kg now dr ap te (.ref dm) lng cv), (dm, lst vs nd0), (t1, tup [.int a u1, .int b u2]), (t2, tup [.int a u3, .int b u4])]
      (fun v post => ∃ t', v = .bool true ∧ post = [(bk, ob), (rv, lst rvs nr), (r, instObj 94 rd), (rd, serD w k (.ref gv) bs pid cid tr .none (.bytes (octs i len) t')), (ld, lst (lds.set j (.ref t2)) nl), (cm, lst (cms.set j .none) nc), (pt, tup [.bytes part t, .bool false, .bool true]), (gv, instObj 171 gd), (gd, givD w kg now dr ap te (.ref dm) lng cv), (dm, lst vs nd0), (t1, tup [.int a u1, .int b u2]), (t2, tup [.int a u3, .int b u4])]) := by
  unfold SD at hb
  kwd_rel
  intro g h₁ envs gu d u tk0 L mean mg mb s F' N' X' T' hd hu lo nd
  try dsimp only [List.map] at nd
  try dsimp only
  k_fold
  k_steps
  refine Meets.use (set_last w hp hbb) [(bk, ob), (rv, lst rvs nr), (ld, lst lds nl), (cm, lst cms nc), (gv, instObj 171 gd), (gd, givD w kg now dr ap te (.ref dm) lng cv), (dm, lst vs nd0), (t1, tup [.int a u1, .int b u2]), (t2, tup [.int a u3, .int b u4])] (by k_asm) (by k_asm) (by k_asm) (by k_asm) (dep hd (by decide)) (depu hu (by decide)) (sub_pick [2, 3, 6, 0, 1, 4, 5, 7, 8, 9, 10, 11] rfl rfl) (nd_pick nd [2, 3, 6, 0, 1, 4, 5, 7, 8, 9, 10, 11] (by decide) rfl rfl) ?_
  rintro h' tk v' post F' N' nd' ⟨t', rfl, rfl⟩
  rw [hoct] at N'
  have hl9 : (lds.set j (.ref t2))[j]? = some (.ref t2) := List.getElem?_set_self (by omega)
  dsimp only [List.map, List.cons_append, List.nil_append] at N' nd'
  k_steps
  refine Meets.use (deser w hi hle hv) [(bk, ob), (rv, lst rvs nr), (ld, lst (lds.set j (.ref t2)) nl), (cm, lst (cms.set j .none) nc), (pt, tup [.bytes part t, .bool false, .bool true]), (t1, tup [.int a u1, .int b u2]), (t2, tup [.int a u3, .int b u4])] (by k_asm) (by k_asm) (by k_asm) (by k_asm) (dep hd (by decide)) (depu hu (by decide)) (sub_pick [1, 2, 8, 9, 10, 4, 5, 6, 7, 3, 11, 12] rfl rfl) (nd_pick nd' [0, 1, 7, 8, 9, 3, 4, 5, 6, 2, 10, 11] (by decide) rfl rfl) ?_
  rintro h' tk v' post F' N' nd' ⟨rfl, rfl⟩
  dsimp only [List.map, List.cons_append, List.nil_append] at N' nd'
  k_steps
  · show Done _ _ _ _ _
    refine' Done.intro (by k_asm) (by k_asm) ⟨t', rfl, rfl⟩ ?hs ?nd
    case hs => exact sub_pick [5, 6, 0, 1, 7, 8, 9, 2, 3, 4, 10, 11] rfl rfl
    case nd => exact nd_pick nd' [5, 6, 0, 1, 7, 8, 9, 2, 3, 4, 10, 11] (by decide) rfl rfl
end
section
theorem bInts_inj {b c : Array UInt8} (h : KBw.bInts b = KBw.bInts c) : b = c := by
  apply Array.ext'
  have h' : b.toList.map (fun x => (x.toNat : Int)) = c.toList.map (fun x => (x.toNat : Int)) := h
  generalize b.toList = l at h'
  generalize c.toList = r at h'
  clear h
  induction l generalizing r with
  | nil => cases r with
    | nil => rfl
    | cons y r => simp at h'
  | cons x l ih => cases r with
    | nil => simp at h'
    | cons y r =>
      simp only [List.map_cons, List.cons.injEq] at h'
      rw [ih r h'.2, UInt8.toNat_inj.mp (by omega : x.toNat = y.toNat)]
theorem big_octs {b : Array UInt8} {m : Nat} (hm : m < 256) (h : KBw.bInts b = (KTBy.little 4 (m : Int)).reverse) : b = #[0, 0, 0, UInt8.ofNat m] := by
  refine bInts_inj (h.trans ?_)
  have e : KTBy.little 4 (m : Int) = [(m : Int), 0, 0, 0] := by
    show [(m : Int) % 256, (m : Int) / 256 % 256, (m : Int) / 256 / 256 % 256, (m : Int) / 256 / 256 / 256 % 256] = _
    have h1 : (m : Int) % 256 = m := by omega
    have h2 : (m : Int) / 256 = 0 := by omega
    rw [h1, h2]; rfl
  rw [e]
  show [(0 : Int), 0, 0, m] = [((0 : UInt8).toNat : Int), ((0 : UInt8).toNat : Int), ((0 : UInt8).toNat : Int), ((UInt8.ofNat m).toNat : Int)]
  have : (UInt8.ofNat m).toNat = m := by simp; omega
  rw [this]; rfl
theorem dumps (w : World) {gv gd dm t1 : Addr} {kg : Nat → Tok} {now dr ap te cv : Value} {len n : Nat} {tl : Tok} {vs : List Value} (hl : len ≤ 8) (hv : vs.length < 100) :
    Meets w 0 161 ⟨[.ref gv, .ref t1], []⟩ [(gv, instObj 171 gd), (gd, givD w kg now dr ap te (.ref dm) (.int len tl) cv), (dm, lst vs n)]
      (fun x post => ∃ t, x = .bytes (octs vs.length len) t ∧ post = [(gv, instObj 171 gd), (gd, givD w kg now dr ap te (.ref dm) (.int len tl) cv), (dm, lst (vs ++ [.ref t1]) (n + 1))]) := by
  kwd_rel
  intro g h₁ envs gu d u tk0 L mean mg mb s F' N' X' T' hd hu lo nd
  try dsimp only [List.map] at nd
  try dsimp only
  k_fold
  k_steps
  have hx : (((vs ++ [Value.ref t1]).length : Nat) : Int) - 1 = ((vs.length : Nat) : Int) := by simp
  rw [hx]
  refine KTBy.to_big (k := 4) (B := 4294967296) (by decide) (by decide) (by omega) (by omega) ?_
  intro b t' k' hb _
  have hb' := big_octs (by omega) hb
  subst hb'
  clear hb
  k_steps
  refine KBy.add_bytes (by rw [Array.size_replicate]; simp; omega) ?_
  intro t9 k9
  k_steps
  · show Done _ _ _ _ _
    refine' Done.intro (by k_asm) (by k_asm) ⟨t9, rfl, rfl⟩ ?hs ?nd
    case hs => k_allIn
    case nd => tb_rel
end
section
theorem ser_waits (w : World) {sd sdd t1 : Addr} {k : Nat → Tok} {gv bs cid tr inc mem : Value} {tp ti : Tok} {x : Int} :
    Meets w 1 63 ⟨[.ref sd, .ref t1, .int x ti], []⟩ [(sd, instObj 94 sdd), (sdd, serD w k gv bs (.int (-1) tp) cid tr inc mem)]
      (fun v post => v = .none ∧ post = [(sd, instObj 94 sdd), (sdd, serD w k gv bs (.int (-1) tp) cid tr inc mem)]) := by
  kwd_rel
  intro g h₁ envs gu d u tk0 L mean mg mb s F' N' X' T' hd hu lo nd
  try dsimp only [List.map] at nd
  try dsimp only
  k_fold
  k_steps
  · show Done _ _ _ _ _
    refine' Done.intro (by k_asm) (by k_asm) ⟨rfl, rfl⟩ ?hs ?nd
    case hs => k_allIn
    case nd => tb_rel
theorem ser_idle (w : World) {sd sdd t1 gv gd dm : Addr} {k kg : Nat → Tok} {bs cid tr inc mem : Value} {now dr ap te cv : Value} {len n : Nat} {tl tp ti : Tok} {x : Int} {vs : List Value} (hl : len ≤ 8) (hv : vs.length < 100) :
    Meets w 1 63 ⟨[.ref sd, .ref t1, .int x ti], []⟩ [(sd, instObj 94 sdd), (sdd, serD w k (.ref gv) bs (.int 0 tp) cid tr inc mem), (gv, instObj 171 gd), (gd, givD w kg now dr ap te (.ref dm) (.int len tl) cv), (dm, lst vs n)]
      (fun v post => ∃ t t2, v = .none ∧ post = [(sd, instObj 94 sdd), (sdd, serD w k (.ref gv) bs (.int (-1) t2) (.int x ti) tr inc (.bytes (octs vs.length len) t)), (gv, instObj 171 gd), (gd, givD w kg now dr ap te (.ref dm) (.int len tl) cv), (dm, lst (vs ++ [.ref t1]) (n + 1))]) := by
  kwd_rel
  intro g h₁ envs gu d u tk0 L mean mg mb s F' N' X' T' hd hu lo nd
  try dsimp only [List.map] at nd
  try dsimp only
  k_fold
  k_steps
  rename News g L _ [(sd, _), (sdd, _), (gv, _), (gd, _), (dm, _)] => N2
  refine Meets.use (dumps w hl hv) [(sd, _), (sdd, _)] (by k_asm) (by k_asm) (by k_asm) N2 (by omega) (by omega) (sub_pick [2, 3, 4, 0, 1] rfl rfl) (nd_pick nd [2, 3, 4, 0, 1] (by decide) rfl rfl) ?_
  rintro h' tk v' post F' N' nd' ⟨t', rfl, rfl⟩
  dsimp only [List.map, List.cons_append, List.nil_append] at N' nd'
  k_steps
  · show Done _ _ _ _ _
    refine' Done.intro (by k_asm) (by k_asm) ⟨t', _, rfl, rfl⟩ ?hs ?nd
    case hs => k_allIn
    case nd => tb_rel
end
section
theorem chk_waits (w : World) {sd sdd : Addr} {k : Nat → Tok} {gv bs tr inc mem : Value} {tp ti : Tok} {x : Int} :
    Meets w 0 56 ⟨[.ref sd], []⟩ [(sd, instObj 94 sdd), (sdd, serD w k gv bs (.int (-1) tp) (.int x ti) tr inc mem)]
      (fun v post => ∃ y tr' ot t0 t2, v = .ref y ∧ post = [(y, tup [.int 2 t2, .int x ti]), (sd, instObj 94 sdd), (sdd, serD w k gv bs (.int 0 t0) (.int x ti) (.ref tr') inc mem), (tr', ot)] ∧ SD w ot [] ∧ (tr' == sysModules) = false) := by
  kwd_rel
  intro g h₁ envs gu d u tk0 L mean mg mb s F' N' X' T' hd hu lo nd
  try dsimp only [List.map] at nd
  try dsimp only
  k_fold
  k_steps
  · show Done _ _ _ _ _
    rename Obj.IsDictOf (PySem.strKind _ _) _ [] => h1
    rename (_ == sysModules) = false => h2
    refine' Done.intro (by k_asm) (by k_asm) ⟨_, _, _, _, _, rfl, rfl, h1, h2⟩ ?hs ?nd
    case hs => k_allIn
    case nd => tb_rel
theorem chk_idle (w : World) {sd sdd : Addr} {k : Nat → Tok} {gv bs cid tr inc mem : Value} {tp : Tok} :
    Meets w 0 56 ⟨[.ref sd], []⟩ [(sd, instObj 94 sdd), (sdd, serD w k gv bs (.int 0 tp) cid tr inc mem)]
      (fun v post => ∃ y t0, v = .ref y ∧ post = [(y, tup [.int 0 t0, .none]), (sd, instObj 94 sdd), (sdd, serD w k gv bs (.int 0 tp) cid tr inc mem)]) := by
  kwd_rel
  intro g h₁ envs gu d u tk0 L mean mg mb s F' N' X' T' hd hu lo nd
  try dsimp only [List.map] at nd
  try dsimp only
  k_fold
  k_steps
  · show Done _ _ _ _ _
    refine' Done.intro (by k_asm) (by k_asm) ⟨_, _, rfl, rfl⟩ ?hs ?nd
    case hs => k_allIn
    case nd => tb_rel
end
section
theorem cancel (w : World) {sd sdd tr : Addr} {ot : Obj} {T : List (Str × Value)} {k : Nat → Tok} {gv bs pid cid inc mem : Value} {ti : Tok} {key : Str}
    (ht : SD w ot T) (hT : T.length ≤ 1000) (hlo : (tr == sysModules) = false) :
    Meets w 0 91 ⟨[.ref sd, .str key ti], []⟩ [(sd, instObj 94 sdd), (sdd, serD w k gv bs pid cid (.ref tr) inc mem), (tr, ot)]
      (fun v post => ∃ ot', v = .none ∧ post = [(sd, instObj 94 sdd), (sdd, serD w k gv bs pid cid (.ref tr) inc mem), (tr, ot')] ∧ SD w ot' (without T key)) := by
  unfold SD at ht
  kwd_rel
  intro g h₁ envs gu d u tk0 L mean mg mb s F' N' X' T' hd hu lo nd
  try dsimp only [List.map] at nd
  try dsimp only
  k_fold
  k_steps
  · show Done _ _ _ _ _
    rename Obj.IsDictOf _ _ (without T key) => h1
    refine' Done.intro (by k_asm) (by k_asm) ⟨_, rfl, rfl, h1⟩ ?hs ?nd
    case hs => k_allIn
    case nd => tb_rel
end
section
theorem ldumps_waits (w : World) {bk sd sdd dm pl cm ld ct : Addr} {ob : Obj} {sz ln dv rdv : Value} {k : Nat → Tok} {gv bs cid tr inc mem : Value} {tp tn : Tok} {num : Int} {n : Nat} {vs : List Value}
    (hb : SD w ob (bookK sz ln true dv rdv pl cm ld ct)) (hv : vs.length < 100) (hn : 0 ≤ num) (hn2 : num < 1000000000) :
    Meets w 2 217 ⟨[.ref bk, .ref sd, .ref dm, .int num tn], []⟩ [(bk, ob), (sd, instObj 94 sdd), (sdd, serD w k gv bs (.int (-1) tp) cid tr inc mem), (dm, lst vs n)]
      (fun v post => v = .bool true ∧ post = [(bk, ob), (sd, instObj 94 sdd), (sdd, serD w k gv bs (.int (-1) tp) cid tr inc mem), (dm, lst vs n)]) := by
  unfold SD at hb
  kwd_rel
  intro g h₁ envs gu d u tk0 L mean mg mb s F' N' X' T' hd hu lo nd
  try dsimp only [List.map] at nd
  try dsimp only
  k_fold
  k_steps
  have nd1 := nd_lt (by assumption) nd
  refine Meets.use (ser_waits w) [(_, tup [.int num _, .int _ _]), (bk, ob), (dm, lst vs n)] (by k_asm) (by k_asm) (by k_asm) (by k_asm) (dep hd (by decide)) (depu hu (by decide)) (sub_pick [2, 3, 0, 1, 4] rfl rfl) (nd_pick nd1 [2, 3, 0, 1, 4] (by decide) rfl rfl) ?_
  rintro h' tk v' post F' N' nd' ⟨rfl, rfl⟩
  dsimp only [List.map, List.cons_append, List.nil_append] at N' nd'
  k_steps
  · show Done _ _ _ _ _
    refine' Done.intro (by k_asm) (by k_asm) ⟨congrArg Value.bool (beq_self_eq_true _), rfl⟩ ?hs ?nd
    case hs => exact sub_pick [3, 0, 1, 4] rfl rfl
    case nd => exact nd_pick nd' [3, 0, 1, 4] (by decide) rfl rfl
set_option genInjectivity false
set_option genSizeOfSpec false
structure LdR where
  t1 : Addr
  t2 : Addr
  db : Addr
  ob : Obj
  u1 : Tok
  u2 : Tok
  u3 : Tok
  u4 : Tok
  u5 : Tok
  u6 : Tok
  u7 : Tok
  u8 : Tok
  u9 : Tok
theorem ldumps_idle (w : World) {bk sd sdd dm gv gd pl cm ld ct : Addr} {ob : Obj} {sz dv rdv : Value} {k kg : Nat → Tok} {bs cid tr inc mem : Value} {now dr ap te cv : Value} {tp tn tl tl2 : Tok} {num : Int} {len n : Nat} {vs : List Value}
    (hb : SD w ob (bookK sz (.int len tl) false dv rdv pl cm ld ct)) (hl : len ≤ 8) (hv : vs.length < 100) (hn : 0 ≤ num) (hn2 : num < 1000000000) :
    Meets w 2 217 ⟨[.ref bk, .ref sd, .ref dm, .int num tn], []⟩ [(bk, ob), (sd, instObj 94 sdd), (sdd, serD w k (.ref gv) bs (.int 0 tp) cid tr inc mem), (gv, instObj 171 gd), (gd, givD w kg now dr ap te (.ref dm) (.int len tl2) cv), (dm, lst vs n)]
      (fun v post => ∃ z : LdR, v = .bool true ∧ post = [(dm, lst (vs ++ [.ref z.t1]) (n + 1)), (z.db, tup [.ref z.t2, .bytes (octs vs.length len) z.u5]), (z.t1, tup [.int num z.u1, .int (vs.length : Nat) z.u2]), (z.t2, tup [.int num z.u3, .int (vs.length : Nat) z.u4]), (bk, z.ob), (sd, instObj 94 sdd), (sdd, serD w k (.ref gv) bs (.int (-1) z.u6) (.int (7 * num) z.u7) tr inc (.bytes (octs vs.length len) z.u8)), (gv, instObj 171 gd), (gd, givD w kg now dr ap te (.ref dm) (.int len tl2) cv)]
        ∧ SD w z.ob (bookK sz (.int len tl) true (.ref z.db) (.int (7 * num) z.u9) pl cm ld ct)) := by
  unfold SD at hb
  kwd_rel
  intro g h₁ envs gu d u tk0 L mean mg mb s F' N' X' T' hd hu lo nd
  try dsimp only [List.map] at nd
  try dsimp only
  k_fold
  k_steps
  have nd1 := nd_lt (by assumption) nd
  refine Meets.use (ser_idle w hl hv) [(_, tup [.int num _, .int _ _]), (bk, ob)] (by k_asm) (by k_asm) (by k_asm) (by k_asm) (dep hd (by decide)) (depu hu (by decide)) (sub_pick [2, 3, 4, 5, 6, 0, 1] rfl rfl) (nd_pick nd1 [2, 3, 4, 5, 6, 0, 1] (by decide) rfl rfl) ?_
  rintro h' tk v' post F' N' nd' ⟨t8, t6, rfl, rfl⟩
  dsimp only [List.map, List.cons_append, List.nil_append] at N' nd'
  k_steps
  refine Meets.use0 (octets_meets w vs.length len _ tl (by omega) hl) (by k_asm) (by k_asm) (by k_asm) (by k_asm) (dep hd (by decide)) (depu hu (by decide)) ?_
  rintro h' tk v' post F' N' - - ⟨⟨t5, rfl⟩, rfl⟩
  dsimp only [List.cons_append, List.nil_append] at N'
  k_steps
  · show Done _ _ _ _ _
    rename Obj.IsDictOf _ _ _ => h1
    refine' Done.intro (by k_asm) (by k_asm) ⟨⟨_, _, _, _, _, _, _, _, _, _, _, _, _⟩, congrArg Value.bool (by simp), rfl, h1⟩ ?hs ?nd
    case hs => k_allIn
    case nd => exact nd_pick (nd_lt (by assumption) (nd_lt (by assumption) nd')) [6, 0, 7, 1, 8, 2, 3, 4, 5] (by decide) rfl rfl
end
section
theorem looks_idle (w : World) {bk sd sdd pl cm ld ct : Addr} {ob : Obj} {sz ln dv rdv : Value} {k : Nat → Tok} {gv bs cid tr inc mem : Value} {tp : Tok}
    (hb : SD w ob (bookK sz ln false dv rdv pl cm ld ct)) :
    Meets w 2 224 ⟨[.ref bk, .ref sd], []⟩ [(bk, ob), (sd, instObj 94 sdd), (sdd, serD w k gv bs (.int 0 tp) cid tr inc mem)]
      (fun v post => v = .bool true ∧ post = [(bk, ob), (sd, instObj 94 sdd), (sdd, serD w k gv bs (.int 0 tp) cid tr inc mem)]) := by
  unfold SD at hb
  kwd_rel
  intro g h₁ envs gu d u tk0 L mean mg mb s F' N' X' T' hd hu lo nd
  try dsimp only [List.map] at nd
  try dsimp only
  k_fold
  k_steps
  have nd1 := nd_lt (by assumption) nd
  refine Meets.use (chk_idle w) [(_, tup [.int _ _, .none]), (bk, ob)] (by k_asm) (by k_asm) (by k_asm) (by k_asm) (dep hd (by decide)) (depu hu (by decide)) (sub_pick [2, 3, 0, 1] rfl rfl) (nd_pick nd1 [2, 3, 0, 1] (by decide) rfl rfl) ?_
  rintro h' tk v' post F' N' nd' ⟨y, t0, rfl, rfl⟩
  dsimp only [List.map, List.cons_append, List.nil_append] at N' nd'
  k_steps
  · show Done _ _ _ _ _
    refine' Done.intro (by k_asm) (by k_asm) ⟨rfl, rfl⟩ ?hs ?nd
    case hs => exact sub_pick [4, 1, 2] rfl rfl
    case nd => exact nd_pick nd' [4, 1, 2] (by decide) rfl rfl
set_option genInjectivity false
set_option genSizeOfSpec false
structure LooR where
  ob : Obj
  pl : Addr
  op : Obj
  tr : Addr
  ot : Obj
  t0 : Tok
theorem looks_waits (w : World) {bk sd sdd pl cm ld ct : Addr} {ob : Obj} {sz ln dv : Value} {k : Nat → Tok} {gv bs tr inc mem : Value} {tp tx tx2 : Tok} {x : Int}
    (hb : SD w ob (bookK sz ln true dv (.int x tx2) pl cm ld ct)) :
    Meets w 2 224 ⟨[.ref bk, .ref sd], []⟩ [(bk, ob), (sd, instObj 94 sdd), (sdd, serD w k gv bs (.int (-1) tp) (.int x tx) tr inc mem)]
      (fun v post => ∃ z : LooR, v = .bool true ∧ post = [(bk, z.ob), (z.pl, z.op), (sd, instObj 94 sdd), (sdd, serD w k gv bs (.int 0 z.t0) (.int x tx) (.ref z.tr) inc mem), (z.tr, z.ot)]
        ∧ SD w z.ob (bookK sz ln false dv (.int x tx2) z.pl cm ld ct) ∧ ID w z.op [] ∧ (z.pl == sysModules) = false ∧ SD w z.ot [] ∧ (z.tr == sysModules) = false) := by
  unfold SD at hb
  kwd_rel
  intro g h₁ envs gu d u tk0 L mean mg mb s F' N' X' T' hd hu lo nd
  try dsimp only [List.map] at nd
  try dsimp only
  k_fold
  k_steps
  have nd1 := nd_lt (by assumption) (nd_lt (by assumption) (nd_lt (by assumption) (nd_lt (by assumption) nd)))
  rename Obj.IsDictOf (PySem.intKind _ _) _ [] => h3
  rename (_ == sysModules) = false => h4
  rename Obj.IsDictOf (PySem.strKind _ _) _ [_, _, _, _, _, _, _, _, _] => h5
  refine Meets.use (chk_waits w) [(_, tup [.int 2 _, .int x tx2]), (bk, _), (_, _)] (by k_asm) (by k_asm) (by k_asm) (by k_asm) (dep hd (by decide)) (depu hu (by decide)) (sub_pick [5, 6, 2, 4, 1] rfl rfl) (nd_pick nd1 [5, 6, 2, 4, 1] (by decide) rfl rfl) ?_
  rintro h' tk v' post F' N' nd' ⟨y, tr', ot, t0, t2, rfl, rfl, h6, h7⟩
  dsimp only [List.map, List.cons_append, List.nil_append] at N' nd'
  k_steps
  · show Done _ _ _ _ _
    refine' Done.intro (by k_asm) (by k_asm) ⟨⟨_, _, _, _, _, t0⟩, rfl, rfl, h5, h3, h4, h6, h7⟩ ?hs ?nd
    case hs => exact sub_pick [5, 6, 1, 2, 3] rfl rfl
    case nd => exact nd_pick nd' [5, 6, 1, 2, 3] (by decide) rfl rfl
end
section
abbrev rkey (j : Nat) : Str := Str.ofString "r" ++ Str.ofString (toString (j : Int))
theorem lcancels (w : World) {bk sd sdd pl tr cm ld ct : Addr} {ob op ot : Obj} {sz ln dv rdv : Value} {wt : Bool} {k : Nat → Tok} {gv bs pid cid inc mem : Value} {j nc : Nat} {tj : Tok} {P : List (Int × Value)} {T : List (Str × Value)} {cts : List Value}
    (hb : SD w ob (bookK sz ln wt dv rdv pl cm ld ct)) (hp : ID w op P) (hP : P.length ≤ 1000) (ht : SD w ot T) (hT : T.length ≤ 1000) (hlo : (tr == sysModules) = false) (hj : j < 3) (hc : cts.length = 3) :
    Meets w 2 231 ⟨[.ref bk, .ref sd, .int j tj], []⟩ [(bk, ob), (pl, op), (ct, lst cts nc), (sd, instObj 94 sdd), (sdd, serD w k gv bs pid cid (.ref tr) inc mem), (tr, ot)]
      (fun v post => ∃ ob' op' ot' t0, v = .none ∧ post = [(bk, ob'), (pl, op'), (ct, lst (cts.set j (.bool false)) nc), (sd, instObj 94 sdd), (sdd, serD w k gv bs pid cid (.ref tr) inc mem), (tr, ot')]
        ∧ SD w ob' (bookK sz ln wt dv rdv pl cm ld ct) ∧ ID w op' (stored P (j : Int) (.int 0 t0)) ∧ SD w ot' (without T (rkey j))) := by
  unfold SD at hb ht; unfold ID at hp
  kwd_rel
  intro g h₁ envs gu d u tk0 L mean mg mb s F' N' X' T' hd hu lo nd
  try dsimp only [List.map] at nd
  try dsimp only
  k_fold
  k_steps
  refine Meets.use (cancel w ht hT hlo) [(bk, ob), (pl, op), (ct, lst cts nc)] (by k_asm) (by k_asm) (by k_asm) (by k_asm) (dep hd (by decide)) (depu hu (by decide)) (sub_pick [3, 4, 5, 0, 1, 2] rfl rfl) (nd_pick nd [3, 4, 5, 0, 1, 2] (by decide) rfl rfl) ?_
  rintro h' tk v' post F' N' nd' ⟨ot', rfl, rfl, h6⟩
  dsimp only [List.map, List.cons_append, List.nil_append] at N' nd'
  k_steps
  · show Done _ _ _ _ _
    rename Obj.IsDictOf _ _ (stored P _ _) => h7
    refine' Done.intro (by k_asm) (by k_asm) ⟨_, _, _, _, rfl, rfl, hb, h7, h6⟩ ?hs ?nd
    case hs => exact sub_pick [4, 5, 6, 1, 2, 3] rfl rfl
    case nd => exact nd_pick nd' [3, 4, 5, 0, 1, 2] (by decide) rfl rfl
end
section
theorem asks_waits (w : World) {bk sd sdd pl cm ld ct rv tr : Addr} {ob : Obj} {sz ln dv rdv : Value} {k : Nat → Tok} {gv bs cid inc mem : Value} {tp tj : Tok} {j nc : Nat} {cts : List Value} {c : Bool} {R preH restH : List (Addr × Obj)} {PostH : List (Addr × Obj) → Prop}
    (hb : SD w ob (bookK sz ln true dv rdv pl cm ld ct)) (hj : j < 3) (hc : cts[j]? = some (.bool c))
    (H : c = false → Meets w 2 203 ⟨[.ref bk, .ref rv, .int j tj, .none], []⟩ ((bk, ob) :: preH) (fun v post => v = .bool true ∧ PostH post)) (hR : R = preH ++ restH) :
    MeetsL w 210 ⟨[.ref bk, .ref sd, .ref rv, .int j tj], []⟩ ([(bk, ob), (ct, lst cts nc), (sd, instObj 94 sdd), (sdd, serD w k gv bs (.int (-1) tp) cid (.ref tr) inc mem)] ++ R)
      (fun v post => v = .bool true ∧ ((c = true ∧ post = [(bk, ob), (ct, lst cts nc), (sd, instObj 94 sdd), (sdd, serD w k gv bs (.int (-1) tp) cid (.ref tr) inc mem)] ++ R)
        ∨ (c = false ∧ ∃ q, PostH q ∧ post = (q ++ [(ct, lst cts nc), (sd, instObj 94 sdd), (sdd, serD w k gv bs (.int (-1) tp) cid (.ref tr) inc mem)]) ++ restH))) := by
  unfold SD at hb
  ksw_less
  intro g g₀ h₁ env L0 o0 gu d u tk0 L mean mg mb s W F' N' Fs X' T' hd hu nd ndR
  simp only [List.cons_append, List.nil_append] at N'
  dsimp only [List.map, List.cons_append, List.nil_append] at nd
  try dsimp only
  show wpAny _ ⟨none, d + 1, some _, gu, u + 3⟩ _ _ _ _
  k_fold
  k_steps
  refine Meets.use (piece_waits w hb) [(ct, lst cts nc), (sd, instObj 94 sdd), (sdd, serD w k gv bs (.int (-1) tp) cid (.ref tr) inc mem), (L0, o0)] (by k_asm) (by k_asm) (by k_asm) (by k_asm) (by omega) (by omega) (sub_pick [0, 1, 2, 3, 4] rfl rfl) nd ?_
  rintro h' tk v' post F' N' nd' ⟨rfl, rfl⟩
  dsimp only [List.map, List.cons_append, List.nil_append] at N' nd'
  k_steps
  refine Meets.use (get_waits w) [(bk, ob), (ct, lst cts nc), (L0, o0)] (by k_asm) (by k_asm) (by k_asm) (by k_asm) (by omega) (by omega) (sub_pick [2, 3, 0, 1, 4] rfl rfl) (nd_pick nd' [2, 3, 0, 1, 4] (by decide) rfl rfl) ?_
  rintro h' tk v' post F' N' nd' ⟨rfl, rfl⟩
  dsimp only [List.map, List.cons_append, List.nil_append] at N' nd'
  k_steps
  · show DoneX _ _ _ _ _ _
    rename c = true => hct
    subst hct
    exact asks_end [(bk, ob), (ct, lst cts nc), (sd, instObj 94 sdd), (sdd, serD w k gv bs (.int (-1) tp) cid (.ref tr) inc mem)] W (by k_asm) (by k_asm) ndR (TI.SameUp.refl _) (sub_pick [2, 3, 0, 1, 4] rfl rfl) (nd_pick nd' [2, 3, 0, 1, 4] (by decide) rfl rfl) ⟨rfl, .inl ⟨rfl, rfl⟩⟩
  · rename c = false => hcf
    refine asks_use (pre1 := [(bk, ob)]) (H hcf) [(ct, lst cts nc), (sd, instObj 94 sdd), (sdd, serD w k gv bs (.int (-1) tp) cid (.ref tr) inc mem), (L0, o0)] W (by k_asm) (by k_asm) hR ndR (by omega) (by omega) (sub_pick [2, 3, 0, 1, 4] rfl rfl) (nd_pick nd' [2, 3, 0, 1, 4] (by decide) rfl rfl) ?_
    rintro h' tk v' post F9 N9 nd9 ⟨rfl, hq⟩
    k_steps
    · show DoneX _ _ _ _ _ _
      exact asks_end2 (oth := [(ct, lst cts nc), (sd, instObj 94 sdd), (sdd, serD w k gv bs (.int (-1) tp) cid (.ref tr) inc mem)]) F9 N9 nd9 (TI.SameUp.refl _) ⟨rfl, .inr ⟨hcf, _, hq, rfl⟩⟩
end
section
theorem asks_nil (w : World) {bk sd sdd pl cm ld ct rv tr : Addr} {ob ot : Obj} {sz : Nat} {ln rdv szv : Value} {k : Nat → Tok} {gv cid inc : Value} {tp tj tb : Tok} {j nc : Nat} {cts : List Value} {T : List (Str × Value)} {c : Bool} {R preH restH : List (Addr × Obj)} {PostH : List (Addr × Obj) → Prop}
    (hb : SD w ob (bookK szv ln false .none rdv pl cm ld ct)) (hj : j < 3) (hc : cts[j]? = some (.bool c)) (ht : SD w ot T) (hT : T.length ≤ 1000) (hlo : (tr == sysModules) = false) (hv : valueAt T (rkey j) = none)
    (H : c = false → Meets w 2 203 ⟨[.ref bk, .ref rv, .int j tj, .none], []⟩ ((bk, ob) :: preH) (fun v post => v = .bool true ∧ PostH post)) (hR : R = preH ++ restH) :
    MeetsL w 210 ⟨[.ref bk, .ref sd, .ref rv, .int j tj], []⟩ ([(bk, ob), (ct, lst cts nc), (sd, instObj 94 sdd), (sdd, serD w k gv (.int sz tb) (.int 0 tp) cid (.ref tr) inc .none), (tr, ot)] ++ R)
      (fun v post => v = .bool true ∧ ((c = true ∧ post = [(bk, ob), (ct, lst cts nc), (sd, instObj 94 sdd), (sdd, serD w k gv (.int sz tb) (.int 0 tp) cid (.ref tr) inc .none), (tr, ot)] ++ R)
        ∨ (c = false ∧ ∃ q, PostH q ∧ post = (q ++ [(ct, lst cts nc), (sd, instObj 94 sdd), (sdd, serD w k gv (.int sz tb) (.int 0 tp) cid (.ref tr) inc .none), (tr, ot)]) ++ restH))) := by
  unfold SD at hb
  ksw_less
  intro g g₀ h₁ env L0 o0 gu d u tk0 L mean mg mb s W F' N' Fs X' T' hd hu nd ndR
  simp only [List.cons_append, List.nil_append] at N'
  dsimp only [List.map, List.cons_append, List.nil_append] at nd
  try dsimp only
  show wpAny _ ⟨none, d + 1, some _, gu, u + 3⟩ _ _ _ _
  k_fold
  k_steps
  refine Meets.use (piece_nodump w hb) [(ct, lst cts nc), (sd, instObj 94 sdd), (sdd, serD w k gv (.int sz tb) (.int 0 tp) cid (.ref tr) inc .none), (tr, ot), (L0, o0)] (by k_asm) (by k_asm) (by k_asm) (by k_asm) (by omega) (by omega) (sub_pick [0, 1, 2, 3, 4, 5] rfl rfl) (nd_pick nd [0, 1, 2, 3, 4, 5] (by decide) rfl rfl) ?_
  rintro h' tk v' post F' N' nd' ⟨rfl, rfl⟩
  dsimp only [List.map, List.cons_append, List.nil_append] at N' nd'
  k_steps
  have nd2 := nd_pick nd' [2, 3, 4, 0, 1, 5] (by decide) rfl (l' := [sd, sdd, tr, bk, ct, L0]) rfl
  refine MeetsX.use (get_nil w ht hT hlo hv) [(bk, ob), (ct, lst cts nc)] (frs := [(L0, o0)]) (by k_asm) (by k_asm) (by k_asm) (by k_asm) rfl rfl Fs (by omega) (by omega) (sub_pick [2, 3, 4, 0, 1] rfl rfl) (sub_pick [5] rfl rfl) (nd_pick nd' [2, 3, 4, 0, 1] (by decide) rfl rfl)
    (off_symm (nd_split (a := [(sd, instObj 94 sdd), (sdd, serD w k gv (.int sz tb) (.int 0 tp) cid (.ref tr) inc .none), (tr, ot), (bk, ob), (ct, lst cts nc)]) (b := [(L0, o0)]) nd2).2.2) ?_
  rintro h' tk v' post frs' F' N' SU offF nd' ⟨rfl, rfl⟩
  obtain ⟨sl, rfl⟩ := TLg.one_up SU
  have nd3 := nd_app nd' (b := [(L0, { o0 with slots := sl })]) (List.nodup_cons.mpr ⟨List.not_mem_nil, List.nodup_nil⟩) (off_symm offF)
  dsimp only [List.map, List.cons_append, List.nil_append] at N' nd' nd3
  k_steps
  · show DoneX _ _ _ _ _ _
    rename c = true => hct
    subst hct
    exact asks_end [(bk, ob), (ct, lst cts nc), (sd, instObj 94 sdd), (sdd, serD w k gv (.int sz tb) (.int 0 tp) cid (.ref tr) inc .none), (tr, ot)] W (by k_asm) (by k_asm) ndR SU (sub_pick [3, 4, 0, 1, 2, 5] rfl rfl) (nd_pick nd3 [3, 4, 0, 1, 2, 5] (by decide) rfl rfl) ⟨rfl, .inl ⟨rfl, rfl⟩⟩
  · rename c = false => hcf
    refine asks_use (pre1 := [(bk, ob)]) (H hcf) [(ct, lst cts nc), (sd, instObj 94 sdd), (sdd, serD w k gv (.int sz tb) (.int 0 tp) cid (.ref tr) inc .none), (tr, ot), (L0, _)] W (by k_asm) (by k_asm) hR ndR (by omega) (by omega) (sub_pick [3, 4, 0, 1, 2, 5] rfl rfl) (nd_pick nd3 [3, 4, 0, 1, 2, 5] (by decide) rfl rfl) ?_
    rintro h' tk v' post F9 N9 nd9 ⟨rfl, hq⟩
    k_steps
    · show DoneX _ _ _ _ _ _
      exact asks_end2 (oth := [(ct, lst cts nc), (sd, instObj 94 sdd), (sdd, serD w k gv (.int sz tb) (.int 0 tp) cid (.ref tr) inc .none), (tr, ot)]) F9 N9 nd9 SU ⟨rfl, .inr ⟨hcf, _, hq, rfl⟩⟩
end
section
open PySem.SeqAt in
theorem eqAt_bytes {A : Around} {s : Shared} (b : Array UInt8) (t u : Tok) : EqAt A s (.bytes b t) (.bytes b u) true := fun prog w E Q h => by
  unfold eqBool
  refine wpAny_holding ?_
  refine wpAny_ite_split (fun _ => wpAny_bind (wpAny_rule (wpAny_pure h))) (fun _ => ?_)
  exact wpAny_bind (eq_bytes (by rw [beq_self_eq_true]; exact wpAny_truthy_bool h))
open PySem.SeqAt in
theorem eq_tup3 {prog : Program} {w : World} {A : Around} {E : Value → Shared → Prop} {s : Shared} {g : Heap} {L : Addr} {news : List (Addr × Obj)} {a c : Addr} {b : Array UInt8} {t u : Tok} {x y : Bool} {Q : Value → Shared → Prop}
    (N : News g L s.heap news) (ha : (a, tup [.bytes b t, .bool x, .bool y]) ∈ news) (hc : (c, tup [.bytes b u, .bool x, .bool y]) ∈ news) (hu : A.units < cLine) (h : Q (.bool true) s) :
    wpAny (model prog w) A (compareOp .Eq (.ref a) (.ref c)) Q E s := by
  refine eq_tupleAt (items := #[.bytes b t, .bool x, .bool y]) (items2 := #[.bytes b u, .bool x, .bool y]) (e := fun _ => true) ⟨_, (N _ ha).1, rfl, _, rfl⟩ ⟨_, (N _ hc).1, rfl, _, rfl⟩ hu (fun j h1 h2 => ?_) h
  match j, h1 with
  | 0, _ => exact eqAt_bytes _ _ _
  | 1, _ => exact EqAt.same _
  | 2, _ => exact EqAt.same _
  | n + 3, h => exact absurd h (by simp)
set_option genInjectivity false
set_option genSizeOfSpec false
structure AskR where
  ta : Addr
  op : Obj
  ot : Obj
  oa : Obj
  P : List (Int × Value)
  t9 : Tok
end
section
local macro_rules | `(tactic| walk_at "compareOp Eq ref ref") => `(tactic| (k_here; (with_reducible show wpAny _ _ (compareOp CmpOp.Eq (Value.ref _) (Value.ref _)) _ _ _); k_dflt (refine eq_tup3 (by k_asm) (by k_mem) (by k_mem) (by k_units) ?_)))
theorem asks_new (w : World) {bk sd sdd pl cm ld ct rv tr db : Addr} {ob op ot : Obj} {sz : Nat} {ln rdv d0 : Value} {k : Nat → Tok} {gv cid inc : Value} {tp tj tb ts tm to : Tok} {j nc : Nat} {cts : List Value} {P : List (Int × Value)} {T : List (Str × Value)} {oct : Array UInt8} {c : Bool} {R preH restH : List (Addr × Obj)} {PostH : Addr → Tok → List (Addr × Obj) → Prop}
    (hb : SD w ob (bookK (.int sz ts) ln false (.ref db) rdv pl cm ld ct)) (hj : j < 3) (hc : cts[j]? = some (.bool c)) (hp : ID w op P) (hP : P.length ≤ 1000) (hpl : (pl == sysModules) = false) (hvp : PlAt P j 0) (hsz : 1 ≤ sz ∧ sz ≤ 5) (ho : oct.size ≤ 12) (ho4 : 4 ≤ oct.size)
    (ht : SD w ot T) (hT : T.length ≤ 1000) (hlo : (tr == sysModules) = false) (hv : valueAt T (rkey j) = none)
    (H : c = false → ∀ x t, Meets w 2 203 ⟨[.ref bk, .ref rv, .int j tj, .ref x], []⟩ ([(bk, ob), (db, tup [d0, .bytes oct to]), (x, tup [.bytes (oct.extract 0 (0 + sz)) t, .bool true, .bool false])] ++ preH) (fun v post => v = .bool true ∧ PostH x t post)) (hR : R = preH ++ restH) :
    MeetsL w 210 ⟨[.ref bk, .ref sd, .ref rv, .int j tj], []⟩ ([(bk, ob), (db, tup [d0, .bytes oct to]), (pl, op), (ct, lst cts nc), (sd, instObj 94 sdd), (sdd, serD w k gv (.int sz tb) (.int 0 tp) cid (.ref tr) inc (.bytes oct tm)), (tr, ot)] ++ R)
      (fun v post => v = .bool true ∧ ∃ z : AskR, ID w z.op z.P ∧ PlStep P z.P j (0 + (oct.extract 0 (0 + sz)).size) ∧ SD w z.ot (stored T (rkey j) (.ref z.ta)) ∧ SD w z.oa [(Str.ofString "transmitted", .int ((oct.extract 0 (0 + sz)).size : Nat) z.t9), (Str.ofString "data", .bytes oct tm)] ∧ ((c = true ∧ post = [(bk, ob), (db, tup [d0, .bytes oct to]), (pl, z.op), (ct, lst cts nc), (sd, instObj 94 sdd), (sdd, serD w k gv (.int sz tb) (.int 0 tp) cid (.ref tr) inc (.bytes oct tm)), (tr, z.ot), (z.ta, z.oa)] ++ R)
        ∨ (c = false ∧ ∃ x t q, PostH x t q ∧ post = (q ++ [(pl, z.op), (ct, lst cts nc), (sd, instObj 94 sdd), (sdd, serD w k gv (.int sz tb) (.int 0 tp) cid (.ref tr) inc (.bytes oct tm)), (tr, z.ot), (z.ta, z.oa)]) ++ restH))) := by
  unfold SD at hb
  obtain ⟨part, hpart⟩ : ∃ part, part = (oct.extract 0 (0 + sz)) := ⟨_, rfl⟩
  ksw_less
  intro g g₀ h₁ env L0 o0 gu d u tk0 L mean mg mb s W F' N' Fs X' T' hd hu nd ndR
  simp only [List.cons_append, List.nil_append] at N'
  dsimp only [List.map, List.cons_append, List.nil_append] at nd
  try dsimp only
  show wpAny _ ⟨none, d + 1, some _, gu, u + 3⟩ _ _ _ _
  k_fold
  k_steps
  refine Meets.use (piece_some w hb hp hP hpl hvp hsz ho (Nat.zero_le _)) [(ct, lst cts nc), (sd, instObj 94 sdd), (sdd, serD w k gv (.int sz tb) (.int 0 tp) cid (.ref tr) inc (.bytes oct tm)), (tr, ot), (L0, o0)] (by k_asm) (by k_asm) (by k_asm) (by k_asm) (by omega) (by omega) (sub_pick [0, 2, 1, 3, 4, 5, 6, 7] rfl rfl) (nd_pick nd [0, 2, 1, 3, 4, 5, 6, 7] (by decide) rfl rfl) ?_
  rintro h' tk v' post F' N' nd' ⟨y, op', P', ty, b1, b2, rfl, rfl, h6, hb1, hb2, h7⟩
  rw [← hpart] at N' h7
  rw [decide_eq_true rfl] at hb1
  rw [decide_eq_false (by omega)] at hb2
  rw [if_neg (by omega)] at h7
  dsimp only [List.map, List.cons_append, List.nil_append] at N' nd'
  k_steps
  refine Meets.use (get_new w ht hT hlo hv hsz ho ho4) [(y, tup [.bytes part ty, .bool b1, .bool b2]), (bk, ob), (pl, op'), (db, tup [d0, .bytes oct to]), (ct, lst cts nc), (L0, o0)] (by k_asm) (by k_asm) (by k_asm) (by k_asm) (by omega) (by omega) (sub_pick [5, 6, 7, 0, 1, 2, 3, 4, 8] rfl rfl) (nd_pick nd' [5, 6, 7, 0, 1, 2, 3, 4, 8] (by decide) rfl rfl) ?_
  rintro h' tk v' post F' N' nd' ⟨x, ta, oa', ot', t, t9, b3, b4, rfl, rfl, hb3, hb4, h8, h9⟩
  rw [← hpart] at N'
  obtain rfl : b3 = b1 := hb3.trans hb1.symm
  obtain rfl : b4 = b2 := hb4.trans hb2.symm
  dsimp only [List.map, List.cons_append, List.nil_append] at N' nd'
  k_steps
  · show DoneX _ _ _ _ _ _
    rename c = true => hct
    subst hct
    rw [hpart] at h7
    exact asks_end [(bk, ob), (db, tup [d0, .bytes oct to]), (pl, op'), (ct, lst cts nc), (sd, instObj 94 sdd), (sdd, serD w k gv (.int sz tb) (.int 0 tp) cid (.ref tr) inc (.bytes oct tm)), (tr, ot'), (ta, oa')] W (by k_asm) (by k_asm) ndR (TI.SameUp.refl _) (sub_pick [6, 8, 7, 9, 2, 3, 4, 1, 10] rfl rfl) (nd_pick nd' [6, 8, 7, 9, 2, 3, 4, 1, 10] (by decide) rfl rfl) ⟨rfl, ⟨ta, op', ot', oa', P', t9⟩, h6, h7, h8, h9, .inl ⟨rfl, rfl⟩⟩
  · rename c = false => hcf
    rw [hpart] at h7
    refine asks_use (pre1 := [(bk, ob), (db, tup [d0, .bytes oct to]), (x, tup [.bytes (oct.extract 0 (0 + sz)) t, .bool true, .bool false])]) (H hcf x t) [(pl, op'), (ct, lst cts nc), (sd, instObj 94 sdd), (sdd, serD w k gv (.int sz tb) (.int 0 tp) cid (.ref tr) inc (.bytes oct tm)), (tr, ot'), (ta, oa'), (L0, o0)] W (by k_asm) (by k_asm) hR ndR (by omega) (by omega) (sub_pick [6, 8, 0, 7, 9, 2, 3, 4, 1, 10] rfl (by rw [← hpart, hb1, hb2]; rfl)) (nd_pick nd' [6, 8, 0, 7, 9, 2, 3, 4, 1, 10] (by decide) rfl rfl) ?_
    rintro h' tk v' post F9 N9 nd9 ⟨rfl, hq⟩
    k_steps
    · show DoneX _ _ _ _ _ _
      exact asks_end2 (oth := [(pl, op'), (ct, lst cts nc), (sd, instObj 94 sdd), (sdd, serD w k gv (.int sz tb) (.int 0 tp) cid (.ref tr) inc (.bytes oct tm)), (tr, ot'), (ta, oa')]) F9 N9 nd9 (TI.SameUp.refl _) ⟨rfl, ⟨ta, op', ot', oa', P', t9⟩, h6, h7, h8, h9, .inr ⟨hcf, _, _, _, hq, rfl⟩⟩
end
section
local macro_rules | `(tactic| walk_at "compareOp Eq ref ref") => `(tactic| (k_here; (with_reducible show wpAny _ _ (compareOp CmpOp.Eq (Value.ref _) (Value.ref _)) _ _ _); k_dflt (refine eq_tup3 (by k_asm) (by k_mem) (by k_mem) (by k_units) ?_)))
theorem asks_old (w : World) {bk sd sdd pl cm ld ct rv tr db ta : Addr} {ob op ot oa : Obj} {sz p : Nat} {ln rdv d0 : Value} {k : Nat → Tok} {gv cid inc : Value} {tp tj tb ts tm to t0 : Tok} {j nc : Nat} {cts : List Value} {P : List (Int × Value)} {T : List (Str × Value)} {oct : Array UInt8} {c : Bool} {R preH restH : List (Addr × Obj)} {PostH : Addr → Tok → List (Addr × Obj) → Prop}
    (hb : SD w ob (bookK (.int sz ts) ln false (.ref db) rdv pl cm ld ct)) (hj : j < 3) (hc : cts[j]? = some (.bool c)) (hp : ID w op P) (hP : P.length ≤ 1000) (hpl : (pl == sysModules) = false) (hvp : PlAt P j p) (hsz : 1 ≤ sz ∧ sz ≤ 5) (ho : oct.size ≤ 12) (ho4 : 4 ≤ oct.size)
    (ht : SD w ot T) (hT : T.length ≤ 1000) (hlo : (tr == sysModules) = false) (hv : valueAt T (rkey j) = some (.ref ta)) (ha : SD w oa [(Str.ofString "transmitted", .int p t0), (Str.ofString "data", .bytes oct tm)]) (hpo : p ≤ oct.size)
    (H : c = false → ∀ x t, Meets w 2 203 ⟨[.ref bk, .ref rv, .int j tj, .ref x], []⟩ ([(bk, ob), (db, tup [d0, .bytes oct to]), (x, tup [.bytes (oct.extract p (p + sz)) t, .bool (decide (p = 0)), .bool (decide (p = oct.size))])] ++ preH) (fun v post => v = .bool true ∧ PostH x t post)) (hR : R = preH ++ restH) :
    MeetsL w 210 ⟨[.ref bk, .ref sd, .ref rv, .int j tj], []⟩ ([(bk, ob), (db, tup [d0, .bytes oct to]), (pl, op), (ct, lst cts nc), (sd, instObj 94 sdd), (sdd, serD w k gv (.int sz tb) (.int 0 tp) cid (.ref tr) inc (.bytes oct tm)), (tr, ot), (ta, oa)] ++ R)
      (fun v post => v = .bool true ∧ ∃ z : AskR, ID w z.op z.P ∧ PlStep P z.P j (if p = oct.size then 0 else p + (oct.extract p (p + sz)).size) ∧ SD w z.ot (if p = oct.size then without T (rkey j) else T) ∧ SD w z.oa [(Str.ofString "transmitted", .int ((p + (oct.extract p (p + sz)).size : Nat) : Int) z.t9), (Str.ofString "data", .bytes oct tm)] ∧ ((c = true ∧ post = [(bk, ob), (db, tup [d0, .bytes oct to]), (pl, z.op), (ct, lst cts nc), (sd, instObj 94 sdd), (sdd, serD w k gv (.int sz tb) (.int 0 tp) cid (.ref tr) inc (.bytes oct tm)), (tr, z.ot), (ta, z.oa)] ++ R)
        ∨ (c = false ∧ ∃ x t q, PostH x t q ∧ post = (q ++ [(pl, z.op), (ct, lst cts nc), (sd, instObj 94 sdd), (sdd, serD w k gv (.int sz tb) (.int 0 tp) cid (.ref tr) inc (.bytes oct tm)), (tr, z.ot), (ta, z.oa)]) ++ restH))) := by
  unfold SD at hb
  obtain ⟨part, hpart⟩ : ∃ part, part = (oct.extract p (p + sz)) := ⟨_, rfl⟩
  ksw_less
  intro g g₀ h₁ env L0 o0 gu d u tk0 L mean mg mb s W F' N' Fs X' T' hd hu nd ndR
  simp only [List.cons_append, List.nil_append] at N'
  dsimp only [List.map, List.cons_append, List.nil_append] at nd
  try dsimp only
  show wpAny _ ⟨none, d + 1, some _, gu, u + 3⟩ _ _ _ _
  k_fold
  k_steps
  refine Meets.use (piece_some w hb hp hP hpl hvp hsz ho hpo) [(ct, lst cts nc), (sd, instObj 94 sdd), (sdd, serD w k gv (.int sz tb) (.int 0 tp) cid (.ref tr) inc (.bytes oct tm)), (tr, ot), (ta, oa), (L0, o0)] (by k_asm) (by k_asm) (by k_asm) (by k_asm) (by omega) (by omega) (sub_pick [0, 2, 1, 3, 4, 5, 6, 7, 8] rfl rfl) (nd_pick nd [0, 2, 1, 3, 4, 5, 6, 7, 8] (by decide) rfl rfl) ?_
  rintro h' tk v' post F' N' nd' ⟨y, op', P', ty, b1, b2, rfl, rfl, h6, hb1, hb2, h7⟩
  rw [← hpart] at N' h7
  dsimp only [List.map, List.cons_append, List.nil_append] at N' nd'
  k_steps
  refine Meets.use (get_old w ht hT hlo hv ha hsz ho hpo) [(y, tup [.bytes part ty, .bool b1, .bool b2]), (bk, ob), (pl, op'), (db, tup [d0, .bytes oct to]), (ct, lst cts nc), (L0, o0)] (by k_asm) (by k_asm) (by k_asm) (by k_asm) (by omega) (by omega) (sub_pick [8, 5, 6, 7, 0, 1, 2, 3, 4, 9] rfl rfl) (nd_pick nd' [8, 5, 6, 7, 0, 1, 2, 3, 4, 9] (by decide) rfl rfl) ?_
  rintro h' tk v' post F' N' nd' ⟨x, oa', ot', t, t9, b3, b4, rfl, rfl, hb3, hb4, h8, h9⟩
  rw [← hpart] at N'
  obtain rfl : b3 = b1 := hb3.trans hb1.symm
  obtain rfl : b4 = b2 := hb4.trans hb2.symm
  dsimp only [List.map, List.cons_append, List.nil_append] at N' nd'
  k_steps
  · show DoneX _ _ _ _ _ _
    rename c = true => hct
    subst hct
    rw [hpart] at h7
    exact asks_end [(bk, ob), (db, tup [d0, .bytes oct to]), (pl, op'), (ct, lst cts nc), (sd, instObj 94 sdd), (sdd, serD w k gv (.int sz tb) (.int 0 tp) cid (.ref tr) inc (.bytes oct tm)), (tr, ot'), (ta, oa')] W (by k_asm) (by k_asm) ndR (TI.SameUp.refl _) (sub_pick [6, 8, 7, 9, 2, 3, 4, 1, 10] rfl rfl) (nd_pick nd' [6, 8, 7, 9, 2, 3, 4, 1, 10] (by decide) rfl rfl) ⟨rfl, ⟨ta, op', ot', oa', P', t9⟩, h6, h7, h8, h9, .inl ⟨rfl, rfl⟩⟩
  · rename c = false => hcf
    rw [hpart] at h7
    refine asks_use (pre1 := [(bk, ob), (db, tup [d0, .bytes oct to]), (x, tup [.bytes (oct.extract p (p + sz)) t, .bool (decide (p = 0)), .bool (decide (p = oct.size))])]) (H hcf x t) [(pl, op'), (ct, lst cts nc), (sd, instObj 94 sdd), (sdd, serD w k gv (.int sz tb) (.int 0 tp) cid (.ref tr) inc (.bytes oct tm)), (tr, ot'), (ta, oa'), (L0, o0)] W (by k_asm) (by k_asm) hR ndR (by omega) (by omega) (sub_pick [6, 8, 0, 7, 9, 2, 3, 4, 1, 10] rfl (by rw [← hpart, hb1, hb2]; rfl)) (nd_pick nd' [6, 8, 0, 7, 9, 2, 3, 4, 1, 10] (by decide) rfl rfl) ?_
    rintro h' tk v' post F9 N9 nd9 ⟨rfl, hq⟩
    k_steps
    · show DoneX _ _ _ _ _ _
      exact asks_end2 (oth := [(pl, op'), (ct, lst cts nc), (sd, instObj 94 sdd), (sdd, serD w k gv (.int sz tb) (.int 0 tp) cid (.ref tr) inc (.bytes oct tm)), (tr, ot'), (ta, oa')]) F9 N9 nd9 (TI.SameUp.refl _) ⟨rfl, ⟨ta, op', ot', oa', P', t9⟩, h6, h7, h8, h9, .inr ⟨hcf, _, _, _, hq, rfl⟩⟩
end
section
section
variable {w : World} {l : Nat} {f : Addr} {args : Args} {pre pre' X : List (Addr × Obj)} {Post Post' : Value → List (Addr × Obj) → Prop}
theorem off_perm {a a' b : List (Addr × Obj)} (P : a.Perm a') (h : Off a b) : Off a' b := fun p hp q hq => h p (P.mem_iff.mpr hp) q hq
theorem Meets.conv (M : Meets w l f args pre Post) (P : pre.Perm pre') (h : ∀ v post, Post v post → Post' v post) : Meets w l f args pre' Post' := by
  intro h₀ outer gu d u L m mean mg mb rest s R F X T hd hu N off nd k
  refine M h₀ outer gu d u L m mean mg mb rest s R F X T hd hu (fun p hp => N p ?_) (off_perm P.symm off) ((P.map (·.1)).nodup_iff.mpr nd) fun h' tk v post F' N' o' n' z hP => k h' tk v post F' N' o' n' z (h v post hP)
  rcases List.mem_append.mp hp with hp | hp
  · exact List.mem_append_left _ (P.mem_iff.mp hp)
  · exact List.mem_append_right _ hp
theorem Meets.frame (M : Meets w l f args pre Post) (X : List (Addr × Obj)) : Meets w l f args (pre ++ X) (fun v post => ∃ q, post = q ++ X ∧ Post v q) := by
  intro h₀ outer gu d u L m mean mg mb rest s R F K T hd hu N off nd k
  obtain ⟨n1, n2, n3⟩ := nd_split nd
  refine M h₀ outer gu d u L m mean mg mb (X ++ rest) s R F K T hd hu (by rw [← List.append_assoc]; exact N) (off_app' n3 (off_sub off (fun _ h => List.mem_append_left _ h) fun _ h => h)) n1 fun h' tk v q F' N' o' n' z hP => ?_
  refine k h' tk v (q ++ X) F' (by rw [List.append_assoc]; exact N') (off_app (off_sub o' (fun _ h => h) fun _ h => List.mem_append_right _ h) (off_sub off (fun _ h => List.mem_append_right _ h) fun _ h => h)) (nd_app n' n2 (off_sub o' (fun _ h => h) fun _ h => List.mem_append_left _ h)) z ⟨q, rfl, hP⟩
theorem MeetsL.conv (M : MeetsL w f args pre Post) (P : pre.Perm pre') (h : ∀ v post, Post v post → Post' v post) : MeetsL w f args pre' Post' := by
  intro h₀ env gu d u L m mean mg mb rest s R F X T hf hke hd hu N off nd k
  refine M h₀ env gu d u L m mean mg mb rest s R F X T hf hke hd hu (fun p hp => N p ?_) (off_perm P.symm off) ((P.map (·.1)).nodup_iff.mpr nd) fun h' tk v post F' N' o' n' z hP => k h' tk v post F' N' o' n' z (h v post hP)
  rcases List.mem_append.mp hp with hp | hp
  · exact List.mem_append_left _ (P.mem_iff.mp hp)
  · exact List.mem_append_right _ hp
theorem Meets.toL (M : Meets w l f args pre Post) (hl : l ≤ 3) : MeetsL w f args pre Post := by
  intro h₀ env gu d u L m mean mg mb rest s R F X T hf hke hd hu N off nd k
  exact M h₀ [env] gu d u L m mean mg mb rest s R F X T (by omega) (by omega) N off nd k
/-- one use in the law's frame: what is kept (rest) may have its own doubles -/
theorem MeetsL.call {args : List Value} {h₀ : Heap} {env : Env} {gu : Option (List Code)} {d u : Nat} {L : Addr} {m : Str → Option Value}
    {mean : ExcName → Option Value} {mg mb : Str → Option Value} {s : Shared} {Q : Value → Shared → Prop} {E : Value → Shared → Prop} {news : List (Addr × Obj)}
    (M : MeetsL w f ⟨args, []⟩ pre Post) (rest : List (Addr × Obj)) (F : Fr h₀ L s.heap m) (K : (hd.heap_39 w.params).In h₀) (T : Top vw LO mean mg mb h₀) (N : News h₀ L s.heap news) (hf : env.frame = some L) (hke : env.scope.kind = .function) (hd : d ≤ 470) (hu : u ≤ 4900)
    (hs : ∀ p ∈ pre ++ rest, p ∈ news) (off : Off pre rest) (nd : (pre.map (·.1)).Nodup)
    (k : ∀ h' tk v post, Fr h₀ L h' m → News h₀ L h' (post ++ rest) → Off post rest → (post.map (·.1)).Nodup → Post v post → Q v { s with heap := h', toks := tk }) :
    wpAny (model PySem.Challenge.rw_jf0036_01.row.prog w) ⟨none, d, some [env], gu, u⟩ (call (.ref f) args) Q E s :=
  wpAny_call (M h₀ env gu d u L m mean mg mb rest s _ F K T hf hke hd hu (news_sub N hs) off nd fun h' tk v post F' N' o' n' _ P => k h' tk v post F' N' o' n' P)
end

/-- lists up to their order, by counting -/
noncomputable def one {α : Type} (b a : α) : Nat := open Classical in if b = a then 1 else 0
noncomputable def cnt {α : Type} (a : α) : List α → Nat
  | [] => 0
  | b :: l => one b a + cnt a l
theorem cnt_nil {α : Type} (a : α) : cnt a [] = 0 := rfl
theorem cnt_cons {α : Type} (a b : α) (l : List α) : cnt a (b :: l) = one b a + cnt a l := rfl
theorem cnt_app {α : Type} (a : α) (l l' : List α) : cnt a (l ++ l') = cnt a l + cnt a l' := by
  induction l with
  | nil => simp [cnt_nil]
  | cons b l ih => rw [List.cons_append, cnt_cons, cnt_cons, ih]; omega
theorem perm_cnt {α : Type} {l l' : List α} (h : ∀ a, cnt a l = cnt a l') : l.Perm l' := by
  classical
  have e : ∀ (a : α) (l : List α), cnt a l = l.count a := fun a l => by
    induction l with
    | nil => rfl
    | cons b l ih =>
      rw [cnt_cons, ih, List.count_cons]
      unfold one
      by_cases h : b = a
      · subst h; simp; omega
      · simp [h]
  exact List.perm_iff_count.mpr fun a => by rw [← e, ← e]; exact h a
theorem cnt_perm {α : Type} {l l' : List α} (h : l.Perm l') (a : α) : cnt a l = cnt a l' := by
  induction h with
  | nil => rfl
  | cons x _ ih => rw [cnt_cons, cnt_cons, ih]
  | swap x y l => simp only [cnt_cons]; omega
  | trans _ _ h1 h2 => exact h1.trans h2

def upd {α : Type} (f : Nat → α) (j : Nat) (x : α) : Nat → α := fun i => if i = j then x else f i
theorem upd_same {α : Type} (f : Nat → α) (j : Nat) (x : α) : upd f j x j = x := if_pos rfl
theorem upd_ne {α : Type} (f : Nat → α) {i j : Nat} (x : α) (h : i ≠ j) : upd f j x i = f i := if_neg h
def all3 (f : Nat → List (Addr × Obj)) : List (Addr × Obj) := f 0 ++ (f 1 ++ f 2)
def oth3 (f : Nat → List (Addr × Obj)) (j : Nat) : List (Addr × Obj) := if j = 0 then f 1 ++ f 2 else if j = 1 then f 0 ++ f 2 else f 0 ++ f 1
theorem all3_cnt (f : Nat → List (Addr × Obj)) {j : Nat} (hj : j < 3) (a : Addr × Obj) : cnt a (all3 f) = cnt a (f j) + cnt a (oth3 f j) := by
  unfold all3 oth3
  match j, hj with
  | 0, _ => simp only [cnt_app, if_true]
  | 1, _ => simp only [cnt_app, if_true]; rw [if_neg (by decide), cnt_app]; omega
  | 2, _ => rw [if_neg (by decide), if_neg (by decide)]; simp only [cnt_app]; omega
theorem oth3_congr {f f' : Nat → List (Addr × Obj)} {j : Nat} (hj : j < 3) (h : ∀ i, i ≠ j → f' i = f i) : oth3 f' j = oth3 f j := by
  match j, hj with
  | 0, _ => show f' 1 ++ f' 2 = f 1 ++ f 2; rw [h 1 (by decide), h 2 (by decide)]
  | 1, _ => show f' 0 ++ f' 2 = f 0 ++ f 2; rw [h 0 (by decide), h 2 (by decide)]
  | 2, _ => show f' 0 ++ f' 1 = f 0 ++ f 1; rw [h 0 (by decide), h 1 (by decide)]
def l3 (f : Nat → Value) : List Value := [f 0, f 1, f 2]
theorem l3_get (f : Nat → Value) {j : Nat} (hj : j < 3) : (l3 f)[j]? = some (f j) := by
  match j, hj with
  | 0, _ => rfl
  | 1, _ => rfl
  | 2, _ => rfl
theorem l3_set (f f' : Nat → Value) {j : Nat} (hj : j < 3) (v : Value) (h : f' j = v) (h' : ∀ i, i ≠ j → f' i = f i) : (l3 f).set j v = l3 f' := by
  subst h
  match j, hj with
  | 0, _ => unfold l3; rw [h' 1 (by decide), h' 2 (by decide)]; rfl
  | 1, _ => unfold l3; rw [h' 0 (by decide), h' 2 (by decide)]; rfl
  | 2, _ => unfold l3; rw [h' 0 (by decide), h' 1 (by decide)]; rfl
end
section
theorem Meets.make {w : World} {l : Nat} {C fI : Addr} {pos : List Value} {pre : List (Addr × Obj)} {Post : Addr → Addr → List (Addr × Obj) → Prop} {h₀ : Heap} {outer : List Env} {gu : Option (List Code)} {d u : Nat} {L : Addr} {m : Str → Option Value}
    {mean : ExcName → Option Value} {mg mb : Str → Option Value} {s : Shared} {Q : Value → Shared → Prop} {E : Value → Shared → Prop} {news : List (Addr × Obj)}
    (M : ∀ x dx, Meets w l fI ⟨.ref x :: pos, []⟩ ((x, instObj C dx) :: (dx, dictOf [] 0) :: pre) (fun v post => v = .none ∧ Post x dx post)) (rest : List (Addr × Obj))
    (hm : makesIn (hd.heap_39 w.params) C = true) (hi : findIn (hd.heap_39 w.params) (.ref C) "__init__" = some (some (.ref fI))) (hf : isFn (hd.heap_39 w.params) (.ref fI) = true)
    (F : Fr h₀ L s.heap m) (X : (hd.heap_39 w.params).In h₀) (T : Top vw LO mean mg mb h₀) (N : News h₀ L s.heap news) (hd : d + 10 * l ≤ 499) (hu : u + 10 * l ≤ 4999)
    (hs : ∀ p ∈ pre ++ rest, p ∈ news) (nd : ((pre ++ rest).map (·.1)).Nodup)
    (k : ∀ h' tk x dx post, Fr h₀ L h' m → News h₀ L h' (post ++ rest) → ((post ++ rest).map (·.1)).Nodup → Post x dx post → Q (.ref x) { s with heap := h', toks := tk }) :
    wpAny (model PySem.Challenge.rw_jf0036_01.row.prog w) ⟨none, d, some outer, gu, u⟩ (call (.ref C) pos) Q E s := by
  refine call_cls F X N hm hi hf fun x dx h' F' N' l1 l2 => ?_
  obtain ⟨n1, n2, off⟩ := nd_split nd
  have lt : ∀ p ∈ pre ++ rest, p.1 < dx := fun p hp => l1 p (hs p hp)
  refine M x dx h₀ outer _ (d + 1) (u + 1) L m mean mg mb rest { s with heap := h' } _ F' X T (by omega) (by omega) (fun p hp => N' p ?_) (fun p hp q hq e => ?_) ?_ fun h'' tk v post F2 N2 o2 nd2 _ hP => ⟨hP.1, k h'' tk x dx post F2 N2 (nd_app nd2 n2 o2) hP.2⟩
  · simp only [List.cons_append, List.mem_cons] at hp ⊢
    rcases hp with h | h | h
    · exact .inl h
    · exact .inr (.inl h)
    · exact .inr (.inr (hs p h))
  · have hq' := lt q (List.mem_append_right _ hq)
    rcases List.mem_cons.mp hp with rfl | hp
    · exact absurd (e ▸ l2 : dx < q.1) (Nat.lt_asymm hq')
    rcases List.mem_cons.mp hp with rfl | hp
    · exact Nat.lt_irrefl _ (show dx < dx from (show dx = q.1 from e) ▸ hq')
    · exact off p hp q hq e
  · have hlt : ∀ b ∈ pre.map (·.1), @LT.lt Nat _ b dx := fun b hb => by
      obtain ⟨p, hp, rfl⟩ := List.mem_map.mp hb
      exact lt p (List.mem_append_left _ hp)
    show (x :: dx :: pre.map (·.1)).Nodup
    refine List.nodup_cons.mpr ⟨fun hm => ?_, List.nodup_cons.mpr ⟨fun hm => Nat.lt_irrefl _ (hlt dx hm), n1⟩⟩
    rcases List.mem_cons.mp hm with e | hm
    · exact Nat.lt_irrefl dx (e ▸ l2 : @LT.lt Nat _ dx dx)
    · exact Nat.lt_asymm l2 (hlt x hm)
def kOf (a b c d e f g : Tok) : Nat → Tok
  | 0 => a
  | 1 => b
  | 2 => c
  | 3 => d
  | 4 => e
  | 5 => f
  | _ => g
theorem done_given {w : World} {g h' : Heap} {L' x dx : Addr} {m' : Str → Option Value} {s : Shared} {tk : Nat} {r : List (Addr × Obj)} {q1 q2 q3 q4 : Addr × Obj} {k0 k1 k2 k3 k4 k5 k6 t1 t2 t3 : Tok} {a1 a2 a3 a4 : Addr}
    (F : Fr g L' h' m') (N : News g L' h' (q1 :: q2 :: q3 :: q4 :: (x, instObj 171 dx) :: (dx, dictOf [⟨PyData.keyHash w.params (Str.ofString "now"), .str (Str.ofString "now") k0, .int 0 t1⟩, ⟨PyData.keyHash w.params (Str.ofString "drawn"), .str (Str.ofString "drawn") k1, .ref a1⟩, ⟨PyData.keyHash w.params (Str.ofString "applied"), .str (Str.ofString "applied") k2, .ref a2⟩, ⟨PyData.keyHash w.params (Str.ofString "told"), .str (Str.ofString "told") k3, .ref a3⟩, ⟨PyData.keyHash w.params (Str.ofString "dumped"), .str (Str.ofString "dumped") k4, .ref a4⟩, ⟨PyData.keyHash w.params (Str.ofString "length"), .str (Str.ofString "length") k5, .int 1 t2⟩, ⟨PyData.keyHash w.params (Str.ofString "codeVersion"), .str (Str.ofString "codeVersion") k6, .int 0 t3⟩] 7) :: r)) (nd : [x, dx].Nodup) :
    Done g s (fun v post => v = .none ∧ ∃ k0 k1 k2 k3 k4 k5 k6 t1 t2 t3 a1 a2 a3 a4, post = [(x, instObj 171 dx), (dx, givD w (kOf k0 k1 k2 k3 k4 k5 k6) (.int 0 t1) (.ref a1) (.ref a2) (.ref a3) (.ref a4) (.int 1 t2) (.int 0 t3))]) .none { s with heap := h', toks := tk } :=
  Done.intro F N ⟨rfl, k0, k1, k2, k3, k4, k5, k6, t1, t2, t3, a1, a2, a3, a4, rfl⟩ (sub_pick [4, 5] rfl rfl) nd
theorem done_ser {w : World} {g h' : Heap} {L' x dx gv tr : Addr} {ot : Obj} {sz : Int} {ts : Tok} {m' : Str → Option Value} {s : Shared} {tk : Nat} {k0 k1 k2 k3 k4 k5 k6 t1 t2 : Tok}
    (F : Fr g L' h' m') (N : News g L' h' ((tr, ot) :: (x, instObj 94 dx) :: (dx, dictOf [⟨PyData.keyHash w.params (Str.ofString "_Serializer__given"), .str (Str.ofString "_Serializer__given") k0, .ref gv⟩, ⟨PyData.keyHash w.params (Str.ofString "_Serializer__transmissionBatchSize"), .str (Str.ofString "_Serializer__transmissionBatchSize") k1, .int sz ts⟩, ⟨PyData.keyHash w.params (Str.ofString "_Serializer__pid"), .str (Str.ofString "_Serializer__pid") k2, .int 0 t1⟩, ⟨PyData.keyHash w.params (Str.ofString "_Serializer__currentID"), .str (Str.ofString "_Serializer__currentID") k3, .int 0 t2⟩, ⟨PyData.keyHash w.params (Str.ofString "_Serializer__transmissions"), .str (Str.ofString "_Serializer__transmissions") k4, .ref tr⟩, ⟨PyData.keyHash w.params (Str.ofString "_Serializer__incomingTransmissionFile"), .str (Str.ofString "_Serializer__incomingTransmissionFile") k5, .none⟩, ⟨PyData.keyHash w.params (Str.ofString "_Serializer__inMemorySerializedData"), .str (Str.ofString "_Serializer__inMemorySerializedData") k6, .none⟩] 7) :: [])) (nd : [tr, x, dx].Nodup) (h3 : SD w ot []) (h4 : (tr == sysModules) = false) :
    Done g s (fun v post => v = .none ∧ ∃ k0 k1 k2 k3 k4 k5 k6 t1 t2 tr ot, post = [(x, instObj 94 dx), (dx, serD w (kOf k0 k1 k2 k3 k4 k5 k6) (.ref gv) (.int sz ts) (.int 0 t1) (.int 0 t2) (.ref tr) .none .none), (tr, ot)] ∧ SD w ot [] ∧ (tr == sysModules) = false) .none { s with heap := h', toks := tk } :=
  Done.intro F N ⟨rfl, k0, k1, k2, k3, k4, k5, k6, t1, t2, tr, ot, rfl, h3, h4⟩ (sub_pick [1, 2, 0] rfl rfl) (nd_pick nd [1, 2, 0] (by decide) rfl rfl)
theorem init_given (w : World) {x dx : Addr} :
    Meets w 0 112 ⟨[.ref x], []⟩ [(x, instObj 171 dx), (dx, dictOf [] 0)] (fun v post => v = .none ∧ ∃ k0 k1 k2 k3 k4 k5 k6 t1 t2 t3 a1 a2 a3 a4, post = [(x, instObj 171 dx), (dx, givD w (kOf k0 k1 k2 k3 k4 k5 k6) (.int 0 t1) (.ref a1) (.ref a2) (.ref a3) (.ref a4) (.int 1 t2) (.int 0 t3))]) := by
  kwd_rel
  intro g h₁ envs gu d u tk0 L mean mg mb s F' N' X' T' hd hu lo nd
  try dsimp only [List.map] at nd
  try dsimp only
  k_fold
  k_steps
  show Done _ _ _ _ _
  exact done_given (by k_asm) (by k_asm) nd
theorem init_ser (w : World) {x dx gv : Addr} {sz : Int} {ts : Tok} :
    Meets w 0 49 ⟨[.ref x, .ref gv, .int sz ts], []⟩ [(x, instObj 94 dx), (dx, dictOf [] 0)] (fun v post => v = .none ∧ ∃ k0 k1 k2 k3 k4 k5 k6 t1 t2 tr ot, post = [(x, instObj 94 dx), (dx, serD w (kOf k0 k1 k2 k3 k4 k5 k6) (.ref gv) (.int sz ts) (.int 0 t1) (.int 0 t2) (.ref tr) .none .none), (tr, ot)] ∧ SD w ot [] ∧ (tr == sysModules) = false) := by
  kwd_rel
  intro g h₁ envs gu d u tk0 L mean mg mb s F' N' X' T' hd hu lo nd
  try dsimp only [List.map] at nd
  try dsimp only
  k_fold
  k_steps
  have nd1 := nd_lt (by assumption) nd
  show Done _ _ _ _ _
  rename Obj.IsDictOf (PySem.strKind _ _) _ [] => h3
  rename (_ == sysModules) = false => h4
  exact done_ser (by k_asm) (by k_asm) nd1 h3 h4
set_option genInjectivity false
set_option genSizeOfSpec false
/-- what begun lays -/
structure Beg where
  d : Addr
  gv : Addr
  gd : Addr
  k : Nat → Tok
  g : Nat → Tok
  t1 : Tok
  t2 : Tok
  t3 : Tok
  t4 : Tok
  a1 : Addr
  a2 : Addr
  a3 : Addr
  tr : Addr
  ot : Obj
def Beg.objs (b : Beg) (w : World) (dm : Addr) (len sz : Nat) (tl ts : Tok) (x : Addr) : List (Addr × Obj) :=
  [(x, instObj 94 b.d), (b.d, serD w b.k (.ref b.gv) (.int sz ts) (.int 0 b.t1) (.int 0 b.t2) (.ref b.tr) .none .none), (b.tr, b.ot), (b.gv, instObj 171 b.gd), (b.gd, givD w b.g (.int 0 b.t3) (.ref b.a1) (.ref b.a2) (.ref b.a3) (.ref dm) (.int len tl) (.int 0 b.t4))]
def BegP (w : World) (dm : Addr) (len sz : Nat) (tl ts : Tok) (x : Addr) (post : List (Addr × Obj)) : Prop :=
  ∃ b : Beg, post = b.objs w dm len sz tl ts x ∧ SD w b.ot [] ∧ (b.tr == sysModules) = false
theorem begun (w : World) {dm : Addr} {len sz : Nat} {tl ts : Tok} :
    Meets w 3 189 ⟨[.ref dm, .int len tl, .int sz ts], []⟩ [] (fun v post => ∃ x, v = .ref x ∧ BegP w dm len sz tl ts x post) := by
  kwd_rel
  intro g h₁ envs gu d u tk0 L mean mg mb s F' N' X' T' hd hu lo nd
  try dsimp only [List.map] at nd
  try dsimp only
  k_fold
  k_steps
  refine' Meets.make (C := 171) (pos := []) (fun x dx => init_given w) [] ?h1 ?h2 ?h3 (by k_asm) (by k_asm) (by k_asm) (by k_asm) (by omega) (by omega) (fun _ h => nomatch h) List.nodup_nil ?_
  case h1 => k_is
  case h2 => k_is
  case h3 => k_is
  rintro h' tk gv gd post F' N' nd' ⟨g0, g1, g2, g3, g4, g5, g6, t3, t5, t4, a1, a2, a3, a4, rfl⟩
  dsimp only [List.map, List.cons_append, List.nil_append] at N' nd'
  k_steps
  refine' Meets.make (C := 94) (pos := [.ref gv, .int sz ts]) (fun x dx => init_ser w) [(gv, instObj 171 gd), (gd, givD w (kOf g0 g1 g2 g3 g4 g5 g6) (.int 0 t3) (.ref a1) (.ref a2) (.ref a3) (.ref dm) (.int len tl) (.int 0 t4))] ?h1 ?h2 ?h3 (by k_asm) (by k_asm) (by k_asm) (by k_asm) (by omega) (by omega) ?hs nd' ?_
  case h1 => k_is
  case h2 => k_is
  case h3 => k_is
  case hs => exact sub_pick [1, 2] rfl rfl
  rintro h' tk x dx post F' N' nd' ⟨k0, k1, k2, k3, k4, k5, k6, t1, t2, tr, ot, rfl, h3, h4⟩
  dsimp only [List.map, List.cons_append, List.nil_append] at N' nd'
  k_steps
  show Done _ _ _ _ _
  refine' Done.intro (by k_asm) (by k_asm) ⟨x, rfl, ⟨dx, gv, gd, kOf k0 k1 k2 k3 k4 k5 k6, kOf g0 g1 g2 g3 g4 g5 g6, t1, t2, t3, t4, a1, a2, a3, tr, ot⟩, rfl, h3, h4⟩ ?hs ?nd
  case hs => exact sub_pick [0, 1, 2, 3, 4] rfl rfl
  case nd => exact nd'
end
section
set_option genInjectivity false
set_option genSizeOfSpec false
/-- one dump: its two tuples (the sender's and the book's), its number in turn, the number -/
structure Dp where
  t1 : Addr
  t2 : Addr
  i : Nat
  num : Int
  u1 : Tok
  u2 : Tok
  u3 : Tok
  u4 : Tok
def Dp.objs (d : Dp) : List (Addr × Obj) := [(d.t1, tup [.int d.num d.u1, .int (d.i : Int) d.u2]), (d.t2, tup [.int d.num d.u3, .int (d.i : Int) d.u4])]
/-- what stays through the law -/
structure Cx where
  bk : Addr
  sd : Addr
  sdd : Addr
  dm : Addr
  sgv : Addr
  sgd : Addr
  rv : Addr
  cm : Addr
  ld : Addr
  ct : Addr
  sz : Nat
  len : Nat
  ts : Tok
  tl : Tok
  tb : Tok
  tl2 : Tok
  ks : Nat → Tok
  kgs : Nat → Tok
  now : Value
  dr : Value
  ap : Value
  te : Value
  cv : Value
  sinc : Value
  r : Nat → Addr
  rd : Nat → Addr
  gv : Nat → Addr
  gd : Nat → Addr
  k : Nat → Nat → Tok
  kg : Nat → Nat → Tok
  bs : Nat → Value
  pid : Nat → Value
  cid : Nat → Value
  rtr : Nat → Value
  rnow : Nat → Value
  rdr : Nat → Value
  rap : Nat → Value
  rte : Nat → Value
  rlng : Nat → Value
  rcv : Nat → Value
  nr : Nat
  ncm : Nat
  nld : Nat
  nct : Nat
/-- the newest dump as the book has it -/
structure Nw where
  db : Addr
  d : Dp
  toc : Tok
  tm : Tok
structure Stt where
  ob : Obj
  op : Obj
  ot : Obj
  pl : Addr
  tr : Addr
  wt : Bool
  rdv : Value
  tp : Tok
  cid : Value
  smem : Value
  P : List (Int × Value)
  T : List (Str × Value)
  com : Nat → Option Dp
  loa : Nat → Option Dp
  cut : Nat → Bool
  inc : Nat → Value
  mem : Nat → Value
  ds : List Dp
  nd0 : Nat
  nw : Option Nw
  tau : Nat → List (Addr × Obj)
  junk : List (Addr × Obj)
  pos : Nat → Nat
def ov : Option Dp → Value
  | none => .none
  | some d => .ref d.t2
def dval : Option Nw → Value
  | none => .none
  | some n => .ref n.db
def dbl (len : Nat) : Option Nw → List (Addr × Obj)
  | none => []
  | some n => [(n.db, tup [.ref n.d.t2, .bytes (octs n.d.i len) n.toc])]
def robj (w : World) (C : Cx) (inc mem : Nat → Value) (j : Nat) : List (Addr × Obj) :=
  [(C.r j, instObj 94 (C.rd j)), (C.rd j, serD w (C.k j) (.ref (C.gv j)) (C.bs j) (C.pid j) (C.cid j) (C.rtr j) (inc j) (mem j)), (C.gv j, instObj 171 (C.gd j)),
   (C.gd j, givD w (C.kg j) (C.rnow j) (C.rdr j) (C.rap j) (C.rte j) (.ref C.dm) (C.rlng j) (C.rcv j))]
def vsOf (ds : List Dp) : List Value := ds.map fun d => .ref d.t1
/-- the objects that a handed piece may touch -/
def HL (w : World) (C : Cx) (s : Stt) (X : List (Addr × Obj)) : List (Addr × Obj) :=
  (C.rv, lst (l3 fun j => .ref (C.r j)) C.nr) :: (C.ld, lst (l3 fun j => ov (s.loa j)) C.nld) :: (C.cm, lst (l3 fun j => ov (s.com j)) C.ncm) :: (C.dm, lst (vsOf s.ds) s.nd0) :: (all3 (robj w C s.inc s.mem) ++ (s.ds.flatMap Dp.objs ++ X))
def Stt.led (w : World) (C : Cx) (s : Stt) : List (Addr × Obj) :=
  (C.bk, s.ob) :: (s.pl, s.op) :: (C.ct, lst (l3 fun j => .bool (s.cut j)) C.nct) :: (C.sd, instObj 94 C.sdd) :: (C.sdd, serD w C.ks (.ref C.sgv) (.int C.sz C.tb) (.int (if s.wt then -1 else 0) s.tp) s.cid (.ref s.tr) C.sinc s.smem) :: (s.tr, s.ot)
    :: (C.sgv, instObj 171 C.sgd) :: (C.sgd, givD w C.kgs C.now C.dr C.ap C.te (.ref C.dm) (.int C.len C.tl2) C.cv) :: (HL w C s (dbl C.len s.nw ++ (all3 s.tau ++ s.junk)))
structure Cx.Ok (C : Cx) : Prop where
  sz1 : 1 ≤ C.sz
  sz5 : C.sz ≤ 5
  len : C.len ≤ 8
/-- a transmission and its place -/
def TP (w : World) (len : Nat) (s : Stt) (j : Nat) : Prop :=
  (valueAt s.T (rkey j) = none ∧ PlAt s.P j 0 ∧ s.pos j = 0)
  ∨ ∃ n ta oa t0, s.nw = some n ∧ valueAt s.T (rkey j) = some (.ref ta) ∧ PlAt s.P j (s.pos j) ∧ 0 < s.pos j ∧ s.pos j ≤ 4 + len ∧ s.tau j = [(ta, oa)]
    ∧ SD w oa [(Str.ofString "transmitted", .int (s.pos j) t0), (Str.ofString "data", .bytes (octs n.d.i len) n.tm)]
structure Stt.Ok (w : World) (C : Cx) (c : Nat) (s : Stt) : Prop where
  hb : SD w s.ob (bookK (.int C.sz C.ts) (.int C.len C.tl) s.wt (dval s.nw) s.rdv s.pl C.cm C.ld C.ct)
  hp : ID w s.op s.P
  ht : SD w s.ot s.T
  pl : (s.pl == sysModules) = false
  tr : (s.tr == sysModules) = false
  P : s.P.length ≤ c
  T : s.T.length ≤ c
  ds : s.ds.length ≤ c
  ix : ∀ i (d : Dp), s.ds[i]? = some d → d.i = i
  nw0 : s.nw = none → s.ds = [] ∧ s.smem = .none
  nw1 : ∀ n, s.nw = some n → n.d.i + 1 = s.ds.length ∧ s.ds[n.d.i]? = some n.d ∧ s.smem = .bytes (octs n.d.i C.len) n.tm
  rdy : s.wt = true → ∃ x tx tx2, s.rdv = .int x tx2 ∧ s.cid = .int x tx
  tp : s.wt = false → ∀ j, j < 3 → TP w C.len s j
  loa : ∀ j, j < 3 → ∀ d : Dp, s.loa j = some d → s.ds[d.i]? = some d ∧ ∃ to, s.mem j = .bytes (octs d.i C.len) to
  syn : s.wt = false → ∀ j, j < 3 → s.cut j = false → 0 < s.pos j → ∃ n tb, s.nw = some n ∧ s.inc j = .bytes ((octs n.d.i C.len).extract 0 (s.pos j)) tb ∧ s.com j = some n.d
def othD (ds : List Dp) (i : Nat) : List (Addr × Obj) := (ds.eraseIdx i).flatMap Dp.objs
theorem ds_cnt : ∀ {ds : List Dp} {i : Nat} {d : Dp} (_ : ds[i]? = some d) (a : Addr × Obj), cnt a (ds.flatMap Dp.objs) = cnt a d.objs + cnt a (othD ds i)
  | [], _, _, h, _ => by simp at h
  | d :: ds, 0, d', h, a => by
    have e : d = d' := by simpa using h
    subst e
    unfold othD
    rw [List.flatMap_cons, cnt_app]; rfl
  | d :: ds, i + 1, d', h, a => by
    have h' : ds[i]? = some d' := by simpa using h
    have := ds_cnt h' a
    unfold othD at this ⊢
    rw [List.eraseIdx_cons_succ, List.flatMap_cons, List.flatMap_cons, cnt_app, cnt_app, this]
    omega
theorem vsOf_get {ds : List Dp} {i : Nat} {d : Dp} (h : ds[i]? = some d) : (vsOf ds)[i]? = some (.ref d.t1) := by
  unfold vsOf; rw [List.getElem?_map, h]; rfl
section
variable {w : World} {C : Cx} {s : Stt} {j : Nat} {tj : Tok} (X : List (Addr × Obj))
theorem hd_none {c : Nat} {ob : Obj} {sz ln dv rdv : Value} {wt : Bool} {pl : Addr} (hC : C.Ok) (hc : c < 100) (hb : SD w ob (bookK sz ln wt dv rdv pl C.cm C.ld C.ct)) (hj : j < 3) (hds : s.ds.length ≤ c) (hix : ∀ i (d : Dp), s.ds[i]? = some d → d.i = i)
    (hlo : ∀ d : Dp, s.loa j = some d → s.ds[d.i]? = some d ∧ ∃ to, s.mem j = .bytes (octs d.i C.len) to) :
    Meets w 2 203 ⟨[.ref C.bk, .ref C.rv, .int j tj, .none], []⟩ ((C.bk, ob) :: HL w C s X) (fun v post => v = .bool true ∧ post.Perm ((C.bk, ob) :: HL w C s X)) := by
  cases hl : s.loa j with
  | none =>
    have M := (handed_none0 w (bk := C.bk) (pl := pl) (cm := C.cm) (ld := C.ld) (ct := C.ct) (rv := C.rv) (r := C.r j) (rd := C.rd j) (k := C.k j) (gv := .ref (C.gv j)) (bs := C.bs j) (pid := C.pid j) (cid := C.cid j) (tr := C.rtr j) (nr := C.nr) (nl := C.nld) (tj := tj)
      (rvs := l3 fun j => .ref (C.r j)) (lds := l3 fun j => ov (s.loa j)) (mem := s.mem j) (inc := s.inc j) hb hj (l3_get _ hj) (by rw [l3_get _ hj, hl]; rfl)).frame
      ((C.cm, lst (l3 fun j => ov (s.com j)) C.ncm) :: (C.dm, lst (vsOf s.ds) s.nd0) :: (C.gv j, instObj 171 (C.gd j)) :: (C.gd j, givD w (C.kg j) (C.rnow j) (C.rdr j) (C.rap j) (C.rte j) (.ref C.dm) (C.rlng j) (C.rcv j)) :: (oth3 (robj w C s.inc s.mem) j ++ (s.ds.flatMap Dp.objs ++ X)))
    refine M.conv (perm_cnt fun a => ?_) ?_
    · simp +arith only [HL, all3_cnt (robj w C s.inc s.mem) hj, robj, cnt_app, cnt_cons, cnt_nil, List.cons_append, List.nil_append]
    · rintro v post ⟨q, rfl, rfl, rfl⟩
      refine ⟨rfl, perm_cnt fun a => ?_⟩
      simp +arith only [HL, all3_cnt (robj w C s.inc s.mem) hj, robj, cnt_app, cnt_cons, cnt_nil, List.cons_append, List.nil_append]
  | some d =>
    obtain ⟨h1, to, h2⟩ := hlo d hl
    have hi : d.i < 256 := by
      have := (List.getElem?_eq_some_iff.mp h1).1
      omega
    have M := (handed_none1 w (bk := C.bk) (pl := pl) (cm := C.cm) (ld := C.ld) (ct := C.ct) (rv := C.rv) (r := C.r j) (rd := C.rd j) (k := C.k j) (gv := C.gv j) (bs := C.bs j) (pid := C.pid j) (cid := C.cid j) (tr := C.rtr j) (nr := C.nr) (nl := C.nld) (tj := tj)
      (rvs := l3 fun j => .ref (C.r j)) (lds := l3 fun j => ov (s.loa j)) (inc := s.inc j) (gd := C.gd j) (dm := C.dm) (t1 := d.t1) (t2 := d.t2) (kg := C.kg j) (now := C.rnow j) (dr := C.rdr j) (ap := C.rap j) (te := C.rte j) (lng := C.rlng j) (cv := C.rcv j) (nd0 := s.nd0) (len := C.len) (i := d.i) (to := to)
      (vs := vsOf s.ds) (a := d.num) (b := d.i) (u1 := d.u1) (u2 := d.u2) (u3 := d.u3) (u4 := d.u4) hb hj (l3_get _ hj) (by rw [l3_get _ hj, hl]; rfl) hi hC.len (vsOf_get h1)).frame
      ((C.cm, lst (l3 fun j => ov (s.com j)) C.ncm) :: (oth3 (robj w C s.inc s.mem) j ++ (othD s.ds d.i ++ X)))
    refine M.conv (perm_cnt fun a => ?_) ?_
    · simp +arith only [HL, all3_cnt (robj w C s.inc s.mem) hj, ds_cnt h1, robj, h2, Dp.objs, cnt_app, cnt_cons, cnt_nil, List.cons_append, List.nil_append]
    · rintro v post ⟨q, rfl, rfl, rfl⟩
      refine ⟨rfl, perm_cnt fun a => ?_⟩
      simp +arith only [HL, all3_cnt (robj w C s.inc s.mem) hj, ds_cnt h1, robj, h2, Dp.objs, cnt_app, cnt_cons, cnt_nil, List.cons_append, List.nil_append]
end
end
section
def setR (s : Stt) (j : Nat) (inc mem : Value) (com loa : Option Dp) : Stt := { s with inc := upd s.inc j inc, mem := upd s.mem j mem, com := upd s.com j com, loa := upd s.loa j loa }
theorem upd_id {α : Type} (f : Nat → α) (j : Nat) : upd f j (f j) = f := by
  funext i; unfold upd; split
  · rename_i h; rw [h]
  · rfl
theorem HL_cnt {w : World} {C : Cx} {s : Stt} {X : List (Addr × Obj)} {j : Nat} (hj : j < 3) (inc mem : Value) (com loa : Option Dp) (a : Addr × Obj) :
    cnt a (HL w C (setR s j inc mem com loa) X) = one (C.rv, lst (l3 fun j => .ref (C.r j)) C.nr) a + (one (C.ld, lst ((l3 fun j => ov (s.loa j)).set j (ov loa)) C.nld) a + (one (C.cm, lst ((l3 fun j => ov (s.com j)).set j (ov com)) C.ncm) a + (one (C.dm, lst (vsOf s.ds) s.nd0) a
      + ((one (C.r j, instObj 94 (C.rd j)) a + (one (C.rd j, serD w (C.k j) (.ref (C.gv j)) (C.bs j) (C.pid j) (C.cid j) (C.rtr j) inc mem) a + (one (C.gv j, instObj 171 (C.gd j)) a + one (C.gd j, givD w (C.kg j) (C.rnow j) (C.rdr j) (C.rap j) (C.rte j) (.ref C.dm) (C.rlng j) (C.rcv j)) a))) + cnt a (oth3 (robj w C s.inc s.mem) j)
      + (cnt a (s.ds.flatMap Dp.objs) + cnt a X))))) := by
  unfold HL
  rw [cnt_cons, cnt_cons, cnt_cons, cnt_cons, cnt_app, cnt_app, all3_cnt _ hj]
  rw [← l3_set (fun j => ov (s.loa j)) (fun i => ov ((setR s j inc mem com loa).loa i)) hj (ov loa) (by show ov (upd s.loa j loa j) = _; rw [upd_same]) (fun i h => by show ov (upd s.loa j loa i) = _; rw [upd_ne _ _ h])]
  rw [← l3_set (fun j => ov (s.com j)) (fun i => ov ((setR s j inc mem com loa).com i)) hj (ov com) (by show ov (upd s.com j com j) = _; rw [upd_same]) (fun i h => by show ov (upd s.com j com i) = _; rw [upd_ne _ _ h])]
  rw [oth3_congr (f := robj w C s.inc s.mem) hj (fun i h => by unfold robj setR; dsimp only; rw [upd_ne _ _ h, upd_ne _ _ h])]
  unfold robj setR
  dsimp only
  rw [upd_same, upd_same]
  simp only [cnt_cons, cnt_nil]
  omega
theorem HL_cnt0 {w : World} {C : Cx} {s : Stt} {X : List (Addr × Obj)} {j : Nat} (hj : j < 3) (a : Addr × Obj) :
    cnt a (HL w C s X) = one (C.rv, lst (l3 fun j => .ref (C.r j)) C.nr) a + (one (C.ld, lst (l3 fun j => ov (s.loa j)) C.nld) a + (one (C.cm, lst (l3 fun j => ov (s.com j)) C.ncm) a + (one (C.dm, lst (vsOf s.ds) s.nd0) a
      + ((one (C.r j, instObj 94 (C.rd j)) a + (one (C.rd j, serD w (C.k j) (.ref (C.gv j)) (C.bs j) (C.pid j) (C.cid j) (C.rtr j) (s.inc j) (s.mem j)) a + (one (C.gv j, instObj 171 (C.gd j)) a + one (C.gd j, givD w (C.kg j) (C.rnow j) (C.rdr j) (C.rap j) (C.rte j) (.ref C.dm) (C.rlng j) (C.rcv j)) a))) + cnt a (oth3 (robj w C s.inc s.mem) j)
      + (cnt a (s.ds.flatMap Dp.objs) + cnt a X))))) := by
  unfold HL
  rw [cnt_cons, cnt_cons, cnt_cons, cnt_cons, cnt_app, cnt_app, all3_cnt _ hj]
  unfold robj
  simp only [cnt_cons, cnt_nil]
  omega
theorem set_id (f : Nat → Value) {j : Nat} (hj : j < 3) : (l3 f).set j (f j) = l3 f := l3_set f f hj _ rfl fun _ _ => rfl
section
variable {w : World} {C : Cx} {s : Stt} {j : Nat} {tj : Tok} (X : List (Addr × Obj))
/-- a first piece -/
theorem hd_first {c : Nat} {ob : Obj} {sz ln rdv : Value} {wt : Bool} {pl : Addr} (n : Nw) {x : Addr} {t : Tok} {part : Array UInt8} (hC : C.Ok) (hc : c < 100) (hb : SD w ob (bookK sz ln wt (.ref n.db) rdv pl C.cm C.ld C.ct)) (hj : j < 3) (hds : s.ds.length ≤ c) (hp : part.size ≤ 12)
    (hlo : ∀ d : Dp, s.loa j = some d → s.ds[d.i]? = some d ∧ ∃ to, s.mem j = .bytes (octs d.i C.len) to) :
    Meets w 2 203 ⟨[.ref C.bk, .ref C.rv, .int j tj, .ref x], []⟩ ((C.bk, ob) :: (n.db, tup [.ref n.d.t2, .bytes (octs n.d.i C.len) n.toc]) :: (x, tup [.bytes part t, .bool true, .bool false]) :: HL w C s X)
      (fun v post => v = .bool true ∧ ∃ t', post.Perm ((C.bk, ob) :: (n.db, tup [.ref n.d.t2, .bytes (octs n.d.i C.len) n.toc]) :: (x, tup [.bytes part t, .bool true, .bool false]) :: HL w C (setR s j (.bytes part t') (s.mem j) (some n.d) (s.loa j)) X)) := by
  cases hl : s.loa j with
  | none =>
    have M := (handed_first0 w (bk := C.bk) (pl := pl) (cm := C.cm) (ld := C.ld) (ct := C.ct) (rv := C.rv) (r := C.r j) (rd := C.rd j) (k := C.k j) (gv := .ref (C.gv j)) (bs := C.bs j) (pid := C.pid j) (cid := C.cid j) (tr := C.rtr j) (nr := C.nr) (nl := C.nld) (tj := tj)
      (rvs := l3 fun j => .ref (C.r j)) (lds := l3 fun j => ov (s.loa j)) (mem := s.mem j) (inc := s.inc j) (db := n.db) (d0 := n.d.t2) (pt := x) (oct := octs n.d.i C.len) (part := part) (toc := n.toc) (t := t) (cms := l3 fun j => ov (s.com j)) (nc := C.ncm) hb hj (l3_get _ hj) (by rw [l3_get _ hj, hl]; rfl) rfl hp).frame
      ((C.dm, lst (vsOf s.ds) s.nd0) :: (C.gv j, instObj 171 (C.gd j)) :: (C.gd j, givD w (C.kg j) (C.rnow j) (C.rdr j) (C.rap j) (C.rte j) (.ref C.dm) (C.rlng j) (C.rcv j)) :: (oth3 (robj w C s.inc s.mem) j ++ (s.ds.flatMap Dp.objs ++ X)))
    refine M.conv (perm_cnt fun a => ?_) ?_
    · simp +arith only [HL_cnt0 hj, cnt_app, cnt_cons, cnt_nil, List.cons_append, List.nil_append]
    · rintro v post ⟨q, rfl, t', rfl, rfl⟩
      refine ⟨rfl, t', perm_cnt fun a => ?_⟩
      have e := set_id (fun j => ov (s.loa j)) hj
      simp only [hl] at e
      simp +arith only [HL_cnt hj, e, cnt_app, cnt_cons, cnt_nil, List.cons_append, List.nil_append, show ov (some n.d) = .ref n.d.t2 from rfl]
  | some d =>
    obtain ⟨h1, to, h2⟩ := hlo d hl
    have hi : d.i < 256 := by
      have := (List.getElem?_eq_some_iff.mp h1).1
      omega
    have M := (handed_first1 w (bk := C.bk) (pl := pl) (cm := C.cm) (ld := C.ld) (ct := C.ct) (rv := C.rv) (r := C.r j) (rd := C.rd j) (k := C.k j) (gv := C.gv j) (bs := C.bs j) (pid := C.pid j) (cid := C.cid j) (tr := C.rtr j) (nr := C.nr) (nl := C.nld) (tj := tj)
      (rvs := l3 fun j => .ref (C.r j)) (lds := l3 fun j => ov (s.loa j)) (inc := s.inc j) (gd := C.gd j) (dm := C.dm) (t1 := d.t1) (t2 := d.t2) (kg := C.kg j) (now := C.rnow j) (dr := C.rdr j) (ap := C.rap j) (te := C.rte j) (lng := C.rlng j) (cv := C.rcv j) (nd0 := s.nd0) (len := C.len) (i := d.i) (to := to)
      (vs := vsOf s.ds) (a := d.num) (b := d.i) (u1 := d.u1) (u2 := d.u2) (u3 := d.u3) (u4 := d.u4) (db := n.db) (d0 := n.d.t2) (pt := x) (oct := octs n.d.i C.len) (part := part) (toc := n.toc) (t := t) (cms := l3 fun j => ov (s.com j)) (nc := C.ncm) hb hj (l3_get _ hj) (by rw [l3_get _ hj, hl]; rfl) hi hC.len (vsOf_get h1) rfl hp).frame
      (oth3 (robj w C s.inc s.mem) j ++ (othD s.ds d.i ++ X))
    refine M.conv (perm_cnt fun a => ?_) ?_
    · simp +arith only [ds_cnt h1, HL_cnt0 hj, h2, Dp.objs, cnt_app, cnt_cons, cnt_nil, List.cons_append, List.nil_append]
    · rintro v post ⟨q, rfl, t', rfl, rfl⟩
      refine ⟨rfl, t', perm_cnt fun a => ?_⟩
      have e := set_id (fun j => ov (s.loa j)) hj
      simp only [hl] at e
      simp +arith only [ds_cnt h1, HL_cnt hj, e, h2, Dp.objs, cnt_app, cnt_cons, cnt_nil, List.cons_append, List.nil_append, show ov (some n.d) = .ref n.d.t2 from rfl]
/-- a piece of the middle -/
theorem hd_mid {c : Nat} {ob : Obj} {sz ln dv rdv : Value} {wt : Bool} {pl : Addr} {x : Addr} {t tb : Tok} {part bb : Array UInt8} (hC : C.Ok) (hc : c < 100) (hb : SD w ob (bookK sz ln wt dv rdv pl C.cm C.ld C.ct)) (hj : j < 3) (hds : s.ds.length ≤ c) (hp : part.size ≤ 12) (hbb : bb.size ≤ 12) (hin : s.inc j = .bytes bb tb)
    (hlo : ∀ d : Dp, s.loa j = some d → s.ds[d.i]? = some d ∧ ∃ to, s.mem j = .bytes (octs d.i C.len) to) (Y : List (Addr × Obj)) :
    Meets w 2 203 ⟨[.ref C.bk, .ref C.rv, .int j tj, .ref x], []⟩ ((C.bk, ob) :: (x, tup [.bytes part t, .bool false, .bool false]) :: (Y ++ HL w C s X))
      (fun v post => v = .bool true ∧ ∃ t', post.Perm ((C.bk, ob) :: (x, tup [.bytes part t, .bool false, .bool false]) :: (Y ++ HL w C (setR s j (.bytes (bb ++ part) t') (s.mem j) (s.com j) (s.loa j)) X))) := by
  have ec := set_id (fun j => ov (s.com j)) hj
  cases hl : s.loa j with
  | none =>
    have M := (handed_mid0 w (bk := C.bk) (pl := pl) (cm := C.cm) (ld := C.ld) (ct := C.ct) (rv := C.rv) (r := C.r j) (rd := C.rd j) (k := C.k j) (gv := .ref (C.gv j)) (bs := C.bs j) (pid := C.pid j) (cid := C.cid j) (tr := C.rtr j) (nr := C.nr) (nl := C.nld) (tj := tj)
      (rvs := l3 fun j => .ref (C.r j)) (lds := l3 fun j => ov (s.loa j)) (mem := s.mem j) (pt := x) (part := part) (t := t) (bb := bb) (tb := tb) hb hj (l3_get _ hj) (by rw [l3_get _ hj, hl]; rfl) hp hbb).frame
      (Y ++ ((C.cm, lst (l3 fun j => ov (s.com j)) C.ncm) :: (C.dm, lst (vsOf s.ds) s.nd0) :: (C.gv j, instObj 171 (C.gd j)) :: (C.gd j, givD w (C.kg j) (C.rnow j) (C.rdr j) (C.rap j) (C.rte j) (.ref C.dm) (C.rlng j) (C.rcv j)) :: (oth3 (robj w C s.inc s.mem) j ++ (s.ds.flatMap Dp.objs ++ X))))
    refine M.conv (perm_cnt fun a => ?_) ?_
    · simp +arith only [HL_cnt0 hj, hin, cnt_app, cnt_cons, cnt_nil, List.cons_append, List.nil_append]
    · rintro v post ⟨q, rfl, t', rfl, rfl⟩
      refine ⟨rfl, t', perm_cnt fun a => ?_⟩
      have e := set_id (fun j => ov (s.loa j)) hj
      simp only [hl] at e
      simp +arith only [HL_cnt hj, e, ec, cnt_app, cnt_cons, cnt_nil, List.cons_append, List.nil_append]
  | some d =>
    obtain ⟨h1, to, h2⟩ := hlo d hl
    have hi : d.i < 256 := by
      have := (List.getElem?_eq_some_iff.mp h1).1
      omega
    have M := (handed_mid1 w (bk := C.bk) (pl := pl) (cm := C.cm) (ld := C.ld) (ct := C.ct) (rv := C.rv) (r := C.r j) (rd := C.rd j) (k := C.k j) (gv := C.gv j) (bs := C.bs j) (pid := C.pid j) (cid := C.cid j) (tr := C.rtr j) (nr := C.nr) (nl := C.nld) (tj := tj)
      (rvs := l3 fun j => .ref (C.r j)) (lds := l3 fun j => ov (s.loa j)) (gd := C.gd j) (dm := C.dm) (t1 := d.t1) (t2 := d.t2) (kg := C.kg j) (now := C.rnow j) (dr := C.rdr j) (ap := C.rap j) (te := C.rte j) (lng := C.rlng j) (cv := C.rcv j) (nd0 := s.nd0) (len := C.len) (i := d.i) (to := to)
      (vs := vsOf s.ds) (a := d.num) (b := d.i) (u1 := d.u1) (u2 := d.u2) (u3 := d.u3) (u4 := d.u4) (pt := x) (part := part) (t := t) (bb := bb) (tb := tb) hb hj (l3_get _ hj) (by rw [l3_get _ hj, hl]; rfl) hi hC.len (vsOf_get h1) hp hbb).frame
      (Y ++ ((C.cm, lst (l3 fun j => ov (s.com j)) C.ncm) :: (oth3 (robj w C s.inc s.mem) j ++ (othD s.ds d.i ++ X))))
    refine M.conv (perm_cnt fun a => ?_) ?_
    · simp +arith only [ds_cnt h1, HL_cnt0 hj, hin, h2, Dp.objs, cnt_app, cnt_cons, cnt_nil, List.cons_append, List.nil_append]
    · rintro v post ⟨q, rfl, t', rfl, rfl⟩
      refine ⟨rfl, t', perm_cnt fun a => ?_⟩
      have e := set_id (fun j => ov (s.loa j)) hj
      simp only [hl] at e
      simp +arith only [ds_cnt h1, HL_cnt hj, e, ec, h2, Dp.objs, cnt_app, cnt_cons, cnt_nil, List.cons_append, List.nil_append]
/-- the last piece -/
theorem hd_last {c : Nat} {ob : Obj} {sz ln dv rdv : Value} {wt : Bool} {pl : Addr} {x : Addr} {t tb : Tok} {part bb : Array UInt8} (d : Dp) (hC : C.Ok) (hc : c < 100) (hb : SD w ob (bookK sz ln wt dv rdv pl C.cm C.ld C.ct)) (hj : j < 3) (hds : s.ds.length ≤ c) (hp : part.size ≤ 12) (hbb : bb.size ≤ 12) (hin : s.inc j = .bytes bb tb)
    (h1 : s.ds[d.i]? = some d) (hco : s.com j = some d) (hoct : bb ++ part = octs d.i C.len) (Y : List (Addr × Obj)) :
    Meets w 2 203 ⟨[.ref C.bk, .ref C.rv, .int j tj, .ref x], []⟩ ((C.bk, ob) :: (x, tup [.bytes part t, .bool false, .bool true]) :: (Y ++ HL w C s X))
      (fun v post => v = .bool true ∧ ∃ t', post.Perm ((C.bk, ob) :: (x, tup [.bytes part t, .bool false, .bool true]) :: (Y ++ HL w C (setR s j .none (.bytes (octs d.i C.len) t') none (some d)) X))) := by
  have hi : d.i < 256 := by
    have := (List.getElem?_eq_some_iff.mp h1).1
    omega
  have M := (handed_last w (bk := C.bk) (pl := pl) (cm := C.cm) (ld := C.ld) (ct := C.ct) (rv := C.rv) (r := C.r j) (rd := C.rd j) (k := C.k j) (gv := C.gv j) (bs := C.bs j) (pid := C.pid j) (cid := C.cid j) (tr := C.rtr j) (nr := C.nr) (nl := C.nld) (tj := tj)
    (rvs := l3 fun j => .ref (C.r j)) (lds := l3 fun j => ov (s.loa j)) (gd := C.gd j) (dm := C.dm) (t1 := d.t1) (t2 := d.t2) (kg := C.kg j) (now := C.rnow j) (dr := C.rdr j) (ap := C.rap j) (te := C.rte j) (lng := C.rlng j) (cv := C.rcv j) (nd0 := s.nd0) (len := C.len) (i := d.i) (mem := s.mem j)
    (vs := vsOf s.ds) (a := d.num) (b := d.i) (u1 := d.u1) (u2 := d.u2) (u3 := d.u3) (u4 := d.u4) (pt := x) (part := part) (t := t) (bb := bb) (tb := tb) (cms := l3 fun j => ov (s.com j)) (nc := C.ncm) hb hj (l3_get _ hj) rfl hi hC.len (vsOf_get h1) rfl (by rw [l3_get _ hj, hco]; rfl) hp hbb hoct).frame
    (Y ++ (oth3 (robj w C s.inc s.mem) j ++ (othD s.ds d.i ++ X)))
  refine M.conv (perm_cnt fun a => ?_) ?_
  · simp +arith only [ds_cnt h1, HL_cnt0 hj, hin, Dp.objs, cnt_app, cnt_cons, cnt_nil, List.cons_append, List.nil_append]
  · rintro v post ⟨q, rfl, t', rfl, rfl⟩
    refine ⟨rfl, t', perm_cnt fun a => ?_⟩
    simp +arith only [ds_cnt h1, HL_cnt hj, Dp.objs, cnt_app, cnt_cons, cnt_nil, List.cons_append, List.nil_append, show ov (some d) = .ref d.t2 from rfl, show ov none = .none from rfl]
end
end
section
theorem rkey_ne {i j : Nat} (hi : i < 3) (hj : j < 3) (h : i ≠ j) : rkey i ≠ rkey j := by
  match i, hi, j, hj with
  | 0, _, 0, _ => exact absurd rfl h
  | 1, _, 1, _ => exact absurd rfl h
  | 2, _, 2, _ => exact absurd rfl h
  | 0, _, 1, _ => decide +kernel
  | 0, _, 2, _ => decide +kernel
  | 1, _, 0, _ => decide +kernel
  | 1, _, 2, _ => decide +kernel
  | 2, _, 0, _ => decide +kernel
  | 2, _, 1, _ => decide +kernel
theorem ext_ext (b : Array UInt8) (p q : Nat) : b.extract 0 p ++ b.extract p (p + q) = b.extract 0 (p + q) := by
  rw [Array.extract_append_extract]
  congr 1 <;> omega
theorem ext_size (b : Array UInt8) (p q : Nat) : (b.extract p (p + q)).size = min (p + q) b.size - p := Array.size_extract
theorem ext_min (b : Array UInt8) (p q : Nat) (h : p ≤ b.size) : b.extract 0 (p + (b.extract p (p + q)).size) = b.extract 0 (p + q) := by
  rw [ext_size]
  by_cases h1 : p + q ≤ b.size
  · congr 1; omega
  · rw [Array.extract_eq_self_of_le (by omega), Array.extract_eq_self_of_le (by omega)]
theorem plat_off {P P' : List (Int × Value)} {i p : Nat} (e : valueAt P' (i : Int) = valueAt P (i : Int)) (h : PlAt P i p) : PlAt P' i p := by
  unfold PlAt at h ⊢; rw [e]; exact h
structure Asked (C : Cx) (s s' : Stt) (j : Nat) : Prop where
  wt : s'.wt = s.wt
  nw : s'.nw = s.nw
  cut : s'.cut = s.cut
  loa : ∀ i, i ≠ j → s'.loa i = s.loa i
  pos : ∀ i, i ≠ j → s'.pos i = s.pos i
  go : s.wt = false → s.cut j = false → ∀ n, s.nw = some n → s'.loa j = some n.d ∨ s.pos j + 1 ≤ s'.pos j
def mv (s : Stt) (j : Nat) (op' ot' : Obj) (P' : List (Int × Value)) (T' : List (Str × Value)) (tj junk' : List (Addr × Obj)) (p' : Nat) (inc mem : Value) (com loa : Option Dp) : Stt :=
  { setR s j inc mem com loa with op := op', P := P', ot := ot', T := T', tau := upd s.tau j tj, junk := junk', pos := upd s.pos j p' }
section
variable {w : World} {C : Cx} {s : Stt} {c j : Nat} {tj : Tok}
theorem Stt.Ok.more (ok : s.Ok w C c) : s.Ok w C (c + 1) := ⟨ok.hb, ok.hp, ok.ht, ok.pl, ok.tr, Nat.le_succ_of_le ok.P, Nat.le_succ_of_le ok.T, Nat.le_succ_of_le ok.ds, ok.ix, ok.nw0, ok.nw1, ok.rdy, ok.tp, ok.loa, ok.syn⟩
theorem mv_ok {op' ot' : Obj} {P' : List (Int × Value)} {T' : List (Str × Value)} {tj junk' : List (Addr × Obj)} {p' : Nat} {inc mem : Value} {com loa : Option Dp}
    (ok : s.Ok w C c) (hj : j < 3) (hw : s.wt = false) (hp : ID w op' P') (ht : SD w ot' T') (hP : PlStep s.P P' j p') (hT : T'.length ≤ s.T.length + 1) (hTo : ∀ i, i < 3 → i ≠ j → valueAt T' (rkey i) = valueAt s.T (rkey i))
    (tpj : TP w C.len (mv s j op' ot' P' T' tj junk' p' inc mem com loa) j) (loaj : ∀ d : Dp, loa = some d → s.ds[d.i]? = some d ∧ ∃ to, mem = .bytes (octs d.i C.len) to)
    (synj : s.cut j = false → 0 < p' → ∃ n tb, s.nw = some n ∧ inc = .bytes ((octs n.d.i C.len).extract 0 p') tb ∧ com = some n.d) :
    (mv s j op' ot' P' T' tj junk' p' inc mem com loa).Ok w C (c + 1) := by
  refine ⟨ok.hb, hp, ht, ok.pl, ok.tr, Nat.le_trans hP.len (Nat.succ_le_succ ok.P), Nat.le_trans hT (Nat.succ_le_succ ok.T), Nat.le_succ_of_le ok.ds, ok.ix, ok.nw0, ok.nw1, ok.rdy, fun _ i hi => ?_, fun i hi d hd => ?_, fun _ i hi hc h0 => ?_⟩
  · by_cases e : i = j
    · subst e; exact tpj
    · have eP : (mv s j op' ot' P' T' tj junk' p' inc mem com loa).pos i = s.pos i := upd_ne _ _ e
      have eT : (mv s j op' ot' P' T' tj junk' p' inc mem com loa).tau i = s.tau i := upd_ne _ _ e
      rcases ok.tp hw i hi with ⟨h1, h2, h3⟩ | ⟨n, ta, oa, t0, h1, h2, h3, h4, h5, h6, h7⟩
      · exact .inl ⟨(hTo i hi e).trans h1, plat_off (hP.off i e) h2, eP.trans h3⟩
      · refine .inr ⟨n, ta, oa, t0, h1, (hTo i hi e).trans h2, ?_, ?_, ?_, eT.trans h6, ?_⟩
        · rw [eP]; exact plat_off (hP.off i e) h3
        · rw [eP]; exact h4
        · rw [eP]; exact h5
        · rw [eP]; exact h7
  · by_cases e : i = j
    · subst e
      have e1 : (mv s i op' ot' P' T' tj junk' p' inc mem com loa).loa i = loa := upd_same _ _ _
      have e2 : (mv s i op' ot' P' T' tj junk' p' inc mem com loa).mem i = mem := upd_same _ _ _
      rw [e2]; exact loaj d (e1 ▸ hd)
    · have e1 : (mv s j op' ot' P' T' tj junk' p' inc mem com loa).loa i = s.loa i := upd_ne _ _ e
      have e2 : (mv s j op' ot' P' T' tj junk' p' inc mem com loa).mem i = s.mem i := upd_ne _ _ e
      rw [e2]; exact ok.loa i hi d (e1 ▸ hd)
  · by_cases e : i = j
    · subst e
      have e1 : (mv s i op' ot' P' T' tj junk' p' inc mem com loa).pos i = p' := upd_same _ _ _
      have e2 : (mv s i op' ot' P' T' tj junk' p' inc mem com loa).inc i = inc := upd_same _ _ _
      have e3 : (mv s i op' ot' P' T' tj junk' p' inc mem com loa).com i = com := upd_same _ _ _
      rw [e1, e2, e3]; exact synj hc (e1 ▸ h0)
    · have e1 : (mv s j op' ot' P' T' tj junk' p' inc mem com loa).pos i = s.pos i := upd_ne _ _ e
      have e2 : (mv s j op' ot' P' T' tj junk' p' inc mem com loa).inc i = s.inc i := upd_ne _ _ e
      have e3 : (mv s j op' ot' P' T' tj junk' p' inc mem com loa).com i = s.com i := upd_ne _ _ e
      rw [e1, e2, e3]; exact ok.syn hw i hi hc (e1 ▸ h0)
theorem mv_asked {op' ot' : Obj} {P' : List (Int × Value)} {T' : List (Str × Value)} {tj junk' : List (Addr × Obj)} {p' : Nat} {inc mem : Value} {com loa : Option Dp}
    (go : s.cut j = false → ∀ n, s.nw = some n → loa = some n.d ∨ s.pos j + 1 ≤ p') : Asked C s (mv s j op' ot' P' T' tj junk' p' inc mem com loa) j :=
  ⟨rfl, rfl, rfl, fun _ h => upd_ne _ _ h, fun _ h => upd_ne _ _ h, fun _ hc n hn => by
    have e1 : (mv s j op' ot' P' T' tj junk' p' inc mem com loa).pos j = p' := upd_same _ _ _
    have e2 : (mv s j op' ot' P' T' tj junk' p' inc mem com loa).loa j = loa := upd_same _ _ _
    rw [e1, e2]; exact go hc n hn⟩
theorem mv_cnt {op' ot' : Obj} {P' : List (Int × Value)} {T' : List (Str × Value)} {tj junk' : List (Addr × Obj)} {p' : Nat} {inc mem : Value} {com loa : Option Dp} (hj : j < 3) (a : Addr × Obj) :
    cnt a ((mv s j op' ot' P' T' tj junk' p' inc mem com loa).led w C) = one (C.bk, s.ob) a + (one (s.pl, op') a + (one (C.ct, lst (l3 fun j => .bool (s.cut j)) C.nct) a + (one (C.sd, instObj 94 C.sdd) a
      + (one (C.sdd, serD w C.ks (.ref C.sgv) (.int C.sz C.tb) (.int (if s.wt then -1 else 0) s.tp) s.cid (.ref s.tr) C.sinc s.smem) a + (one (s.tr, ot') a + (one (C.sgv, instObj 171 C.sgd) a + (one (C.sgd, givD w C.kgs C.now C.dr C.ap C.te (.ref C.dm) (.int C.len C.tl2) C.cv) a
      + (cnt a (HL w C (setR s j inc mem com loa) []) + (cnt a (dbl C.len s.nw) + ((cnt a tj + cnt a (oth3 s.tau j)) + cnt a junk')))))))))) := by
  have e : oth3 (mv s j op' ot' P' T' tj junk' p' inc mem com loa).tau j = oth3 s.tau j := oth3_congr hj fun i h => upd_ne _ _ h
  have e2 : (mv s j op' ot' P' T' tj junk' p' inc mem com loa).tau j = tj := upd_same _ _ _
  have e3 : ∀ X, HL w C (mv s j op' ot' P' T' tj junk' p' inc mem com loa) X = HL w C (setR s j inc mem com loa) X := fun X => rfl
  unfold Stt.led
  rw [e3]
  simp only [cnt_cons]
  rw [show cnt a (HL w C (setR s j inc mem com loa) (dbl C.len (mv s j op' ot' P' T' tj junk' p' inc mem com loa).nw ++ (all3 (mv s j op' ot' P' T' tj junk' p' inc mem com loa).tau ++ (mv s j op' ot' P' T' tj junk' p' inc mem com loa).junk))) = cnt a (HL w C (setR s j inc mem com loa) []) + (cnt a (dbl C.len s.nw) + ((cnt a tj + cnt a (oth3 s.tau j)) + cnt a junk')) by
    rw [HL_cnt hj, HL_cnt hj, cnt_app, cnt_app, all3_cnt _ hj, e, e2]
    simp only [cnt_nil]
    show _ + (_ + (_ + (_ + (_ + (_ + (cnt a (dbl C.len s.nw) + (_ + cnt a junk'))))))) = _
    omega]
  rfl
theorem led_cnt (hj : j < 3) (a : Addr × Obj) :
    cnt a (s.led w C) = one (C.bk, s.ob) a + (one (s.pl, s.op) a + (one (C.ct, lst (l3 fun j => .bool (s.cut j)) C.nct) a + (one (C.sd, instObj 94 C.sdd) a
      + (one (C.sdd, serD w C.ks (.ref C.sgv) (.int C.sz C.tb) (.int (if s.wt then -1 else 0) s.tp) s.cid (.ref s.tr) C.sinc s.smem) a + (one (s.tr, s.ot) a + (one (C.sgv, instObj 171 C.sgd) a + (one (C.sgd, givD w C.kgs C.now C.dr C.ap C.te (.ref C.dm) (.int C.len C.tl2) C.cv) a
      + (cnt a (HL w C s []) + (cnt a (dbl C.len s.nw) + ((cnt a (s.tau j) + cnt a (oth3 s.tau j)) + cnt a s.junk)))))))))) := by
  unfold Stt.led
  simp only [cnt_cons]
  rw [show cnt a (HL w C s (dbl C.len s.nw ++ (all3 s.tau ++ s.junk))) = cnt a (HL w C s []) + (cnt a (dbl C.len s.nw) + ((cnt a (s.tau j) + cnt a (oth3 s.tau j)) + cnt a s.junk)) by
    rw [HL_cnt0 hj, HL_cnt0 hj, cnt_app, cnt_app, all3_cnt _ hj]
    simp only [cnt_nil]
    omega]
theorem HL_app (X : List (Addr × Obj)) (a : Addr × Obj) : cnt a (HL w C s X) = cnt a (HL w C s []) + cnt a X := by
  unfold HL; simp only [cnt_cons, cnt_app, cnt_nil]; omega
theorem setR_id : setR s j (s.inc j) (s.mem j) (s.com j) (s.loa j) = s := by
  unfold setR; rw [upd_id, upd_id, upd_id, upd_id]
end
end
section
section
variable {w : World} {C : Cx} {s : Stt} {c j : Nat} {tj : Tok}
abbrev AskPost (w : World) (C : Cx) (c : Nat) (s : Stt) (j : Nat) (v : Value) (post : List (Addr × Obj)) : Prop :=
  v = .bool true ∧ ∃ s' : Stt, post.Perm (s'.led w C) ∧ s'.Ok w C (c + 1) ∧ Asked C s s' j
def X2 (w : World) (C : Cx) (s : Stt) (j : Nat) : List (Addr × Obj) := (C.sgv, instObj 171 C.sgd) :: (C.sgd, givD w C.kgs C.now C.dr C.ap C.te (.ref C.dm) (.int C.len C.tl2) C.cv) :: ((s.tau j ++ oth3 s.tau j) ++ s.junk)
theorem X2_cnt (a : Addr × Obj) : cnt a (X2 w C s j) = one (C.sgv, instObj 171 C.sgd) a + (one (C.sgd, givD w C.kgs C.now C.dr C.ap C.te (.ref C.dm) (.int C.len C.tl2) C.cv) a + ((cnt a (s.tau j) + cnt a (oth3 s.tau j)) + cnt a s.junk)) := by
  unfold X2; rw [cnt_cons, cnt_cons, cnt_app, cnt_app]
def X3 (w : World) (C : Cx) (s : Stt) (j : Nat) : List (Addr × Obj) := (C.sgv, instObj 171 C.sgd) :: (C.sgd, givD w C.kgs C.now C.dr C.ap C.te (.ref C.dm) (.int C.len C.tl2) C.cv) :: (oth3 s.tau j ++ s.junk)
theorem X3_cnt (a : Addr × Obj) : cnt a (X3 w C s j) = one (C.sgv, instObj 171 C.sgd) a + (one (C.sgd, givD w C.kgs C.now C.dr C.ap C.te (.ref C.dm) (.int C.len C.tl2) C.cv) a + (cnt a (oth3 s.tau j) + cnt a s.junk)) := by
  unfold X3; rw [cnt_cons, cnt_cons, cnt_app]
theorem asks_w (hC : C.Ok) (ok : s.Ok w C c) (hc : c < 100) (hj : j < 3) (hw : s.wt = true) :
    MeetsL w 210 ⟨[.ref C.bk, .ref C.sd, .ref C.rv, .int j tj], []⟩ (s.led w C) (AskPost w C c s j) := by
  have hb := ok.hb
  rw [hw] at hb
  have M := asks_waits w (k := C.ks) (gv := .ref C.sgv) (bs := .int C.sz C.tb) (cid := s.cid) (inc := C.sinc) (mem := s.smem) (tr := s.tr) (tp := s.tp) (tj := tj) (nc := C.nct) (sd := C.sd) (sdd := C.sdd) (rv := C.rv) (bk := C.bk) (restH := [])
    (cts := l3 fun j => .bool (s.cut j)) (c := s.cut j) hb hj (l3_get _ hj) (fun _ => hd_none (w := w) (C := C) (s := s) (j := j) (tj := tj) ([(s.pl, s.op), (s.tr, s.ot), (C.sgv, instObj 171 C.sgd), (C.sgd, givD w C.kgs C.now C.dr C.ap C.te (.ref C.dm) (.int C.len C.tl2) C.cv)] ++ (dbl C.len s.nw ++ ((s.tau j ++ oth3 s.tau j) ++ s.junk))) hC hc hb hj ok.ds ok.ix (ok.loa j hj))
    (List.append_nil _).symm
  refine M.conv (perm_cnt fun a => ?_) ?_
  · rw [led_cnt hj]; simp +arith only [hw, cnt_app, cnt_cons, cnt_nil, List.cons_append, List.nil_append, HL_app ((s.pl, s.op) :: _), if_true]
  · rintro v post ⟨rfl, h⟩
    refine ⟨rfl, s, perm_cnt fun a => ?_, ok.more, ⟨rfl, rfl, rfl, fun _ _ => rfl, fun _ _ => rfl, fun h => by rw [hw] at h; cases h⟩⟩
    rw [led_cnt hj]
    rcases h with ⟨_, rfl⟩ | ⟨_, q, hq, rfl⟩
    · simp +arith only [hw, cnt_app, cnt_cons, cnt_nil, List.cons_append, List.nil_append, HL_app ((s.pl, s.op) :: _), if_true]
    · simp +arith only [cnt_perm hq a, hw, cnt_app, cnt_cons, cnt_nil, List.cons_append, List.nil_append, HL_app ((s.pl, s.op) :: _), if_true]
theorem asks_n (hC : C.Ok) (ok : s.Ok w C c) (hc : c < 100) (hj : j < 3) (hw : s.wt = false) (hn : s.nw = none) :
    MeetsL w 210 ⟨[.ref C.bk, .ref C.sd, .ref C.rv, .int j tj], []⟩ (s.led w C) (AskPost w C c s j) := by
  have hb := ok.hb
  rw [hw, hn] at hb
  have hv : valueAt s.T (rkey j) = none := by
    rcases ok.tp hw j hj with ⟨h, _⟩ | ⟨n, _, _, _, h, _⟩
    · exact h
    · rw [hn] at h; cases h
  have M := asks_nil w (k := C.ks) (gv := .ref C.sgv) (szv := .int C.sz C.ts) (sz := C.sz) (tb := C.tb) (cid := s.cid) (inc := C.sinc) (tr := s.tr) (ot := s.ot) (T := s.T) (tp := s.tp) (tj := tj) (nc := C.nct) (sd := C.sd) (sdd := C.sdd) (rv := C.rv) (bk := C.bk) (restH := [])
    (cts := l3 fun j => .bool (s.cut j)) (c := s.cut j) hb hj (l3_get _ hj) ok.ht (by have := ok.T; omega) ok.tr hv (fun _ => hd_none (w := w) (C := C) (s := s) (j := j) (tj := tj) ([(s.pl, s.op), (C.sgv, instObj 171 C.sgd), (C.sgd, givD w C.kgs C.now C.dr C.ap C.te (.ref C.dm) (.int C.len C.tl2) C.cv)] ++ (dbl C.len s.nw ++ ((s.tau j ++ oth3 s.tau j) ++ s.junk))) hC hc hb hj ok.ds ok.ix (ok.loa j hj))
    (List.append_nil _).symm
  have hm := (ok.nw0 hn).2
  refine M.conv (perm_cnt fun a => ?_) ?_
  · rw [led_cnt hj]; simp +arith only [hw, hm, cnt_app, cnt_cons, cnt_nil, List.cons_append, List.nil_append, HL_app ((s.pl, s.op) :: _), Bool.false_eq_true, if_false]
  · rintro v post ⟨rfl, h⟩
    refine ⟨rfl, s, perm_cnt fun a => ?_, ok.more, ⟨rfl, rfl, rfl, fun _ _ => rfl, fun _ _ => rfl, fun _ _ n h => by rw [hn] at h; cases h⟩⟩
    rw [led_cnt hj]
    rcases h with ⟨_, rfl⟩ | ⟨_, q, hq, rfl⟩
    · simp +arith only [hw, hm, cnt_app, cnt_cons, cnt_nil, List.cons_append, List.nil_append, HL_app ((s.pl, s.op) :: _), Bool.false_eq_true, if_false]
    · simp +arith only [cnt_perm hq a, hw, hm, cnt_app, cnt_cons, cnt_nil, List.cons_append, List.nil_append, HL_app ((s.pl, s.op) :: _), Bool.false_eq_true, if_false]
theorem asks_f (hC : C.Ok) (ok : s.Ok w C c) (hc : c < 100) (hj : j < 3) (hw : s.wt = false) {n : Nw} (hn : s.nw = some n) (hv : valueAt s.T (rkey j) = none) (hp : PlAt s.P j 0) (h0 : s.pos j = 0) :
    MeetsL w 210 ⟨[.ref C.bk, .ref C.sd, .ref C.rv, .int j tj], []⟩ (s.led w C) (AskPost w C c s j) := by
  have hb := ok.hb
  rw [hw, hn] at hb
  have osz : (octs n.d.i C.len).size = 4 + C.len := octs_size _ _
  have hl := hC.len
  have s1 := hC.sz1
  obtain ⟨hi, hdi, hm⟩ := ok.nw1 n hn
  have hps : ((octs n.d.i C.len).extract 0 (0 + C.sz)).size = min (0 + C.sz) (4 + C.len) := by rw [Array.size_extract, osz]; omega
  have M := asks_new w (k := C.ks) (gv := .ref C.sgv) (sz := C.sz) (ts := C.ts) (tb := C.tb) (cid := s.cid) (inc := C.sinc) (tr := s.tr) (ot := s.ot) (T := s.T) (tp := s.tp) (tj := tj) (nc := C.nct) (sd := C.sd) (sdd := C.sdd) (rv := C.rv) (bk := C.bk) (db := n.db) (d0 := .ref n.d.t2) (to := n.toc) (tm := n.tm) (oct := octs n.d.i C.len) (op := s.op) (P := s.P) (preH := HL w C s (X2 w C s j)) (restH := [])
    (cts := l3 fun j => .bool (s.cut j)) (c := s.cut j) hb hj (l3_get _ hj) ok.hp (by have := ok.P; omega) ok.pl hp ⟨s1, hC.sz5⟩ (by omega) (by omega) ok.ht (by have := ok.T; omega) ok.tr hv
    (PostH := fun x t q => ∃ t', q.Perm ((C.bk, s.ob) :: (n.db, tup [.ref n.d.t2, .bytes (octs n.d.i C.len) n.toc]) :: (x, tup [.bytes ((octs n.d.i C.len).extract 0 (0 + C.sz)) t, .bool true, .bool false]) :: HL w C (setR s j (.bytes ((octs n.d.i C.len).extract 0 (0 + C.sz)) t') (s.mem j) (some n.d) (s.loa j)) (X2 w C s j)))
    (fun _ x t => hd_first (w := w) (C := C) (s := s) (j := j) (tj := tj) (X2 w C s j) n hC hc hb hj ok.ds (by omega) (ok.loa j hj))
    (List.append_nil _).symm
  refine M.conv (perm_cnt fun a => ?_) ?_
  · rw [led_cnt hj]; simp +arith only [hw, hm, hn, dbl, cnt_app, cnt_cons, cnt_nil, List.cons_append, List.nil_append, HL_app (X2 w C s j), X2_cnt, Bool.false_eq_true, if_false]
  · rintro v post ⟨rfl, z, g1, g2, g3, g4, h⟩
    have tpj : ∀ junk inc mem com loa, TP w C.len (mv s j z.op z.ot z.P (stored s.T (rkey j) (.ref z.ta)) [(z.ta, z.oa)] junk (0 + ((octs n.d.i C.len).extract 0 (0 + C.sz)).size) inc mem com loa) j := fun junk inc mem com loa => by
      have e1 : (mv s j z.op z.ot z.P (stored s.T (rkey j) (.ref z.ta)) [(z.ta, z.oa)] junk (0 + ((octs n.d.i C.len).extract 0 (0 + C.sz)).size) inc mem com loa).pos j = _ := upd_same _ _ _
      refine .inr ⟨n, z.ta, z.oa, z.t9, hn, by show valueAt (stored s.T (rkey j) (.ref z.ta)) (rkey j) = _; rw [valueAt_stored, if_pos rfl], by rw [e1]; exact g2.here, by rw [e1]; omega, by rw [e1]; omega, upd_same _ _ _, ?_⟩
      rw [e1, Nat.zero_add]; exact g4
    have hTo : ∀ i, i < 3 → i ≠ j → valueAt (stored s.T (rkey j) (.ref z.ta)) (rkey i) = valueAt s.T (rkey i) := fun i hi hne => by
      rw [valueAt_stored, if_neg (rkey_ne hi hj hne)]
    rcases h with ⟨hcut, rfl⟩ | ⟨hcut, x, t, q, ⟨t', hq⟩, rfl⟩
    · refine ⟨rfl, mv s j z.op z.ot z.P (stored s.T (rkey j) (.ref z.ta)) [(z.ta, z.oa)] (s.tau j ++ s.junk) (0 + ((octs n.d.i C.len).extract 0 (0 + C.sz)).size) (s.inc j) (s.mem j) (s.com j) (s.loa j), perm_cnt fun a => ?_, ?_, ?_⟩
      · rw [mv_cnt hj, setR_id]; simp +arith only [hw, hm, hn, dbl, cnt_app, cnt_cons, cnt_nil, List.cons_append, List.nil_append, HL_app (X2 w C s j), X2_cnt, Bool.false_eq_true, if_false]
      · exact mv_ok ok hj hw g1 g3 g2 (stored_length_le _ _ _) hTo (tpj _ _ _ _ _) (ok.loa j hj) (fun h => by rw [hcut] at h; cases h)
      · exact mv_asked fun h => by rw [hcut] at h; cases h
    · refine ⟨rfl, mv s j z.op z.ot z.P (stored s.T (rkey j) (.ref z.ta)) [(z.ta, z.oa)] ((x, tup [.bytes ((octs n.d.i C.len).extract 0 (0 + C.sz)) t, .bool true, .bool false]) :: (s.tau j ++ s.junk)) (0 + ((octs n.d.i C.len).extract 0 (0 + C.sz)).size) (.bytes ((octs n.d.i C.len).extract 0 (0 + C.sz)) t') (s.mem j) (some n.d) (s.loa j), perm_cnt fun a => ?_, ?_, ?_⟩
      · rw [mv_cnt hj]; simp +arith only [cnt_perm hq a, hw, hm, hn, dbl, cnt_app, cnt_cons, cnt_nil, List.cons_append, List.nil_append, HL_app (X2 w C s j), X2_cnt, Bool.false_eq_true, if_false]
      · refine mv_ok ok hj hw g1 g3 g2 (stored_length_le _ _ _) hTo (tpj _ _ _ _ _) (ok.loa j hj) (fun _ _ => ⟨n, t', hn, ?_, rfl⟩)
        rw [ext_min _ 0 C.sz (Nat.zero_le _)]
      · exact mv_asked fun _ n' hn' => .inr (by rw [h0]; omega)
theorem asks_o (hC : C.Ok) (ok : s.Ok w C c) (hc : c < 100) (hj : j < 3) (hw : s.wt = false) {n : Nw} (hn : s.nw = some n) {ta : Addr} {oa : Obj} {t0 : Tok} (hv : valueAt s.T (rkey j) = some (.ref ta)) (hp : PlAt s.P j (s.pos j)) (h0 : 0 < s.pos j) (hpo : s.pos j ≤ 4 + C.len)
    (hta : s.tau j = [(ta, oa)]) (ha : SD w oa [(Str.ofString "transmitted", .int (s.pos j) t0), (Str.ofString "data", .bytes (octs n.d.i C.len) n.tm)]) :
    MeetsL w 210 ⟨[.ref C.bk, .ref C.sd, .ref C.rv, .int j tj], []⟩ (s.led w C) (AskPost w C c s j) := by
  have hb := ok.hb
  rw [hw, hn] at hb
  have osz : (octs n.d.i C.len).size = 4 + C.len := octs_size _ _
  have hl := hC.len
  have s1 := hC.sz1
  obtain ⟨hi, hdi, hm⟩ := ok.nw1 n hn
  obtain ⟨p, hpp⟩ : ∃ p, p = s.pos j := ⟨_, rfl⟩
  rw [← hpp] at hp h0 hpo ha
  have hps : ((octs n.d.i C.len).extract p (p + C.sz)).size = min (p + C.sz) (4 + C.len) - p := by rw [Array.size_extract, osz]
  have e0 : decide (p = 0) = false := decide_eq_false (by omega)
  have hsyn := fun h => ok.syn hw j hj h (hpp ▸ h0)
  have hTo : ∀ (T' : List (Str × Value)), (T' = s.T ∨ T' = without s.T (rkey j)) → T'.length ≤ s.T.length + 1 ∧ ∀ i, i < 3 → i ≠ j → valueAt T' (rkey i) = valueAt s.T (rkey i) := by
    rintro T' (rfl | rfl)
    · exact ⟨Nat.le_succ _, fun _ _ _ => rfl⟩
    · exact ⟨Nat.le_succ_of_le (without_length_le _ _), fun i hi hne => by rw [valueAt_without, if_neg (rkey_ne hi hj hne)]⟩
  by_cases hlast : p = (octs n.d.i C.len).size
  · have e1 : decide (p = (octs n.d.i C.len).size) = true := decide_eq_true hlast
    have M := asks_old w (k := C.ks) (gv := .ref C.sgv) (sz := C.sz) (ts := C.ts) (tb := C.tb) (cid := s.cid) (inc := C.sinc) (tr := s.tr) (ot := s.ot) (T := s.T) (tp := s.tp) (tj := tj) (nc := C.nct) (sd := C.sd) (sdd := C.sdd) (rv := C.rv) (bk := C.bk) (db := n.db) (d0 := .ref n.d.t2) (to := n.toc) (tm := n.tm) (oct := octs n.d.i C.len) (op := s.op) (P := s.P) (ta := ta) (oa := oa) (t0 := t0) (p := p)
      (preH := HL w C s (X3 w C s j)) (restH := [])
      (cts := l3 fun j => .bool (s.cut j)) (c := s.cut j) hb hj (l3_get _ hj) ok.hp (by have := ok.P; omega) ok.pl hp ⟨s1, hC.sz5⟩ (by omega) (by omega) ok.ht (by have := ok.T; omega) ok.tr hv ha (by omega)
      (PostH := fun x t q => s.cut j = false ∧ ∃ t', q.Perm ((C.bk, s.ob) :: (x, tup [.bytes ((octs n.d.i C.len).extract p (p + C.sz)) t, .bool false, .bool true]) :: ([(n.db, tup [.ref n.d.t2, .bytes (octs n.d.i C.len) n.toc])] ++ HL w C (setR s j .none (.bytes (octs n.d.i C.len) t') none (some n.d)) (X3 w C s j))))
      (fun hcut x t => by
        obtain ⟨n', tb, hn', hin, hco⟩ := hsyn hcut
        have : n' = n := Option.some.inj (hn'.symm.trans hn)
        subst this
        rw [e0, e1]
        refine (hd_last (w := w) (C := C) (s := s) (j := j) (tj := tj) (X3 w C s j) n'.d hC hc hb hj ok.ds (by omega) ?_ hin hdi hco ?_ [(n'.db, tup [.ref n'.d.t2, .bytes (octs n'.d.i C.len) n'.toc])]).conv (perm_cnt fun a => ?_) fun v post h => ⟨h.1, hcut, h.2⟩
        · rw [← hpp, Array.size_extract]; omega
        · rw [← hpp, ext_ext, Array.extract_eq_self_of_le (by omega)]
        · simp +arith only [cnt_app, cnt_cons, cnt_nil, List.cons_append, List.nil_append])
      (List.append_nil _).symm
    refine M.conv (perm_cnt fun a => ?_) ?_
    · rw [led_cnt hj, hta]; simp +arith only [hw, hm, hn, dbl, cnt_app, cnt_cons, cnt_nil, List.cons_append, List.nil_append, HL_app (X3 w C s j), X3_cnt, Bool.false_eq_true, if_false]
    · rintro v post ⟨rfl, z, g1, g2, g3, g4, h⟩
      rw [if_pos hlast] at g2 g3
      obtain ⟨k1, k2⟩ := hTo _ (.inr rfl)
      have tpj : ∀ junk inc mem com loa, TP w C.len (mv s j z.op z.ot z.P (without s.T (rkey j)) [] junk 0 inc mem com loa) j := fun junk inc mem com loa =>
        .inl ⟨by show valueAt (without s.T (rkey j)) (rkey j) = _; rw [valueAt_without, if_pos rfl], g2.here, upd_same _ _ _⟩
      rcases h with ⟨hcut, rfl⟩ | ⟨_, x, t, q, ⟨hcut, t', hq⟩, rfl⟩
      · refine ⟨rfl, mv s j z.op z.ot z.P (without s.T (rkey j)) [] ((ta, z.oa) :: s.junk) 0 (s.inc j) (s.mem j) (s.com j) (s.loa j), perm_cnt fun a => ?_, ?_, ?_⟩
        · rw [mv_cnt hj, setR_id]; simp +arith only [hw, hm, hn, dbl, cnt_app, cnt_cons, cnt_nil, List.cons_append, List.nil_append, HL_app (X3 w C s j), X3_cnt, Bool.false_eq_true, if_false]
        · exact mv_ok ok hj hw g1 g3 g2 k1 k2 (tpj _ _ _ _ _) (ok.loa j hj) (fun h => by rw [hcut] at h; cases h)
        · exact mv_asked fun h => by rw [hcut] at h; cases h
      · refine ⟨rfl, mv s j z.op z.ot z.P (without s.T (rkey j)) [] ((ta, z.oa) :: (x, tup [.bytes ((octs n.d.i C.len).extract p (p + C.sz)) t, .bool false, .bool true]) :: s.junk) 0 .none (.bytes (octs n.d.i C.len) t') none (some n.d), perm_cnt fun a => ?_, ?_, ?_⟩
        · rw [mv_cnt hj]; simp +arith only [cnt_perm hq a, hw, hm, hn, dbl, cnt_app, cnt_cons, cnt_nil, List.cons_append, List.nil_append, HL_app (X3 w C s j), X3_cnt, Bool.false_eq_true, if_false]
        · exact mv_ok ok hj hw g1 g3 g2 k1 k2 (tpj _ _ _ _ _) (fun d hd => by cases hd; exact ⟨hdi, t', rfl⟩) (fun _ h => absurd h (Nat.lt_irrefl _))
        · exact mv_asked fun _ n' hn' => .inl (by rw [Option.some.inj (hn'.symm.trans hn)])
  · have e1 : decide (p = (octs n.d.i C.len).size) = false := decide_eq_false hlast
    have M := asks_old w (k := C.ks) (gv := .ref C.sgv) (sz := C.sz) (ts := C.ts) (tb := C.tb) (cid := s.cid) (inc := C.sinc) (tr := s.tr) (ot := s.ot) (T := s.T) (tp := s.tp) (tj := tj) (nc := C.nct) (sd := C.sd) (sdd := C.sdd) (rv := C.rv) (bk := C.bk) (db := n.db) (d0 := .ref n.d.t2) (to := n.toc) (tm := n.tm) (oct := octs n.d.i C.len) (op := s.op) (P := s.P) (ta := ta) (oa := oa) (t0 := t0) (p := p)
      (preH := HL w C s (X3 w C s j)) (restH := [])
      (cts := l3 fun j => .bool (s.cut j)) (c := s.cut j) hb hj (l3_get _ hj) ok.hp (by have := ok.P; omega) ok.pl hp ⟨s1, hC.sz5⟩ (by omega) (by omega) ok.ht (by have := ok.T; omega) ok.tr hv ha (by omega)
      (PostH := fun x t q => s.cut j = false ∧ ∃ t', q.Perm ((C.bk, s.ob) :: (x, tup [.bytes ((octs n.d.i C.len).extract p (p + C.sz)) t, .bool false, .bool false]) :: ([(n.db, tup [.ref n.d.t2, .bytes (octs n.d.i C.len) n.toc])] ++ HL w C (setR s j (.bytes ((octs n.d.i C.len).extract 0 (p + C.sz)) t') (s.mem j) (some n.d) (s.loa j)) (X3 w C s j))))
      (fun hcut x t => by
        obtain ⟨n', tb, hn', hin, hco⟩ := hsyn hcut
        have : n' = n := Option.some.inj (hn'.symm.trans hn)
        subst this
        rw [e0, e1]
        refine (hd_mid (w := w) (C := C) (s := s) (j := j) (tj := tj) (X3 w C s j) (x := x) (t := t) (part := (octs n'.d.i C.len).extract p (p + C.sz)) hC hc hb hj ok.ds (by omega) ?_ hin (ok.loa j hj) [(n'.db, tup [.ref n'.d.t2, .bytes (octs n'.d.i C.len) n'.toc])]).conv (perm_cnt fun a => ?_) fun v post h => ⟨h.1, hcut, ?_⟩
        · rw [← hpp, Array.size_extract]; omega
        · simp +arith only [cnt_app, cnt_cons, cnt_nil, List.cons_append, List.nil_append]
        · rw [← hpp, ext_ext, hco] at h; exact h.2)
      (List.append_nil _).symm
    refine M.conv (perm_cnt fun a => ?_) ?_
    · rw [led_cnt hj, hta]; simp +arith only [hw, hm, hn, dbl, cnt_app, cnt_cons, cnt_nil, List.cons_append, List.nil_append, HL_app (X3 w C s j), X3_cnt, Bool.false_eq_true, if_false]
    · rintro v post ⟨rfl, z, g1, g2, g3, g4, h⟩
      rw [if_neg hlast] at g2 g3
      obtain ⟨k1, k2⟩ := hTo _ (.inl rfl)
      have hpl : p + ((octs n.d.i C.len).extract p (p + C.sz)).size ≤ 4 + C.len := by omega
      have hpg : p + 1 ≤ p + ((octs n.d.i C.len).extract p (p + C.sz)).size := by omega
      have tpj : ∀ junk inc mem com loa, TP w C.len (mv s j z.op z.ot z.P s.T [(ta, z.oa)] junk (p + ((octs n.d.i C.len).extract p (p + C.sz)).size) inc mem com loa) j := fun junk inc mem com loa => by
        have e1 : (mv s j z.op z.ot z.P s.T [(ta, z.oa)] junk (p + ((octs n.d.i C.len).extract p (p + C.sz)).size) inc mem com loa).pos j = _ := upd_same _ _ _
        refine .inr ⟨n, ta, z.oa, z.t9, hn, hv, by rw [e1]; exact g2.here, by rw [e1]; omega, by rw [e1]; exact hpl, upd_same _ _ _, ?_⟩
        rw [e1]; exact g4
      rcases h with ⟨hcut, rfl⟩ | ⟨_, x, t, q, ⟨hcut, t', hq⟩, rfl⟩
      · refine ⟨rfl, mv s j z.op z.ot z.P s.T [(ta, z.oa)] s.junk (p + ((octs n.d.i C.len).extract p (p + C.sz)).size) (s.inc j) (s.mem j) (s.com j) (s.loa j), perm_cnt fun a => ?_, ?_, ?_⟩
        · rw [mv_cnt hj, setR_id]; simp +arith only [hw, hm, hn, dbl, cnt_app, cnt_cons, cnt_nil, List.cons_append, List.nil_append, HL_app (X3 w C s j), X3_cnt, Bool.false_eq_true, if_false]
        · exact mv_ok ok hj hw g1 g3 g2 k1 k2 (tpj _ _ _ _ _) (ok.loa j hj) (fun h => by rw [hcut] at h; cases h)
        · exact mv_asked fun h => by rw [hcut] at h; cases h
      · refine ⟨rfl, mv s j z.op z.ot z.P s.T [(ta, z.oa)] ((x, tup [.bytes ((octs n.d.i C.len).extract p (p + C.sz)) t, .bool false, .bool false]) :: s.junk) (p + ((octs n.d.i C.len).extract p (p + C.sz)).size) (.bytes ((octs n.d.i C.len).extract 0 (p + C.sz)) t') (s.mem j) (some n.d) (s.loa j), perm_cnt fun a => ?_, ?_, ?_⟩
        · rw [mv_cnt hj]; simp +arith only [cnt_perm hq a, hw, hm, hn, dbl, cnt_app, cnt_cons, cnt_nil, List.cons_append, List.nil_append, HL_app (X3 w C s j), X3_cnt, Bool.false_eq_true, if_false]
        · refine mv_ok ok hj hw g1 g3 g2 k1 k2 (tpj _ _ _ _ _) (ok.loa j hj) (fun _ _ => ⟨n, t', hn, ?_, rfl⟩)
          rw [ext_min _ p C.sz (by omega)]
        · exact mv_asked fun _ _ _ => .inr (by omega)
theorem asks_op (hC : C.Ok) (ok : s.Ok w C c) (hc : c < 100) (hj : j < 3) : MeetsL w 210 ⟨[.ref C.bk, .ref C.sd, .ref C.rv, .int j tj], []⟩ (s.led w C) (AskPost w C c s j) := by
  cases hw : s.wt with
  | true => exact asks_w hC ok hc hj hw
  | false =>
    cases hn : s.nw with
    | none => exact asks_n hC ok hc hj hw hn
    | some n =>
      rcases ok.tp hw j hj with ⟨h1, h2, h3⟩ | ⟨n', ta, oa, t0, h1, h2, h3, h4, h5, h6, h7⟩
      · exact asks_f hC ok hc hj hw hn h1 h2 h3
      · exact asks_o hC ok hc hj hw h1 h2 h3 h4 h5 h6 h7
end
end
section
section
variable {w : World} {C : Cx} {s : Stt} {c j : Nat} {tj : Tok}
theorem led_cnt3 (a : Addr × Obj) :
    cnt a (s.led w C) = one (C.bk, s.ob) a + (one (s.pl, s.op) a + (one (C.ct, lst (l3 fun j => .bool (s.cut j)) C.nct) a + (one (C.sd, instObj 94 C.sdd) a
      + (one (C.sdd, serD w C.ks (.ref C.sgv) (.int C.sz C.tb) (.int (if s.wt then -1 else 0) s.tp) s.cid (.ref s.tr) C.sinc s.smem) a + (one (s.tr, s.ot) a + (one (C.sgv, instObj 171 C.sgd) a + (one (C.sgd, givD w C.kgs C.now C.dr C.ap C.te (.ref C.dm) (.int C.len C.tl2) C.cv) a
      + (one (C.rv, lst (l3 fun j => .ref (C.r j)) C.nr) a + (one (C.ld, lst (l3 fun j => ov (s.loa j)) C.nld) a + (one (C.cm, lst (l3 fun j => ov (s.com j)) C.ncm) a + (one (C.dm, lst (vsOf s.ds) s.nd0) a + (cnt a (all3 (robj w C s.inc s.mem)) + (cnt a (s.ds.flatMap Dp.objs)
      + (cnt a (dbl C.len s.nw) + (cnt a (all3 s.tau) + cnt a s.junk))))))))))))))) := by
  unfold Stt.led HL
  simp only [cnt_cons, cnt_app]
structure Same (s s' : Stt) : Prop where
  cut : s'.cut = s.cut
  loa : s'.loa = s.loa
theorem looks_op (ok : s.Ok w C c) (hc : c < 100) :
    MeetsL w 224 ⟨[.ref C.bk, .ref C.sd], []⟩ (s.led w C) (fun v post => v = .bool true ∧ ∃ s' : Stt, post.Perm (s'.led w C) ∧ s'.Ok w C (c + 1) ∧ Same s s' ∧ s'.wt = false ∧ s'.nw = s.nw) := by
  have hb := ok.hb
  cases hw : s.wt with
  | false =>
    rw [hw] at hb
    have M := ((looks_idle w (k := C.ks) (gv := .ref C.sgv) (bs := .int C.sz C.tb) (cid := s.cid) (inc := C.sinc) (mem := s.smem) (tr := .ref s.tr) (tp := s.tp) (sd := C.sd) (sdd := C.sdd) (bk := C.bk) hb).frame
      ((s.pl, s.op) :: (C.ct, lst (l3 fun j => .bool (s.cut j)) C.nct) :: (s.tr, s.ot) :: (C.sgv, instObj 171 C.sgd) :: (C.sgd, givD w C.kgs C.now C.dr C.ap C.te (.ref C.dm) (.int C.len C.tl2) C.cv) :: (HL w C s (dbl C.len s.nw ++ (all3 s.tau ++ s.junk))))).toL (by decide)
    refine M.conv (perm_cnt fun a => ?_) ?_
    · simp +arith only [Stt.led, hw, cnt_app, cnt_cons, cnt_nil, List.cons_append, List.nil_append, Bool.false_eq_true, if_false]
    · rintro v post ⟨q, rfl, rfl, rfl⟩
      refine ⟨rfl, s, perm_cnt fun a => ?_, ok.more, ⟨rfl, rfl⟩, hw, rfl⟩
      simp +arith only [Stt.led, hw, cnt_app, cnt_cons, cnt_nil, List.cons_append, List.nil_append, Bool.false_eq_true, if_false]
  | true =>
    rw [hw] at hb
    obtain ⟨x, tx, tx2, e1, e2⟩ := ok.rdy hw
    rw [e1] at hb
    have M := ((looks_waits w (k := C.ks) (gv := .ref C.sgv) (bs := .int C.sz C.tb) (inc := C.sinc) (mem := s.smem) (tr := .ref s.tr) (tp := s.tp) (sd := C.sd) (sdd := C.sdd) (bk := C.bk) (x := x) (tx := tx) (tx2 := tx2) hb).frame
      ((s.pl, s.op) :: (C.ct, lst (l3 fun j => .bool (s.cut j)) C.nct) :: (s.tr, s.ot) :: (C.sgv, instObj 171 C.sgd) :: (C.sgd, givD w C.kgs C.now C.dr C.ap C.te (.ref C.dm) (.int C.len C.tl2) C.cv) :: (HL w C s (dbl C.len s.nw ++ (all3 s.tau ++ s.junk))))).toL (by decide)
    refine M.conv (perm_cnt fun a => ?_) ?_
    · simp +arith only [Stt.led, hw, e2, cnt_app, cnt_cons, cnt_nil, List.cons_append, List.nil_append, if_true]
    · rintro v post ⟨q, rfl, z, rfl, rfl, g1, g2, g3, g4, g5⟩
      refine ⟨rfl, { s with ob := z.ob, pl := z.pl, op := z.op, tr := z.tr, ot := z.ot, P := [], T := [], wt := false, tp := z.t0, pos := fun _ => 0, junk := (s.pl, s.op) :: (s.tr, s.ot) :: s.junk }, perm_cnt fun a => ?_, ?_, ⟨rfl, rfl⟩, rfl, rfl⟩
      · rw [led_cnt3]; simp +arith only [e2, HL, cnt_app, cnt_cons, cnt_nil, List.cons_append, List.nil_append, Bool.false_eq_true, if_false]
      · exact ⟨by show SD w z.ob (bookK _ _ _ _ s.rdv _ _ _ _); rw [e1]; exact g1, g2, g4, g3, g5, Nat.zero_le _, Nat.zero_le _, Nat.le_succ_of_le ok.ds, ok.ix, ok.nw0, ok.nw1, fun h => (nomatch h), fun _ i hi => .inl ⟨rfl, .inl ⟨rfl, rfl⟩, rfl⟩, ok.loa, fun _ i hi _ h => absurd h (Nat.lt_irrefl 0)⟩
theorem cancels_op (ok : s.Ok w C c) (hc : c < 100) (hj : j < 3) :
    MeetsL w 231 ⟨[.ref C.bk, .ref C.sd, .int j tj], []⟩ (s.led w C) (fun v post => v = .none ∧ ∃ s' : Stt, post.Perm (s'.led w C) ∧ s'.Ok w C (c + 1) ∧ s'.cut = upd s.cut j false ∧ s'.loa = s.loa) := by
  have M := ((lcancels w (k := C.ks) (gv := .ref C.sgv) (bs := .int C.sz C.tb) (inc := C.sinc) (mem := s.smem) (cid := s.cid) (pid := .int (if s.wt then -1 else 0) s.tp) (sd := C.sd) (sdd := C.sdd) (bk := C.bk) (nc := C.nct) (tj := tj) (cts := l3 fun j => .bool (s.cut j)) ok.hb ok.hp (by have := ok.P; omega) ok.ht (by have := ok.T; omega) ok.tr hj rfl).frame
      ((C.sgv, instObj 171 C.sgd) :: (C.sgd, givD w C.kgs C.now C.dr C.ap C.te (.ref C.dm) (.int C.len C.tl2) C.cv) :: (HL w C s (dbl C.len s.nw ++ (all3 s.tau ++ s.junk))))).toL (by decide)
  refine M.conv (perm_cnt fun a => ?_) ?_
  · simp only [Stt.led, cnt_app, cnt_cons, cnt_nil, List.cons_append, List.nil_append]
  · rintro v post ⟨q, rfl, ob', op', ot', t0, rfl, rfl, g1, g2, g3⟩
    have eP := PlStep.one s.P j 0 t0
    refine ⟨rfl, { s with ob := ob', op := op', ot := ot', P := stored s.P (j : Int) (.int 0 t0), T := without s.T (rkey j), cut := upd s.cut j false, pos := upd s.pos j 0, tau := upd s.tau j [], junk := s.tau j ++ s.junk }, perm_cnt fun a => ?_, ?_, rfl, rfl⟩
    · rw [led_cnt3, all3_cnt (upd s.tau j []) hj, oth3_congr (f := s.tau) hj (fun i h => upd_ne _ _ h), upd_same]
      have e3 := l3_set (fun j => .bool (s.cut j)) (fun i => .bool (upd s.cut j false i)) hj (.bool false) (by show Value.bool (upd s.cut j false j) = _; rw [upd_same]) (fun i h => by show Value.bool (upd s.cut j false i) = _; rw [upd_ne _ _ h])
      simp +arith only [HL, e3, cnt_app, cnt_cons, cnt_nil, List.cons_append, List.nil_append, all3_cnt s.tau hj]
    · refine ⟨g1, g2, g3, ok.pl, ok.tr, Nat.le_trans eP.len (Nat.succ_le_succ ok.P), Nat.le_succ_of_le (Nat.le_trans (without_length_le _ _) ok.T), Nat.le_succ_of_le ok.ds, ok.ix, ok.nw0, ok.nw1, ok.rdy, fun hw i hi => ?_, ok.loa, fun hw i hi hc h => ?_⟩
      · by_cases e : i = j
        · subst e
          exact .inl ⟨by show valueAt (without s.T (rkey i)) (rkey i) = _; rw [valueAt_without, if_pos rfl], eP.here, upd_same _ _ _⟩
        · have e1 : upd s.pos j 0 i = s.pos i := upd_ne _ _ e
          have e2 : upd s.tau j [] i = s.tau i := upd_ne _ _ e
          have e4 : valueAt (without s.T (rkey j)) (rkey i) = valueAt s.T (rkey i) := by rw [valueAt_without, if_neg (rkey_ne hi hj e)]
          rcases ok.tp hw i hi with ⟨h1, h2, h3⟩ | ⟨n, ta, oa, t0, h1, h2, h3, h4, h5, h6, h7⟩
          · exact .inl ⟨e4.trans h1, plat_off (eP.off i e) h2, e1.trans h3⟩
          · refine .inr ⟨n, ta, oa, t0, h1, e4.trans h2, ?_, ?_, ?_, e2.trans h6, ?_⟩
            · show PlAt _ i (upd s.pos j 0 i); rw [e1]; exact plat_off (eP.off i e) h3
            · show 0 < upd s.pos j 0 i; rw [e1]; exact h4
            · show upd s.pos j 0 i ≤ _; rw [e1]; exact h5
            · show SD w oa [(_, .int ((upd s.pos j 0 i : Nat) : Int) t0), _]; rw [e1]; exact h7
      · by_cases e : i = j
        · subst e
          have e1 : upd s.pos i 0 i = 0 := upd_same _ _ _
          have h' : 0 < upd s.pos i 0 i := h
          rw [e1] at h'
          exact absurd h' (Nat.lt_irrefl 0)
        · have e1 : upd s.pos j 0 i = s.pos i := upd_ne _ _ e
          have e2 : upd s.cut j false i = s.cut i := upd_ne _ _ e
          have h' : 0 < s.pos i := e1 ▸ h
          obtain ⟨n, tb, k1, k2, k3⟩ := ok.syn hw i hi (e2 ▸ hc) h'
          exact ⟨n, tb, k1, by show s.inc i = .bytes (Array.extract _ 0 (upd s.pos j 0 i)) tb; rw [e1]; exact k2, k3⟩
theorem dumps_op {num : Int} {tn : Tok} (hC : C.Ok) (ok : s.Ok w C c) (hc : c < 100) (hn : 0 ≤ num) (hn2 : num < 1000000000) :
    MeetsL w 217 ⟨[.ref C.bk, .ref C.sd, .ref C.dm, .int num tn], []⟩ (s.led w C) (fun v post => v = .bool true ∧ ∃ s' : Stt, post.Perm (s'.led w C) ∧ s'.Ok w C (c + 1) ∧ Same s s' ∧ s'.wt = true ∧ (s.wt = false → ∃ n, s'.nw = some n)) := by
  have hb := ok.hb
  have hvl : (vsOf s.ds).length = s.ds.length := List.length_map ..
  have hdl := ok.ds
  cases hw : s.wt with
  | true =>
    rw [hw] at hb
    have M := ((ldumps_waits w (k := C.ks) (gv := .ref C.sgv) (bs := .int C.sz C.tb) (cid := s.cid) (inc := C.sinc) (mem := s.smem) (tr := .ref s.tr) (tp := s.tp) (sd := C.sd) (sdd := C.sdd) (bk := C.bk) (dm := C.dm) (vs := vsOf s.ds) (n := s.nd0) (tn := tn) hb (by omega) hn hn2).frame
      ((s.pl, s.op) :: (C.ct, lst (l3 fun j => .bool (s.cut j)) C.nct) :: (s.tr, s.ot) :: (C.sgv, instObj 171 C.sgd) :: (C.sgd, givD w C.kgs C.now C.dr C.ap C.te (.ref C.dm) (.int C.len C.tl2) C.cv) :: (C.rv, lst (l3 fun j => .ref (C.r j)) C.nr) :: (C.ld, lst (l3 fun j => ov (s.loa j)) C.nld) :: (C.cm, lst (l3 fun j => ov (s.com j)) C.ncm) :: (all3 (robj w C s.inc s.mem) ++ (s.ds.flatMap Dp.objs ++ (dbl C.len s.nw ++ (all3 s.tau ++ s.junk)))))).toL (by decide)
    refine M.conv (perm_cnt fun a => ?_) ?_
    · rw [led_cnt3]; simp +arith only [hw, cnt_app, cnt_cons, cnt_nil, List.cons_append, List.nil_append, if_true]
    · rintro v post ⟨q, rfl, rfl, rfl⟩
      refine ⟨rfl, s, perm_cnt fun a => ?_, ok.more, ⟨rfl, rfl⟩, hw, fun h => nomatch h⟩
      rw [led_cnt3]; simp +arith only [hw, cnt_app, cnt_cons, cnt_nil, List.cons_append, List.nil_append, if_true]
  | false =>
    rw [hw] at hb
    have M := ((ldumps_idle w (k := C.ks) (kg := C.kgs) (gv := C.sgv) (gd := C.sgd) (bs := .int C.sz C.tb) (cid := s.cid) (inc := C.sinc) (mem := s.smem) (tr := .ref s.tr) (now := C.now) (dr := C.dr) (ap := C.ap) (te := C.te) (cv := C.cv) (tl2 := C.tl2) (tp := s.tp) (sd := C.sd) (sdd := C.sdd) (bk := C.bk) (dm := C.dm) (vs := vsOf s.ds) (n := s.nd0) (tn := tn) hb hC.len (by omega) hn hn2).frame
      ((s.pl, s.op) :: (C.ct, lst (l3 fun j => .bool (s.cut j)) C.nct) :: (s.tr, s.ot) :: (C.rv, lst (l3 fun j => .ref (C.r j)) C.nr) :: (C.ld, lst (l3 fun j => ov (s.loa j)) C.nld) :: (C.cm, lst (l3 fun j => ov (s.com j)) C.ncm) :: (all3 (robj w C s.inc s.mem) ++ (s.ds.flatMap Dp.objs ++ (dbl C.len s.nw ++ (all3 s.tau ++ s.junk)))))).toL (by decide)
    refine M.conv (perm_cnt fun a => ?_) ?_
    · rw [led_cnt3]; simp +arith only [hw, cnt_app, cnt_cons, cnt_nil, List.cons_append, List.nil_append, Bool.false_eq_true, if_false]
    · rintro v post ⟨q, rfl, z, rfl, rfl, g1⟩
      obtain ⟨D, hD⟩ : ∃ D : Dp, D = ⟨z.t1, z.t2, s.ds.length, num, z.u1, z.u2, z.u3, z.u4⟩ := ⟨_, rfl⟩
      have ev : vsOf (s.ds ++ [D]) = vsOf s.ds ++ [.ref z.t1] := by unfold vsOf; rw [List.map_append, hD]; rfl
      have eo : ∀ a, cnt a ((s.ds ++ [D]).flatMap Dp.objs) = cnt a (s.ds.flatMap Dp.objs) + (one (z.t1, tup [.int num z.u1, .int (s.ds.length : Nat) z.u2]) a + one (z.t2, tup [.int num z.u3, .int (s.ds.length : Nat) z.u4]) a) := fun a => by
        rw [List.flatMap_append, cnt_app, hD]; simp +arith only [List.flatMap_cons, List.flatMap_nil, Dp.objs, cnt_app, cnt_cons, cnt_nil]
      rw [hvl] at *
      refine ⟨rfl, { s with ob := z.ob, wt := true, rdv := .int (7 * num) z.u9, tp := z.u6, cid := .int (7 * num) z.u7, smem := .bytes (octs s.ds.length C.len) z.u8, ds := s.ds ++ [D], nd0 := s.nd0 + 1, nw := some ⟨z.db, D, z.u5, z.u8⟩, junk := dbl C.len s.nw ++ s.junk }, perm_cnt fun a => ?_, ?_, ⟨rfl, rfl⟩, rfl, fun _ => ⟨_, rfl⟩⟩
      · have hDi : D.i = s.ds.length := by rw [hD]
        have hDt : D.t2 = z.t2 := by rw [hD]
        rw [led_cnt3]; simp +arith only [ev, eo, dbl, hDi, hDt, cnt_app, cnt_cons, cnt_nil, List.cons_append, List.nil_append, if_true]
      · have hDi : D.i = s.ds.length := by rw [hD]
        refine ⟨g1, ok.hp, ok.ht, ok.pl, ok.tr, Nat.le_succ_of_le ok.P, Nat.le_succ_of_le ok.T, ?_, fun i d h => ?_, fun h => (nomatch h), fun n h => ?_, fun _ => ⟨_, _, _, rfl, rfl⟩, fun h => (nomatch h), fun i hi d h => ?_, fun h => (nomatch h)⟩
        · show (s.ds ++ [D]).length ≤ c + 1
          rw [List.length_append, List.length_singleton]; omega
        · have h' : (s.ds ++ [D])[i]? = some d := h
          by_cases hlt : i < s.ds.length
          · rw [List.getElem?_append_left hlt] at h'; exact ok.ix i d h'
          · rw [List.getElem?_append_right (by omega)] at h'
            have h2 : i - s.ds.length = 0 := by
              have := (List.getElem?_eq_some_iff.mp h').1
              simp at this; omega
            rw [h2] at h'
            have : D = d := by simpa using h'
            rw [← this, hDi]; omega
        · cases h
          refine ⟨?_, ?_, ?_⟩
          · show D.i + 1 = (s.ds ++ [D]).length
            rw [List.length_append, List.length_singleton, hDi]
          · show (s.ds ++ [D])[D.i]? = some D
            rw [hDi, List.getElem?_append_right (Nat.le_refl _), Nat.sub_self]; rfl
          · show Value.bytes (octs s.ds.length C.len) z.u8 = Value.bytes (octs D.i C.len) z.u8
            rw [hDi]
        · obtain ⟨k1, k2⟩ := ok.loa i hi d h
          refine ⟨?_, k2⟩
          show (s.ds ++ [D])[d.i]? = some d
          rw [List.getElem?_append_left (List.getElem?_eq_some_iff.mp k1).1]; exact k1
theorem cut_ok (ok : s.Ok w C c) (hj : j < 3) : Stt.Ok w C (c + 1) { s with cut := upd s.cut j true } := by
  have ok := ok.more
  refine ⟨ok.hb, ok.hp, ok.ht, ok.pl, ok.tr, ok.P, ok.T, ok.ds, ok.ix, ok.nw0, ok.nw1, ok.rdy, ok.tp, ok.loa, fun hw i hi hc h => ?_⟩
  have hc' : upd s.cut j true i = false := hc
  by_cases e : i = j
  · subst e; rw [upd_same] at hc'; cases hc'
  · rw [upd_ne _ _ e] at hc'; exact ok.syn hw i hi hc' h
end
end
section
theorem own_nodup {g h : Heap} {L : Addr} : ∀ {own : List (Addr × Obj)}, News g L h own → ∃ ow : List (Addr × Obj), (∀ p, p ∈ ow ↔ p ∈ own) ∧ (ow.map (·.1)).Nodup
  | [], _ => ⟨[], fun _ => Iff.rfl, List.nodup_nil⟩
  | p :: r, N => by
    classical
    obtain ⟨ow, h1, h2⟩ := own_nodup (own := r) fun q hq => N q (.tail _ hq)
    by_cases hp : p ∈ ow
    · exact ⟨ow, fun q => ⟨fun hq => .tail _ ((h1 q).mp hq), fun hq => (List.mem_cons.mp hq).elim (fun e => e ▸ hp) fun hq => (h1 q).mpr hq⟩, h2⟩
    · refine ⟨p :: ow, fun q => ⟨fun hq => (List.mem_cons.mp hq).elim (fun e => e ▸ .head _) fun hq => .tail _ ((h1 q).mp hq), fun hq => (List.mem_cons.mp hq).elim (fun e => e ▸ .head _) fun hq => .tail _ ((h1 q).mpr hq)⟩, List.nodup_cons.mpr ⟨fun hm => ?_, h2⟩⟩
      obtain ⟨q, hq, e⟩ := List.mem_map.mp hm
      have a1 := (N p (.head _)).1
      have a2 := (N q (.tail _ ((h1 q).mp hq))).1
      have e' : q.1 = p.1 := e
      rw [e', a1] at a2
      have : q = p := Prod.ext e' (Option.some.inj a2).symm
      exact hp (this ▸ hq)
def Turn (h₀ : Heap) (L : Addr) (ow : List (Addr × Obj)) (Jn : (Str → Option Value) → List (Addr × Obj) → Prop) (s₁ : Shared) (Qr : Value → Shared → Prop) (f : Flow) (s₂ : Shared) : Prop :=
  match f with
  | .ret v => Qr v s₂
  | .next => ∃ h' tk m₂ news₂, s₂ = { s₁ with heap := h', toks := tk } ∧ Fr h₀ L h' m₂ ∧ News h₀ L h' (ow ++ news₂) ∧ Off ow news₂ ∧ Jn m₂ news₂
  | _ => False
section
variable {prog : Program} {w : World} {A : Around} {E : Value → Shared → Prop} {s : Shared} {env : Env} {h₀ : Heap} {x : Str} {body : List Stmt} {Q : Flow → Shared → Prop}
theorem Turn.step {L It : Addr} {own ow : List (Addr × Obj)} {Jn : (Str → Option Value) → List (Addr × Obj) → Prop} {Jn' : (Str → Option Value) → List (Addr × Obj) → Prop} {s₁ s₂ : Shared} {Qr : Value → Shared → Prop} {Qb : Shared → Prop} {f : Flow} (hm : ∀ p, p ∈ ow ↔ p ∈ own) {o : Obj} (hI : (It, o) ∈ ow) (hJJ : ∀ m nw, Off ow nw → Jn m nw → Jn' m nw)
    (t : Turn h₀ L ow Jn s₁ Qr f s₂) : LoopStepV h₀ L [It] own Jn' s₁ Qr Qb f s₂ := by
  cases f with
  | next =>
    obtain ⟨h', tk, m₂, news₂, rfl, F, N, off, hJ⟩ := t
    exact LoopStepV.next (LoopStepU.intro F (fun p hp => N p ((List.mem_append.mp hp).elim (fun q => List.mem_append_left _ ((hm p).mpr q)) fun q => List.mem_append_right _ q)) (fun p hp hb => off _ hI p hp (List.mem_singleton.mp hb).symm) (hJJ _ _ off hJ))
  | ret v => exact t
  | brk => exact t.elim
  | cont => exact t.elim
theorem iter_newV {l : Addr} {vs : List Value} {k : Nat} {m₀ : Str → Option Value} {news : List (Addr × Obj)}
    (hh : A.handled = none) (F : Fr h₀ env.locals s.heap m₀) (N0 : News h₀ env.locals s.heap ((l, lst vs k) :: news))
    (J : Nat → (Str → Option Value) → List (Addr × Obj) → Prop) (h0 : J 0 m₀ news) (hap : ∀ q ∈ news, l ≠ q.1)
    (turn : ∀ i v m₁ news₁ h tk (ow : List (Addr × Obj)), vs[i]? = some v → J i m₁ news₁ → (ow.map (·.1)).Nodup → Off ow news₁ →
      Fr h₀ env.locals h (fun y => if y = x then some v else m₁ y) → News h₀ env.locals h (ow ++ news₁) →
      wpAny (model prog w) A (execs body env) (Turn h₀ env.locals ow (J (i + 1)) { s with heap := h, toks := tk } (fun v s' => Q (.ret v) s')) E { s with heap := h, toks := tk })
    (done : ∀ h' tk m' news', Fr h₀ env.locals h' m' → News h₀ env.locals h' news' → J vs.length m' news' → Q .next { s with heap := h', toks := tk }) :
    wpAny (model prog w) A (pyIter (.ref l)) (fun it s₂ => LoopAtV prog w A h₀ env x body Q E it s₂) E s := by
  have hls : s.heap.IsList l vs.toArray := ⟨_, (N0 _ (.head _)).1, rfl, _, rfl⟩
  have N : News h₀ env.locals s.heap news := fun p hp => N0 p (.tail _ hp)
  have hne : l ≠ s.heap.objs.size := Nat.ne_of_lt (Heap.lt_size (N0 _ (.head _)).1)
  refine wpAny_pyIter_list hls ?_
  have W := Walks.list (prog := prog) (w := w) hh s.heap.objs.size l hne vs.toArray
  refine ⟨s.heap.objs.size, _, [s.heap.objs.size], vs.toArray.size, _, _, m₀, news, (fun i m nw => J i m nw ∧ ∀ q ∈ nw, l ≠ q.1), rfl, W, ?_, ?_, ?_, ⟨⟨_, Heap.get?_push_size _ rfl, rfl, rfl⟩, hls.at fun o e => Heap.get?_push_of_some _ e⟩, F.push _, (fun p hp => ⟨Heap.get?_push_of_some _ (N p hp).1, (N p hp).2⟩), ⟨h0, hap⟩, ?_, ?_⟩
  · intro hm
    rcases List.mem_cons.mp hm with e | hm
    · exact absurd F.ns.lt (e ▸ Nat.lt_irrefl _)
    · exact (N0 _ (.head _)).2.1 (List.mem_singleton.mp hm).symm
  · intro b hb
    rw [List.mem_singleton.mp hb]
    exact next_is_new F
  · intro p hp hI
    exact absurd (Heap.lt_size (N p hp).1) ((List.mem_singleton.mp hI) ▸ Nat.lt_irrefl _)
  · rintro i v m₁ news₁ s₁ own ⟨hh', tk', rfl⟩ hi hP ⟨hJ, hJl⟩ hoff hsub hget hall hst F₁ N₁
    obtain ⟨ow, hm, hnd⟩ := own_nodup (own := own) fun p hp => N₁ p (List.mem_append_left _ hp)
    obtain ⟨oi, hoi, _⟩ := hst.1
    obtain ⟨ol, hol, _⟩ := hst.2
    have hl : (l, ol) ∈ ow := (hm _).mpr (hall _ (List.mem_cons_of_mem _ (List.mem_singleton.mpr rfl)) (N0 _ (.head _)).2.2 _ hol)
    have hI : (s.heap.objs.size, oi) ∈ ow := (hm _).mpr (hall _ (List.mem_cons_self) (next_is_new F) _ hoi)
    refine wpAny_mono (turn i v m₁ news₁ hh' tk' ow (by simpa using hP) hJ hnd (fun p hp q hq e => ?_) F₁ (fun p hp => N₁ p ((List.mem_append.mp hp).elim (fun q => List.mem_append_left _ ((hm p).mp q)) fun q => List.mem_append_right _ q))) (fun f s₂ t => Turn.step hm hI (fun _ _ o j => ⟨j, fun q hq => o _ hl q hq⟩) t) fun _ _ e => e
    rcases List.mem_cons.mp (hsub p ((hm p).mp hp)) with e1 | e1
    · exact hoff q hq (List.mem_singleton.mpr (e.symm.trans e1))
    · exact hJl q hq ((List.mem_singleton.mp e1).symm.trans e)
  · intro h' tk m' news' F' N' _ hJ
    exact done h' tk m' news' F' N' (by simpa using hJ.1)
theorem iter_rangeV {r : Addr} {n : Nat} {b₀ : Int} {t₀ u₀ v₀ : Tok} {m₀ : Str → Option Value} {news : List (Addr × Obj)}
    (hh : A.handled = none) (hr : IsRange s.heap r 0 b₀ 1 t₀ u₀ v₀) (hsm : Builtin.Range.small 0 b₀ 1 = true) (hn : Builtin.Range.rangeSize 0 b₀ 1 = (n : Int)) (F : Fr h₀ env.locals s.heap m₀) (N : News h₀ env.locals s.heap news)
    (J : Nat → (Str → Option Value) → List (Addr × Obj) → Prop) (h0 : J 0 m₀ news)
    (turn : ∀ (i : Nat) t m₁ news₁ h tk (ow : List (Addr × Obj)), i < n → J i m₁ news₁ → (ow.map (·.1)).Nodup → Off ow news₁ →
      Fr h₀ env.locals h (fun y => if y = x then some (.int (i : Int) t) else m₁ y) → News h₀ env.locals h (ow ++ news₁) →
      wpAny (model prog w) A (execs body env) (Turn h₀ env.locals ow (J (i + 1)) { s with heap := h, toks := tk } (fun v s' => Q (.ret v) s')) E { s with heap := h, toks := tk })
    (done : ∀ h' tk m' news', Fr h₀ env.locals h' m' → News h₀ env.locals h' news' → J n m' news' → Q .next { s with heap := h', toks := tk }) :
    wpAny (model prog w) A (pyIter (.ref r)) (fun it s₂ => LoopAtV prog w A h₀ env x body Q E it s₂) E s := by
  refine wpAny_pyIter_range hr hsm ?_
  have W : Walks prog w A s.heap.objs.size [s.heap.objs.size] [s.heap.objs.size] n (fun i v => i < n ∧ ∃ t, v = .int (0 + i * 1) t)
      (fun i h => IsRangeIter h s.heap.objs.size (0 + (i : Nat) * 1) ((n : Int) - (i : Nat)) 1) := (Walks.range hh _ 0 1 n).bound
  refine ⟨s.heap.objs.size, _, [s.heap.objs.size], n, _, _, m₀, news, J, rfl, W, ?_, ?_, ?_, (by show IsRangeIter _ _ _ _ _; rw [hn]; simpa using Heap.get?_push_size _ rfl), F.push _, (fun p hp => ⟨Heap.get?_push_of_some _ (N p hp).1, (N p hp).2⟩), h0, ?_, ?_⟩
  · intro hm
    exact absurd F.ns.lt ((List.mem_singleton.mp hm) ▸ Nat.lt_irrefl _)
  · intro b hb
    rw [List.mem_singleton.mp hb]
    exact next_is_new F
  · intro p hp hI
    exact absurd (Heap.lt_size (N p hp).1) ((List.mem_singleton.mp hI) ▸ Nat.lt_irrefl _)
  · rintro i v m₁ news₁ s₁ own ⟨hh', tk', rfl⟩ hi ⟨_, t, rfl⟩ hJ hoff hsub hget hall hst F₁ N₁
    obtain ⟨ow, hm, hnd⟩ := own_nodup (own := own) fun p hp => N₁ p (List.mem_append_left _ hp)
    have hst' : hh'.get? s.heap.objs.size = some _ := hst
    have hI := (hm _).mpr (hall _ (List.mem_cons_self) (next_is_new F) _ hst')
    rw [show (0 : Int) + (i : Int) * 1 = (i : Int) by omega] at F₁
    refine wpAny_mono (turn i t m₁ news₁ hh' tk' ow hi hJ hnd (fun p hp q hq e => ?_) F₁ (fun p hp => N₁ p ((List.mem_append.mp hp).elim (fun q => List.mem_append_left _ ((hm p).mp q)) fun q => List.mem_append_right _ q))) (fun f s₂ t => Turn.step hm hI (fun _ _ _ j => j) t) fun _ _ e => e
    exact hoff q hq (List.mem_singleton.mpr (e.symm.trans (List.mem_singleton.mp (hsub p ((hm p).mp hp)))))
  · intro h' tk m' news' F' N' _ hJ
    exact done h' tk m' news' F' N' hJ
end
end
section
section
open PySem.SeqAt
variable {prog : Program} {w : World} {A : Around} {E : Value → Shared → Prop} {s : Shared} {g : Heap} {L : Addr} {news : List (Addr × Obj)} {a b : Addr} {Q : Value → Shared → Prop}
theorem ne_none_tup {vs : List Value} (N : News g L s.heap news) (hb : (b, tup vs) ∈ news) (hu : A.units < cLine) (h : Q (.bool true) s) : wpAny (model prog w) A (compareOp .NotEq .none (.ref b)) Q E s :=
  RcNeAt.none_tuple ⟨_, (N _ hb).1, rfl, _, rfl⟩ hu prog w E Q h
theorem ne_tup_same {v1 v2 : Value} (N : News g L s.heap news) (hb : (b, tup [v1, v2]) ∈ news) (hu : A.units < cLine) (h : Q (.bool false) s) : wpAny (model prog w) A (compareOp .NotEq (.ref b) (.ref b)) Q E s := by
  exact RcNeAt.tuples (items := #[v1, v2]) (items2 := #[v1, v2]) (e := fun _ => true) ⟨_, (N _ hb).1, rfl, _, rfl⟩ ⟨_, (N _ hb).1, rfl, _, rfl⟩ hu (fun j h1 h2 => EqAt.same _) prog w E Q h
theorem ne_tup_diff {x y x' y' : Int} {t1 t2 t3 t4 : Tok} (N : News g L s.heap news) (ha : (a, tup [.int x t1, .int y t2]) ∈ news) (hb : (b, tup [.int x' t3, .int y' t4]) ∈ news) (hne : y ≠ y') (hu : A.units < cLine) (h : Q (.bool true) s) : wpAny (model prog w) A (compareOp .NotEq (.ref a) (.ref b)) Q E s := by
  refine RcNeAt.tuples (items := #[.int x t1, .int y t2]) (items2 := #[.int x' t3, .int y' t4]) (e := fun j => if j = 0 then x == x' else y == y') ⟨_, (N _ ha).1, rfl, _, rfl⟩ ⟨_, (N _ hb).1, rfl, _, rfl⟩ hu (fun j h1 h2 => by
    match j, h1 with
    | 0, _ => exact EqAt.int_int _ _ _ _
    | 1, _ => exact EqAt.int_int _ _ _ _
    | n + 2, h => exact absurd h (by simp)) prog w E Q ?_
  have e1 : (y == y') = false := beq_false_of_ne hne
  have e2 : (!((List.range (min 2 2)).all (fun j => if j = 0 then x == x' else y == y') && (2 == 2))) = true := by
    simp [List.range, List.range.loop, e1]
  show Q (.bool (!((List.range (min 2 2)).all (fun j => if j = 0 then x == x' else y == y') && (2 == 2)))) s
  rw [e2]; exact h
theorem eq_list3 {v : Value} {k k' : Nat} (N : News g L s.heap news) (ha : (a, lst [v, v, v] k) ∈ news) (hb : (b, lst [v, v, v] k') ∈ news) (hu : A.units < cLine) (h : Q (.bool true) s) : wpAny (model prog w) A (compareOp .Eq (.ref a) (.ref b)) Q E s := by
  refine eq_listAt (items := #[v, v, v]) (items2 := #[v, v, v]) (e := fun _ => true) ⟨_, (N _ ha).1, rfl, _, rfl⟩ ⟨_, (N _ hb).1, rfl, _, rfl⟩ rfl hu (fun j h1 h2 => ?_) h
  exact EqAt.same _
end
end
section
def Held (P : Prop) : Prop := P
theorem held {P : Prop} (h : Held P) : P := h
theorem unheld {P : Prop} (h : P) : Held P := h
def lawFn : List Stmt × Scope := match PySem.Challenge.pw_jf0036_01.main.body.getLast? with
  | some (.FunctionDef _ _ body _ _ _ scope _ _ _) => (body, scope)
  | _ => ([], default)
theorem rest_intro {P : List Stmt → Scope → Prop} {b : List Stmt} {sc : Scope} (e1 : lawFn.1.drop 4 = b) (e2 : lawFn.2 = sc) (h : P b sc) : P (lawFn.1.drop 4) lawFn.2 := by rw [e1, e2]; exact h
theorem rest_intro6 {P : List Stmt → Scope → Prop} {b : List Stmt} {sc : Scope} (e1 : lawFn.1.drop 6 = b) (e2 : lawFn.2 = sc) (h : P b sc) : P (lawFn.1.drop 6) lawFn.2 := by rw [e1, e2]; exact h
theorem fr_two {h₀ h : Heap} {L : Addr} {m : Str → Option Value} {x a b : Str} {v va vb : Value} (F : Fr h₀ L h (fun y => if y = x then some v else m y)) (h1 : m a = some va) (h2 : m b = some vb) :
    Fr h₀ L h (fun y => if y = x then some v else if y = a then some va else if y = b then some vb else m y) := by
  have e : (fun y => if y = x then some v else if y = a then some va else if y = b then some vb else m y) = fun y => if y = x then some v else m y := by
    funext y
    by_cases e1 : y = x
    · rw [if_pos e1, if_pos e1]
    · rw [if_neg e1, if_neg e1]
      by_cases e2 : y = a
      · rw [if_pos e2, e2, h1]
      · rw [if_neg e2]
        by_cases e3 : y = b
        · rw [if_pos e3, e3, h2]
        · rw [if_neg e3]
  rw [e]; exact F
theorem fr_three {h₀ h : Heap} {L : Addr} {m : Str → Option Value} {x a b : Str} {v va vb : Value} (F : Fr h₀ L h m) (h0 : m x = some v) (h1 : m a = some va) (h2 : m b = some vb) :
    Fr h₀ L h (fun y => if y = x then some v else if y = a then some va else if y = b then some vb else m y) := by
  refine fr_two ?_ h1 h2
  have e : (fun y => if y = x then some v else m y) = m := by
    funext y
    by_cases e1 : y = x
    · rw [if_pos e1, e1, h0]
    · rw [if_neg e1]
  rw [e]; exact F
/-- what stands between two turns of the law's loops -/
def JM (w : World) (C : Cx) (L : Addr) (c1o c2o : Obj) (P : Nat → Stt → Prop) (i : Nat) (m : Str → Option Value) (nw : List (Addr × Obj)) : Prop :=
  m (Str.ofString "sender") = some (.ref C.sd) ∧ m (Str.ofString "receivers") = some (.ref C.rv) ∧
  ∃ st : Stt, P i st ∧ nw = (L + 1 + 1, c2o) :: (L + 1, c1o) :: st.led w C ∧ (nw.map (·.1)).Nodup
theorem fr_2 {h₀ h : Heap} {L : Addr} {m : Str → Option Value} {a b : Str} {va vb : Value} (F : Fr h₀ L h m) (h1 : m a = some va) (h2 : m b = some vb) :
    Fr h₀ L h (fun y => if y = a then some va else if y = b then some vb else m y) := by
  have e : (fun y => if y = a then some va else if y = b then some vb else m y) = m := by
    funext y
    by_cases e2 : y = a
    · rw [if_pos e2, e2, h1]
    · rw [if_neg e2]
      by_cases e3 : y = b
      · rw [if_pos e3, e3, h2]
      · rw [if_neg e3]
  rw [e]; exact F
/-- the grounds of a turn -/
theorem turn_nd {led ow : List (Addr × Obj)} {a b : Addr × Obj} (nd2 : ((a :: b :: led).map (·.1)).Nodup) (nd3 : (ow.map (·.1)).Nodup) (off3 : Off ow (a :: b :: led)) :
    ((a :: b :: ow).map (·.1)).Nodup ∧ Off led (a :: b :: ow) ∧ (led.map (·.1)).Nodup := by
  obtain ⟨n1, n2, n3⟩ := nd_split (a := [a, b]) nd2
  exact ⟨nd_app (a := [a, b]) n1 nd3 (off_sub (off_symm off3) (fun p hp => List.mem_append_left led (as := [a, b]) hp) fun _ h => h), off_app' (b := [a, b]) (off_symm n3) (off_sub (off_symm off3) (fun p hp => .tail _ (.tail _ hp)) fun _ h => h), n2⟩
theorem turn_mem {A ow tl : List (Addr × Obj)} {a b b1 b2 b3 : Addr × Obj} (h : A = b1 :: b2 :: b3 :: tl) : ∀ p ∈ a :: b :: b1 :: b2 :: b3 :: (ow ++ tl), p ∈ ow ++ a :: b :: A := by
  subst h
  intro p hp
  simp only [List.mem_cons, List.mem_append] at hp ⊢
  rcases hp with h | h | h | h | h | h | h
  · exact .inr (.inl h)
  · exact .inr (.inr (.inl h))
  · exact .inr (.inr (.inr (.inl h)))
  · exact .inr (.inr (.inr (.inr (.inl h))))
  · exact .inr (.inr (.inr (.inr (.inr (.inl h)))))
  · exact .inl h
  · exact .inr (.inr (.inr (.inr (.inr (.inr h)))))
theorem nd_perm {l l' : List (Addr × Obj)} (P : l.Perm l') (n : (l.map (·.1)).Nodup) : (l'.map (·.1)).Nodup := (P.map (·.1)).nodup_iff.mp n
theorem turn_mem0 {A ow : List (Addr × Obj)} {a b : Addr × Obj} : ∀ p ∈ a :: b :: (ow ++ A), p ∈ ow ++ a :: b :: A := by
  intro p hp
  simp only [List.mem_cons, List.mem_append] at hp ⊢
  rcases hp with h | h | h | h
  · exact .inr (.inl h)
  · exact .inr (.inr (.inl h))
  · exact .inl h
  · exact .inr (.inr (.inr h))
theorem mem_law0 {A ow : List (Addr × Obj)} {a b : Addr × Obj} : ∀ p ∈ A ++ (a :: b :: ow), p ∈ a :: b :: (ow ++ A) := by
  intro p hp
  simp only [List.mem_cons, List.mem_append] at hp ⊢
  rcases hp with h | h | h | h
  · exact .inr (.inr (.inr h))
  · exact .inl h
  · exact .inr (.inl h)
  · exact .inr (.inr (.inl h))
theorem led_head (w : World) (C : Cx) (st : Stt) : ∃ tl, st.led w C = (C.bk, st.ob) :: (st.pl, st.op) :: (C.ct, lst (l3 fun j => .bool (st.cut j)) C.nct) :: tl := ⟨_, rfl⟩
theorem mem_law {A : List (Addr × Obj)} {x a b b1 b2 b3 : Addr × Obj} {ow tl : List (Addr × Obj)} (h : A = b1 :: b2 :: b3 :: tl) : ∀ p ∈ A ++ (a :: b :: ow), p ∈ x :: a :: b :: b1 :: b2 :: b3 :: (ow ++ tl) := by
  subst h
  intro p hp
  simp only [List.cons_append, List.mem_cons, List.mem_append] at hp ⊢
  rcases hp with h | h | h | h | h | h | h
  · exact .inr (.inr (.inr (.inl h)))
  · exact .inr (.inr (.inr (.inr (.inl h))))
  · exact .inr (.inr (.inr (.inr (.inr (.inl h)))))
  · exact .inr (.inr (.inr (.inr (.inr (.inr (.inr h))))))
  · exact .inr (.inl h)
  · exact .inr (.inr (.inl h))
  · exact .inr (.inr (.inr (.inr (.inr (.inr (.inl h))))))
/-- the law's ledger behind a deed -/
theorem after_op {g h' : Heap} {L : Addr} {post led' ow : List (Addr × Obj)} {a b : Addr × Obj} (P : post.Perm led') (N : News g L h' (post ++ (a :: b :: ow))) (off : Off post (a :: b :: ow)) (nd : (post.map (·.1)).Nodup) (ndo : ((a :: b :: ow).map (·.1)).Nodup) :
    News g L h' (a :: b :: (ow ++ led')) ∧ ((a :: b :: led').map (·.1)).Nodup ∧ Off ow (a :: b :: led') := by
  have offl : Off led' (a :: b :: ow) := off_perm P off
  have ndl : (led'.map (·.1)).Nodup := (P.map (·.1)).nodup_iff.mp nd
  obtain ⟨n1, n2, n3⟩ := nd_split (a := [a, b]) ndo
  refine ⟨fun p hp => N p ?_, nd_app (a := [a, b]) n1 ndl (off_sub (off_symm offl) (fun p hp => ?_) fun _ h => h), fun p hp q hq => ?_⟩
  · simp only [List.mem_cons, List.mem_append] at hp ⊢
    rcases hp with h | h | h | h
    · exact .inr (.inl h)
    · exact .inr (.inr (.inl h))
    · exact .inr (.inr (.inr h))
    · exact .inl (P.mem_iff.mpr h)
  · simp only [List.mem_cons, List.not_mem_nil, or_false] at hp ⊢
    rcases hp with h | h
    · exact .inl h
    · exact .inr (.inl h)
  · rcases List.mem_append.mp (show q ∈ [a, b] ++ led' from hq) with hq | hq
    · exact fun e => n3 q hq p hp e.symm
    · exact fun e => offl q hq p (.tail _ (.tail _ hp)) e.symm
theorem turn_end {w : World} {C : Cx} {P : Nat → Stt → Prop} {st' : Stt} {g h' : Heap} {L : Addr} {c1o c2o : Obj} {i : Nat} {ow news : List (Addr × Obj)} {m' : Str → Option Value} {s₁ : Shared} {tk : Nat} {Qr : Value → Shared → Prop}
    (F : Fr g L h' m') (N : News g L h' news) (hs : ∀ p ∈ (L + 1 + 1, c2o) :: (L + 1, c1o) :: (ow ++ st'.led w C), p ∈ news) (nd : (((L + 1 + 1, c2o) :: (L + 1, c1o) :: st'.led w C).map (·.1)).Nodup) (off : Off ow ((L + 1 + 1, c2o) :: (L + 1, c1o) :: st'.led w C))
    (k1 : m' (Str.ofString "sender") = some (.ref C.sd)) (k2 : m' (Str.ofString "receivers") = some (.ref C.rv)) (ok : P (i + 1) st') :
    Turn g L ow (JM w C L c1o c2o P (i + 1)) s₁ Qr .next { s₁ with heap := h', toks := tk } := by
  refine ⟨h', tk, m', _, rfl, F, fun p hp => N p (hs p ?_), off, k1, k2, st', ok, rfl, nd⟩
  simp only [List.mem_cons, List.mem_append] at hp ⊢
  rcases hp with h | h | h | h
  · exact .inr (.inr (.inl h))
  · exact .inl h
  · exact .inr (.inl h)
  · exact .inr (.inr (.inr h))
theorem lset_I {prog : Program} {w : World} {A : Around} {E : Value → Shared → Prop} {s : Shared} {h₀ : Heap} {L d : Addr} {m : Str → Option Value} {news news' : List (Addr × Obj)} {vs : List Value} {n j : Nat} {ji : Int} {tj : Tok} {v : Value} {Q : Unit → Shared → Prop} (e : ji = (j : Int)) (F : Fr h₀ L s.heap m) (N : News h₀ L s.heap news) (U : Upd d (lst vs n) (lst (vs.set j v) n) news news') (hj : j < vs.length) (hv : vs.length < 1000)
    (h : ∀ h', Fr h₀ L h' m → News h₀ L h' news' → Q () { s with heap := h' }) :
    wpAny (model prog w) A (setItem (.ref d) (.int ji tj) v) Q E s := by
  subst e; exact lset_K F N U hj hv h
theorem asks_I {w : World} {C : Cx} {s : Stt} {c j : Nat} {ji : Int} {tj : Tok} (e : ji = (j : Int)) (hC : C.Ok) (ok : s.Ok w C c) (hc : c < 100) (hj : j < 3) : MeetsL w 210 ⟨[.ref C.bk, .ref C.sd, .ref C.rv, .int ji tj], []⟩ (s.led w C) (AskPost w C c s j) := by
  subst e; exact asks_op hC ok hc hj
theorem cancels_I {w : World} {C : Cx} {s : Stt} {c j : Nat} {ji : Int} {tj : Tok} (e : ji = (j : Int)) (ok : s.Ok w C c) (hc : c < 100) (hj : j < 3) :
    MeetsL w 231 ⟨[.ref C.bk, .ref C.sd, .int ji tj], []⟩ (s.led w C) (fun v post => v = .none ∧ ∃ s' : Stt, post.Perm (s'.led w C) ∧ s'.Ok w C (c + 1) ∧ s'.cut = upd s.cut j false ∧ s'.loa = s.loa) := by
  subst e; exact cancels_op ok hc hj
end
section
theorem rest_intro9 {P : List Stmt → Scope → Prop} {b : List Stmt} {sc : Scope} (e1 : lawFn.1.drop 9 = b) (e2 : lawFn.2 = sc) (h : P b sc) : P (lawFn.1.drop 9) lawFn.2 := by rw [e1, e2]; exact h
def JN (w : World) (C : Cx) (L : Addr) (c1o c2o : Obj) (ow : List (Addr × Obj)) (P : Nat → Stt → Prop) (i : Nat) (m : Str → Option Value) (nw : List (Addr × Obj)) : Prop :=
  m (Str.ofString "sender") = some (.ref C.sd) ∧ m (Str.ofString "receivers") = some (.ref C.rv) ∧
  ∃ st : Stt, P i st ∧ nw = (L + 1 + 1, c2o) :: (L + 1, c1o) :: (ow ++ st.led w C) ∧ (nw.map (·.1)).Nodup
def PO (w : World) (C : Cx) (n : Nw) (c : Nat) (i k : Nat) (st : Stt) : Prop :=
  st.Ok w C (c + 3 * i + k) ∧ st.wt = false ∧ st.nw = some n ∧ ∀ j, j < 3 → st.cut j = false ∧ (st.loa j = some n.d ∨ (if j < k then i + 1 else i) ≤ st.pos j)
theorem inner_split {led ow ow2 : List (Addr × Obj)} {a b : Addr × Obj} (nd2 : ((a :: b :: (ow ++ led)).map (·.1)).Nodup) (nd4 : (ow2.map (·.1)).Nodup) (off4 : Off ow2 (a :: b :: (ow ++ led))) :
    ((a :: b :: led).map (·.1)).Nodup ∧ ((ow2 ++ ow).map (·.1)).Nodup ∧ Off (ow2 ++ ow) (a :: b :: led) := by
  have n : ((ow ++ (a :: b :: led)).map (·.1)).Nodup := nd_perm (perm_cnt fun x => by simp only [cnt_app, cnt_cons]; omega) nd2
  obtain ⟨n1, n2, n3⟩ := nd_split n
  refine ⟨n2, nd_app nd4 n1 (off_sub off4 (fun _ h => h) fun p hp => .tail _ (.tail _ (List.mem_append_left _ hp))), off_app (off_sub off4 (fun _ h => h) fun p hp => ?_) n3⟩
  simp only [List.mem_cons, List.mem_append] at hp ⊢
  rcases hp with h | h | h
  · exact .inl h
  · exact .inr (.inl h)
  · exact .inr (.inr (.inr h))
theorem inner_join {led ow ow2 : List (Addr × Obj)} {a b : Addr × Obj} (n1 : ((a :: b :: led).map (·.1)).Nodup) (n2 : ((ow2 ++ ow).map (·.1)).Nodup) (n3 : Off (ow2 ++ ow) (a :: b :: led)) :
    ((a :: b :: (ow ++ led)).map (·.1)).Nodup ∧ Off ow2 (a :: b :: (ow ++ led)) := by
  obtain ⟨m1, m2, m3⟩ := nd_split n2
  refine ⟨nd_perm (l := ow ++ (a :: b :: led)) (perm_cnt fun x => by simp only [cnt_app, cnt_cons]; omega) (nd_app m2 n1 (off_sub n3 (fun p hp => List.mem_append_right _ hp) fun _ h => h)), fun p hp q hq => ?_⟩
  simp only [List.mem_cons, List.mem_append] at hq
  rcases hq with h | h | h | h
  · exact n3 p (List.mem_append_left _ hp) q (h ▸ .head _)
  · exact n3 p (List.mem_append_left _ hp) q (h ▸ .tail _ (.head _))
  · exact m3 p hp q h
  · exact n3 p (List.mem_append_left _ hp) q (.tail _ (.tail _ h))
theorem turn_end2 {w : World} {C : Cx} {P : Nat → Stt → Prop} {st' : Stt} {g h' : Heap} {L : Addr} {c1o c2o : Obj} {i : Nat} {ow ow2 news : List (Addr × Obj)} {m' : Str → Option Value} {s₁ : Shared} {tk : Nat} {Qr : Value → Shared → Prop}
    (F : Fr g L h' m') (N : News g L h' news) (hs : ∀ p ∈ (L + 1 + 1, c2o) :: (L + 1, c1o) :: ((ow2 ++ ow) ++ st'.led w C), p ∈ news) (nd : (((L + 1 + 1, c2o) :: (L + 1, c1o) :: st'.led w C).map (·.1)).Nodup) (n2 : ((ow2 ++ ow).map (·.1)).Nodup) (off : Off (ow2 ++ ow) ((L + 1 + 1, c2o) :: (L + 1, c1o) :: st'.led w C))
    (k1 : m' (Str.ofString "sender") = some (.ref C.sd)) (k2 : m' (Str.ofString "receivers") = some (.ref C.rv)) (ok : P (i + 1) st') :
    Turn g L ow2 (JN w C L c1o c2o ow P (i + 1)) s₁ Qr .next { s₁ with heap := h', toks := tk } := by
  obtain ⟨j1, j2⟩ := inner_join nd n2 off
  refine ⟨h', tk, m', _, rfl, F, fun p hp => N p (hs p ?_), j2, k1, k2, st', ok, rfl, j1⟩
  simp only [List.mem_cons, List.mem_append] at hp ⊢
  rcases hp with h | h | h | h | h
  · exact .inr (.inr (.inl (.inl h)))
  · exact .inl h
  · exact .inr (.inl h)
  · exact .inr (.inr (.inl (.inr h)))
  · exact .inr (.inr (.inr h))
theorem mem_ld {w : World} {C : Cx} {st : Stt} : (C.ld, lst (l3 fun j => ov (st.loa j)) C.nld) ∈ st.led w C := by
  unfold Stt.led HL
  exact .tail _ (.tail _ (.tail _ (.tail _ (.tail _ (.tail _ (.tail _ (.tail _ (.tail _ (.head _)))))))))
theorem mem_X {w : World} {C : Cx} {st : Stt} {p : Addr × Obj} (h : p ∈ st.ds.flatMap Dp.objs ++ (dbl C.len st.nw ++ (all3 st.tau ++ st.junk))) : p ∈ st.led w C := by
  unfold Stt.led HL
  refine .tail _ (.tail _ (.tail _ (.tail _ (.tail _ (.tail _ (.tail _ (.tail _ (.tail _ (.tail _ (.tail _ (.tail _ ?_)))))))))))
  exact List.mem_append_right _ h
theorem mem_db {w : World} {C : Cx} {st : Stt} {n : Nw} (hn : st.nw = some n) : (n.db, tup [.ref n.d.t2, .bytes (octs n.d.i C.len) n.toc]) ∈ st.led w C := by
  refine mem_X (List.mem_append_right _ (List.mem_append_left _ ?_))
  rw [hn]; exact .head _
theorem mem_d2 {w : World} {C : Cx} {st : Stt} {d : Dp} {i : Nat} (hd : st.ds[i]? = some d) : (d.t2, tup [.int d.num d.u3, .int (d.i : Int) d.u4]) ∈ st.led w C :=
  mem_X (List.mem_append_left _ (List.mem_flatMap.mpr ⟨d, List.mem_of_getElem? hd, .tail _ (.head _)⟩))
theorem mem_bk {w : World} {C : Cx} {st : Stt} : (C.bk, st.ob) ∈ st.led w C := .head _
theorem last_news {g h : Heap} {L : Addr} {ow ow2 : List (Addr × Obj)} {a b p1 p2 p3 p4 : Addr × Obj} {w : World} {C : Cx} {st : Stt} (N : News g L h (ow2 ++ (a :: b :: (ow ++ st.led w C)))) (h1 : p1 ∈ st.led w C) (h2 : p2 ∈ st.led w C) (h3 : p3 ∈ st.led w C) (h4 : p4 ∈ st.led w C) :
    News g L h (a :: b :: (C.bk, st.ob) :: p1 :: p2 :: p3 :: p4 :: ((ow2 ++ ow) ++ st.led w C)) := fun p hp => N p (by
  simp only [List.mem_cons, List.mem_append] at hp ⊢
  rcases hp with h | h | h | h | h | h | h | h | h
  · exact .inr (.inl h)
  · exact .inr (.inr (.inl h))
  · exact .inr (.inr (.inr (.inr (h ▸ mem_bk))))
  · exact .inr (.inr (.inr (.inr (h ▸ h1))))
  · exact .inr (.inr (.inr (.inr (h ▸ h2))))
  · exact .inr (.inr (.inr (.inr (h ▸ h3))))
  · exact .inr (.inr (.inr (.inr (h ▸ h4))))
  · rcases h with h | h
    · exact .inl h
    · exact .inr (.inr (.inr (.inl h)))
  · exact .inr (.inr (.inr (.inr h))))
theorem last_mem {A o : List (Addr × Obj)} {a b p0 p1 p2 p3 p4 : Addr × Obj} : ∀ p ∈ A ++ (a :: b :: o), p ∈ a :: b :: p0 :: p1 :: p2 :: p3 :: p4 :: (o ++ A) := by
  intro p hp
  simp only [List.mem_cons, List.mem_append] at hp ⊢
  rcases hp with h | h | h | h
  · exact .inr (.inr (.inr (.inr (.inr (.inr (.inr (.inr h)))))))
  · exact .inl h
  · exact .inr (.inl h)
  · exact .inr (.inr (.inr (.inr (.inr (.inr (.inr (.inl h)))))))
theorem last_mem2 {A : List (Addr × Obj)} {a b p0 p1 p2 p3 p4 : Addr × Obj} : ∀ p ∈ a :: b :: A, p ∈ a :: b :: p0 :: p1 :: p2 :: p3 :: p4 :: A := by
  intro p hp
  simp only [List.mem_cons] at hp ⊢
  rcases hp with h | h | h
  · exact .inl h
  · exact .inr (.inl h)
  · exact .inr (.inr (.inr (.inr (.inr (.inr (.inr h))))))
section
local macro_rules | `(tactic| walk_at "binaryOp Mult ref int") => `(tactic| refine held ?_)
local macro_rules | `(tactic| walk_at "compareOp NotEq none ref") => `(tactic| refine held ?_)
local macro_rules | `(tactic| walk_at "compareOp NotEq ref ref") => `(tactic| refine held ?_)
local macro_rules | `(tactic| walk_at "compareOp Eq ref ref") => `(tactic| refine held ?_)
local macro_rules | `(tactic| walk_at "exec For Name Call cons nil") => `(tactic| refine held ?_)
local macro_rules | `(tactic| walk_at "call ref") => `(tactic| refine held ?_)
local macro_rules | `(tactic| walk_at "pyIter ref") => `(tactic| refine held ?_)
theorem law_last (w : World) {g : Heap} {L fa : Addr} {cd : Value} {gu : Option (List Code)} {d u : Nat} {m : Str → Option Value} {mean : ExcName → Option Value} {mg mb : Str → Option Value} {s : Shared} {Q : Flow → Shared → Prop}
    {C : Cx} {st : Stt} {c1o c2o : Obj} {c : Nat} {n : Nw} (hC : C.Ok) (ok : st.Ok w C c) (hc : c ≤ 50) (hw : st.wt = false) (hn : st.nw = some n) (hcut : ∀ j, j < 3 → st.cut j = false)
    (hdd : d ≤ 400) (huu : u ≤ 400) (F : Fr g L s.heap m) (hm2 : m (Str.ofString "sender") = some (.ref C.sd)) (hm3 : m (Str.ofString "receivers") = some (.ref C.rv))
    (N : News g L s.heap ((L + 1 + 1, c2o) :: (L + 1, c1o) :: st.led w C))
    (nd : (((L + 1 + 1, c2o) :: (L + 1, c1o) :: st.led w C).map (·.1)).Nodup) (X : (hd.heap_39 w.params).In g) (T : Top vw LO mean mg mb g)
    (h1 : c1o.data = Data.cell (some (.ref C.dm))) (h2 : c2o.data = Data.cell (some (.ref C.bk)))
    (hQ : ∀ h' tk m', Fr g L h' m' → Q (.ret (.bool true)) { s with heap := h', toks := tk }) :
    wpAny (model PySem.Challenge.rw_jf0036_01.row.prog w) ⟨none, d, some [envOfC (Str.ofString "law") lawFn.2 L fa cd], gu, u⟩ (execs (lawFn.1.drop 9) (envOfC (Str.ofString "law") lawFn.2 L fa cd)) Q (fun _ _ => False) s := by
  refine rest_intro9 (P := fun b sc => wpAny (model PySem.Challenge.rw_jf0036_01.row.prog w) ⟨none, d, some [envOfC (Str.ofString "law") sc L fa cd], gu, u⟩ (execs b (envOfC (Str.ofString "law") sc L fa cd)) Q (fun _ _ => False) s) (b := [_, _]) (sc := { kind := _, names := _, isGenerator := _, isCoroutine := _, more := _ }) rfl rfl ?_
  try dsimp only
  revert X
  k_fill
  intro X
  have F1 := fr_2 F hm2 hm3
  clear F
  obtain ⟨h0, gens, drawn, tk0, os⟩ := s
  dsimp only at F1 N
  k_steps
  refine unheld ?_
  refine For_invV g rfl rfl ?_
  k_steps
  refine unheld ?_
  rename IsRange _ _ _ _ _ _ _ _ => hr
  refine iter_rangeV (n := 14) rfl hr (by decide) rfl (by k_asm) (by k_asm) (JM w C L c1o c2o (fun i st => PO w C n c i 0 st)) ⟨rfl, rfl, st, ⟨ok, hw, hn, fun j hj => ⟨hcut j hj, .inr (by rw [if_neg (Nat.not_lt_zero _)]; exact Nat.zero_le _)⟩⟩, rfl, nd⟩ ?turn ?done
  case turn =>
    clear ok nd hr hw hn hcut hm2 hm3
    repeat (rename News _ _ _ _ => Nx; clear Nx)
    repeat (rename Fr _ _ _ _ => Fx; clear Fx)
    rintro i t9 m₁ news₁ h tk ow hi ⟨k1, k2, st, hP, rfl, nd2⟩ nd3 off3 F2 N2
    have F3 : Fr g L h _ := fr_two F2 k1 k2
    clear F2
    have N3 := news_sub N2 turn_mem0
    clear N2
    have nd0 : (((L + 1 + 1, c2o) :: (L + 1, c1o) :: (ow ++ st.led w C)).map (·.1)).Nodup := by
      refine nd_perm (perm_cnt fun a => ?_) (nd_app nd3 nd2 off3)
      simp only [cnt_app, cnt_cons]; omega
    k_steps
    refine unheld ?_
    refine For_invV g rfl rfl ?_
    k_steps
    refine unheld ?_
    rename IsRange _ _ _ _ _ _ _ _ => hr
    refine iter_rangeV (n := 3) rfl hr (by decide) rfl (by k_asm) (by k_asm) (JN w C L c1o c2o ow (fun k st => PO w C n c i k st)) ⟨rfl, rfl, st, hP, rfl, nd0⟩ ?turn2 ?done2
    case turn2 =>
      clear hP nd2 nd0 off3 hr k1 k2
      repeat (rename News _ _ _ _ => Nx; clear Nx)
      repeat (rename Fr _ _ _ _ => Fx; clear Fx)
      rintro k t8 m₁ news₁ h tk ow2 hk ⟨k1, k2, st, ⟨ok, hw, hn, hj⟩, rfl, nd2⟩ nd4 off4 F2 N2
      have F3 : Fr g L h _ := fr_two F2 k1 k2
      clear F2
      have hb : SD w st.ob (bookK (.int C.sz C.ts) (.int C.len C.tl) false (.ref n.db) st.rdv st.pl C.cm C.ld C.ct) := by have := ok.hb; rw [hw, hn] at this; exact this
      unfold SD at hb
      obtain ⟨hdi, hds, hsm⟩ := ok.nw1 n hn
      have hld : (C.ld, lst (l3 fun j => ov (st.loa j)) C.nld) ∈ st.led w C := mem_ld
      have hdb : (n.db, tup [.ref n.d.t2, .bytes (octs n.d.i C.len) n.toc]) ∈ st.led w C := mem_db hn
      have hdn := mem_d2 (w := w) (C := C) hds
      obtain ⟨i1, i2, i3⟩ := inner_split nd2 nd4 off4
      obtain ⟨ndo, offo, ndl⟩ := turn_nd i1 i2 i3
      have hcut := (hj k hk).1
      have hld2 : (l3 fun j => ov (st.loa j))[k]? = some (ov (st.loa k)) := l3_get _ hk
      have fin : ∀ st', Asked C st st' k → st.loa k ≠ some n.d → st'.Ok w C (c + 3 * i + k + 1) → PO w C n c i (k + 1) st' := fun st' hA hne ok' => by
        refine ⟨ok', hA.wt.trans hw, hA.nw.trans hn, fun j hj3 => ⟨by rw [hA.cut]; exact (hj j hj3).1, ?_⟩⟩
        by_cases e : j = k
        · subst e
          rw [if_pos (Nat.lt_succ_self _)]
          have h1 := (hj j hk).2.resolve_left hne
          rw [if_neg (Nat.lt_irrefl _)] at h1
          rcases hA.go hw hcut n hn with h2 | h2
          · exact .inl h2
          · exact .inr (by omega)
        · rw [hA.loa j e, hA.pos j e]
          rcases (hj j hj3).2 with h2 | h2
          · exact .inl h2
          · refine .inr ?_
            by_cases e2 : j < k
            · rw [if_pos e2] at h2; rw [if_pos (by omega)]; exact h2
            · rw [if_neg e2] at h2; rw [if_neg (by omega)]; exact h2
      obtain ⟨lk, hlk⟩ : ∃ lk, st.loa k = lk := ⟨_, rfl⟩
      rw [hlk] at hld2 fin
      cases lk with
      | none =>
        have N3 := last_news N2 hld hdb hdn hdn
        clear N2
        have hld3 : (l3 fun j => ov (st.loa j))[k]? = some Value.none := hld2
        clear hld2
        k_steps
        refine unheld ?_
        refine ne_none_tup (by k_asm) (.tail _ (.tail _ (.tail _ (.tail _ (.tail _ (.head _)))))) (by k_units) ?_
        k_steps
        refine unheld ?_
        refine MeetsL.call (asks_op hC ok (by omega) hk) ((L + 1 + 1, c2o) :: (L + 1, c1o) :: (ow2 ++ ow)) (by k_asm) (by k_asm) (by k_asm) (by k_asm) rfl rfl (by omega) (by omega) last_mem offo ndl ?_
        rintro h' tk v post F' N' off' nd' ⟨rfl, st', hP, ok', hA⟩
        obtain ⟨N4, nd4, off4⟩ := after_op hP N' off' nd' ndo
        clear N'
        k_steps
        exact turn_end2 (by k_asm) (by k_asm) (fun _ h => h) nd4 i2 off4 rfl rfl (fin st' hA (fun h => nomatch h) ok')
      | some d =>
        obtain ⟨hd1, _⟩ := ok.loa k hk d hlk
        have N3 := last_news N2 hld hdb (mem_d2 (w := w) (C := C) hd1) hdn
        clear N2
        have hld3 : (l3 fun j => ov (st.loa j))[k]? = some (Value.ref d.t2) := hld2
        clear hld2
        by_cases e : d = n.d
        · subst e
          k_steps
          refine unheld ?_
          refine ne_tup_same (by k_asm) (.tail _ (.tail _ (.tail _ (.tail _ (.tail _ (.head _)))))) (by k_units) ?_
          k_steps
          refine turn_end2 (by k_asm) (by k_asm) last_mem2 i1 i2 i3 rfl rfl ⟨ok.more, hw, hn, fun j hj3 => ⟨(hj j hj3).1, ?_⟩⟩
          by_cases e : j = k
          · subst e; exact .inl hlk
          · rcases (hj j hj3).2 with h2 | h2
            · exact .inl h2
            · refine .inr ?_
              by_cases e2 : j < k
              · rw [if_pos e2] at h2; rw [if_pos (by omega)]; exact h2
              · rw [if_neg e2] at h2; rw [if_neg (by omega)]; exact h2
        · have hne : (d.i : Int) ≠ (n.d.i : Int) := fun h => e (by
            have h' : d.i = n.d.i := by omega
            rw [h', hds] at hd1
            exact (Option.some.inj hd1).symm)
          k_steps
          refine unheld ?_
          refine ne_tup_diff (by k_asm) (.tail _ (.tail _ (.tail _ (.tail _ (.tail _ (.head _)))))) (.tail _ (.tail _ (.tail _ (.tail _ (.tail _ (.tail _ (.head _))))))) hne (by k_units) ?_
          k_steps
          refine unheld ?_
          refine MeetsL.call (asks_op hC ok (by omega) hk) ((L + 1 + 1, c2o) :: (L + 1, c1o) :: (ow2 ++ ow)) (by k_asm) (by k_asm) (by k_asm) (by k_asm) rfl rfl (by omega) (by omega) last_mem offo ndl ?_
          rintro h' tk v post F' N' off' nd' ⟨rfl, st', hP, ok', hA⟩
          obtain ⟨N4, nd4, off4⟩ := after_op hP N' off' nd' ndo
          clear N'
          k_steps
          exact turn_end2 (by k_asm) (by k_asm) (fun _ h => h) nd4 i2 off4 rfl rfl (fin st' hA (fun h => e (Option.some.inj h)) ok')
    case done2 =>
      clear hP nd2 nd0 hr k1 k2
      repeat (rename News _ _ _ _ => Nx; clear Nx)
      repeat (rename Fr _ _ _ _ => Fx; clear Fx)
      rintro h tk m₁ news₁ F2 N2 ⟨k1, k2, st', ⟨ok, hw, hn, hj⟩, rfl, nd2⟩
      k_steps
      obtain ⟨i1, i2, i3⟩ := inner_split (ow2 := []) nd2 List.nodup_nil (fun _ h => nomatch h)
      refine turn_end (by k_asm) (by k_asm) (fun _ h => h) i1 i3 k1 k2 ⟨?_, hw, hn, fun j hj3 => ⟨(hj j hj3).1, ?_⟩⟩
      · rw [show c + 3 * (i + 1) + 0 = c + 3 * i + 3 by omega]; exact ok
      · rw [if_neg (Nat.not_lt_zero _)]
        have := (hj j hj3).2
        rw [if_pos hj3] at this; exact this
  case done =>
    clear ok nd hr hw hn hcut hm2 hm3
    repeat (rename News _ _ _ _ => Nx; clear Nx)
    repeat (rename Fr _ _ _ _ => Fx; clear Fx)
    rintro h tk m₁ news₁ F2 N2 ⟨k1, k2, st, ⟨ok, hw, hn, hj⟩, rfl, nd2⟩
    have F3 : Fr g L h _ := fr_2 F2 k1 k2
    clear F2
    have hl := hC.len
    have hall : ∀ j, j < 3 → st.loa j = some n.d := fun j hj3 => by
      rcases (hj j hj3).2 with h2 | h2
      · exact h2
      · rw [if_neg (Nat.not_lt_zero _)] at h2
        rcases ok.tp hw j hj3 with ⟨_, _, h3⟩ | ⟨_, _, _, _, _, _, _, _, h5, _⟩
        · omega
        · omega
    have hb : SD w st.ob (bookK (.int C.sz C.ts) (.int C.len C.tl) false (.ref n.db) st.rdv st.pl C.cm C.ld C.ct) := by have := ok.hb; rw [hw, hn] at this; exact this
    unfold SD at hb
    obtain ⟨hdi, hds, hsm⟩ := ok.nw1 n hn
    have hld : (C.ld, lst [.ref n.d.t2, .ref n.d.t2, .ref n.d.t2] C.nld) ∈ st.led w C := by
      have := mem_ld (w := w) (C := C) (st := st)
      have e : (l3 fun j => ov (st.loa j)) = [.ref n.d.t2, .ref n.d.t2, .ref n.d.t2] := by
        show [ov (st.loa 0), ov (st.loa 1), ov (st.loa 2)] = _; rw [hall 0 (by decide), hall 1 (by decide), hall 2 (by decide)]; rfl
      rw [e] at this; exact this
    have hdn := mem_d2 (w := w) (C := C) hds
    have N3 := last_news (ow := []) (ow2 := []) N2 hld (mem_db hn) hdn hdn
    clear N2
    k_steps
    refine unheld ?_
    rename News _ _ _ _ => NN
    refine KMa.mul (vs := [.ref n.d.t2]) (ws := [.ref n.d.t2, .ref n.d.t2, .ref n.d.t2]) (by k_asm) NN ⟨_, (NN _ (.head _)).1, rfl, _, rfl⟩ (by decide) (by decide) (show 1 * 3 ≤ 256 by decide) rfl ?_
    intro D h' F' N' _
    clear NN
    k_steps
    refine unheld ?_
    refine eq_list3 (v := .ref n.d.t2) (by k_asm) (by k_mem) (by k_mem) (by k_units) ?_
    k_steps
    exact hQ _ _ _ (by k_asm)
end
end
section
section
local macro_rules | `(tactic| walk_at "exec For Name Name cons nil") => `(tactic| refine held ?_)
local macro_rules | `(tactic| walk_at "exec For Name Call cons nil") => `(tactic| refine held ?_)
local macro_rules | `(tactic| walk_at "call ref") => `(tactic| refine held ?_)
local macro_rules | `(tactic| walk_at "execs cons For cons") => `(tactic| (k_here; (with_reducible show wpAny _ _ (execs [Stmt.For _ _ _ _ _, Stmt.Return _ _] _) _ _ _); refine held ?_))
local macro_rules | `(tactic| walk_at "pyIter ref") => `(tactic| refine held ?_)
local macro_rules | `(tactic| walk_at "setItem ref int") => `(tactic| refine held ?_)
theorem law_loops (w : World) {g : Heap} {L fa : Addr} {cd : Value} {gu : Option (List Code)} {d u : Nat} {m : Str → Option Value} {mean : ExcName → Option Value} {mg mb : Str → Option Value} {s : Shared} {Q : Flow → Shared → Prop}
    {C : Cx} {st : Stt} {nl : Addr} {c1o c2o : Obj} {ys : List Value} {ns : List Int} (hC : C.Ok) (ok : st.Ok w C 0)
    (hdd : d ≤ 400) (huu : u ≤ 400) (F : Fr g L s.heap m) (hm1 : m (Str.ofString "numbers") = some (.ref nl)) (hm2 : m (Str.ofString "sender") = some (.ref C.sd)) (hm3 : m (Str.ofString "receivers") = some (.ref C.rv))
    (N : News g L s.heap ((nl, LCg.lst ys) :: (L + 1 + 1, c2o) :: (L + 1, c1o) :: st.led w C))
    (nd : (((nl, LCg.lst ys) :: (L + 1 + 1, c2o) :: (L + 1, c1o) :: st.led w C).map (·.1)).Nodup) (X : (hd.heap_39 w.params).In g) (T : Top vw LO mean mg mb g)
    (h1 : c1o.data = Data.cell (some (.ref C.dm))) (h2 : c2o.data = Data.cell (some (.ref C.bk)))
    (hI : IntsAre ys ns) (hns : ∀ n ∈ ns, 0 ≤ n ∧ n < 1000000000) (hnl : ns.length ≤ 40)
    (hQ : ∀ h' tk m', Fr g L h' m' → Q (.ret (.bool true)) { s with heap := h', toks := tk }) :
    wpAny (model PySem.Challenge.rw_jf0036_01.row.prog w) ⟨none, d, some [envOfC (Str.ofString "law") lawFn.2 L fa cd], gu, u⟩ (execs (lawFn.1.drop 6) (envOfC (Str.ofString "law") lawFn.2 L fa cd)) Q (fun _ _ => False) s := by
  refine rest_intro6 (P := fun b sc => wpAny (model PySem.Challenge.rw_jf0036_01.row.prog w) ⟨none, d, some [envOfC (Str.ofString "law") sc L fa cd], gu, u⟩ (execs b (envOfC (Str.ofString "law") sc L fa cd)) Q (fun _ _ => False) s) (b := [_, _, _, _, _]) (sc := { kind := _, names := _, isGenerator := _, isCoroutine := _, more := _ }) rfl rfl ?_
  try dsimp only
  revert X
  k_fill
  intro X
  have F1 := fr_three F hm1 hm2 hm3
  clear F
  obtain ⟨h0, gens, drawn, tk0, os⟩ := s
  dsimp only at F1 N
  k_steps
  refine unheld ?_
  refine For_invV g rfl rfl ?_
  k_steps
  refine unheld ?_
  refine iter_newV rfl F1 N (JM w C L c1o c2o (fun i st => st.Ok w C (0 + i))) ⟨rfl, rfl, st, ok, rfl, (List.nodup_cons.mp nd).2⟩ (fun q hq e => (List.nodup_cons.mp nd).1 (List.mem_map.mpr ⟨q, hq, e.symm⟩)) ?turn ?done
  case turn =>
    rintro i v m₁ news₁ h tk ow hv ⟨k1, k2, st, ok, rfl, nd2⟩ nd3 off3 F2 N2
    obtain ⟨num, t9, rfl, hn⟩ := hI.at i v hv
    obtain ⟨hn0, hn9⟩ := hns num (List.mem_of_getElem? hn)
    have hi : i < 40 := Nat.lt_of_lt_of_le (List.getElem?_eq_some_iff.mp hn).1 hnl
    obtain ⟨jn, hjn, hj3⟩ : ∃ jn : Nat, (num.fdiv 8).fmod 3 = (jn : Int) ∧ jn < 3 := by
      have a1 := Int.fmod_nonneg_of_pos (num.fdiv 8) (show (0 : Int) < 3 by decide)
      have a2 := Int.fmod_lt_of_pos (num.fdiv 8) (show (0 : Int) < 3 by decide)
      exact ⟨((num.fdiv 8).fmod 3).toNat, (Int.toNat_of_nonneg a1).symm, by omega⟩
    have F3 : Fr g L h _ := fr_two F2 k1 k2
    clear F2 F1
    obtain ⟨tl, htl⟩ := led_head w C st
    have hb := ok.hb
    unfold SD at hb
    obtain ⟨ndo, offo, ndl⟩ := turn_nd nd2 nd3 off3
    have N3 : News g L h ((L + 1 + 1, c2o) :: (L + 1, c1o) :: (C.bk, st.ob) :: (st.pl, st.op) :: (C.ct, lst (l3 fun j => .bool (st.cut j)) C.nct) :: (ow ++ tl)) := fun p hp => N2 p (turn_mem htl p hp)
    clear N2 N
    k_steps
    · refine unheld ?_
      refine MeetsL.call (asks_I hjn hC ok (by omega) hj3) ((L + 1 + 1, c2o) :: (L + 1, c1o) :: ow) (by k_asm) (by k_asm) (by k_asm) (by k_asm) rfl rfl (by omega) (by omega) (mem_law htl) offo ndl ?_
      rintro h' tk v post F' N' off' nd' ⟨rfl, st', hP, ok', _⟩
      obtain ⟨N4, nd4, off4⟩ := after_op hP N' off' nd' ndo
      clear N'
      k_steps
      exact turn_end (by k_asm) (by k_asm) (fun _ h => h) nd4 off4 rfl rfl ok'
    · refine unheld ?_
      refine MeetsL.call (dumps_op hC ok (by omega) hn0 hn9) ((L + 1 + 1, c2o) :: (L + 1, c1o) :: ow) (by k_asm) (by k_asm) (by k_asm) (by k_asm) rfl rfl (by omega) (by omega) (mem_law htl) offo ndl ?_
      rintro h' tk v post F' N' off' nd' ⟨rfl, st', hP, ok', _⟩
      obtain ⟨N4, nd4, off4⟩ := after_op hP N' off' nd' ndo
      clear N'
      k_steps
      exact turn_end (by k_asm) (by k_asm) (fun _ h => h) nd4 off4 rfl rfl ok'
    · refine unheld ?_
      refine MeetsL.call (looks_op ok (by omega)) ((L + 1 + 1, c2o) :: (L + 1, c1o) :: ow) (by k_asm) (by k_asm) (by k_asm) (by k_asm) rfl rfl (by omega) (by omega) (mem_law htl) offo ndl ?_
      rintro h' tk v post F' N' off' nd' ⟨rfl, st', hP, ok', _⟩
      obtain ⟨N4, nd4, off4⟩ := after_op hP N' off' nd' ndo
      clear N'
      k_steps
      exact turn_end (by k_asm) (by k_asm) (fun _ h => h) nd4 off4 rfl rfl ok'
    · refine unheld ?_
      have ndA : (((L + 1 + 1, c2o) :: (L + 1, c1o) :: (C.bk, st.ob) :: (st.pl, st.op) :: (C.ct, lst (l3 fun j => .bool (st.cut j)) C.nct) :: (ow ++ tl)).map (·.1)).Nodup := by
        refine nd_perm (perm_cnt fun a => ?_) (nd_app nd3 nd2 off3)
        rw [htl]; simp only [cnt_app, cnt_cons]; omega
      refine lset_I hjn (news := (L + 1 + 1, c2o) :: (L + 1, c1o) :: (C.bk, st.ob) :: (st.pl, st.op) :: (C.ct, lst (l3 fun j => .bool (st.cut j)) C.nct) :: (ow ++ tl)) (by k_asm) (news_sub (by k_asm) fun _ h => .tail _ h) (upd_of ndA (.tail (.tail (.tail (.tail .head))))) hj3 (show 3 < 1000 by decide) ?_
      intro h' F' N'
      have e3 := l3_set (fun j => .bool (st.cut j)) (fun i => .bool (upd st.cut jn true i)) hj3 (.bool true) (by show Value.bool (upd st.cut jn true jn) = _; rw [upd_same]) (fun i h => by show Value.bool (upd st.cut jn true i) = _; rw [upd_ne _ _ h])
      rw [e3] at N'
      have hled : Stt.led w C { st with cut := upd st.cut jn true } = (C.bk, st.ob) :: (st.pl, st.op) :: (C.ct, lst (l3 fun j => .bool (upd st.cut jn true j)) C.nct) :: tl := by
        have := congrArg (fun l : List (Addr × Obj) => l.drop 3) htl
        show _ :: _ :: _ :: _ = _
        exact congrArg (fun t => (C.bk, st.ob) :: (st.pl, st.op) :: (C.ct, lst (l3 fun j => .bool (upd st.cut jn true j)) C.nct) :: t) this
      have nd4 : (((L + 1 + 1, c2o) :: (L + 1, c1o) :: Stt.led w C { st with cut := upd st.cut jn true }).map (·.1)).Nodup := by rw [hled]; rw [htl] at nd2; exact nd2
      have off4 : Off ow ((L + 1 + 1, c2o) :: (L + 1, c1o) :: Stt.led w C { st with cut := upd st.cut jn true }) := fun p hp q hq => by
        have hq' : q.1 ∈ ((L + 1 + 1, c2o) :: (L + 1, c1o) :: st.led w C).map (·.1) := by
          have := List.mem_map_of_mem (f := (·.1)) hq
          rw [hled] at this; rw [htl]; exact this
        obtain ⟨r, hr, e⟩ := List.mem_map.mp hq'
        exact fun e' => off3 p hp r hr (e'.trans e.symm)
      k_steps
      refine turn_end (by k_asm) (by k_asm) (fun p hp => ?_) nd4 off4 rfl rfl (cut_ok ok hj3)
      rw [hled] at hp
      simp only [List.mem_cons, List.mem_append] at hp ⊢
      rcases hp with h | h | h | h | h | h | h
      · exact .inl h
      · exact .inr (.inl h)
      · exact .inr (.inr (.inr (.inr (.inr (.inl h)))))
      · exact .inr (.inr (.inl h))
      · exact .inr (.inr (.inr (.inl h)))
      · exact .inr (.inr (.inr (.inr (.inl h))))
      · exact .inr (.inr (.inr (.inr (.inr (.inr h)))))
    · refine unheld ?_
      refine MeetsL.call (cancels_I hjn ok (by omega) hj3) ((L + 1 + 1, c2o) :: (L + 1, c1o) :: ow) (by k_asm) (by k_asm) (by k_asm) (by k_asm) rfl rfl (by omega) (by omega) (mem_law htl) offo ndl ?_
      rintro h' tk v post F' N' off' nd' ⟨rfl, st', hP, ok', _⟩
      obtain ⟨N4, nd4, off4⟩ := after_op hP N' off' nd' ndo
      clear N'
      k_steps
      exact turn_end (by k_asm) (by k_asm) (fun _ h => h) nd4 off4 rfl rfl ok'
  case done =>
    clear F1 N nd hm1 hm2 hm3 ok st
    rintro h tk m₁ news₁ F2 N2 ⟨k1, k2, st, ok, rfl, nd2⟩
    have F3 : Fr g L h _ := fr_2 F2 k1 k2
    obtain ⟨c, hc, hc40⟩ : ∃ c, c = 0 + ys.length ∧ c ≤ 40 := ⟨_, rfl, by have := hI.length; omega⟩
    rw [← hc] at ok
    clear F2 hc hns hnl hI
    k_steps
    refine unheld ?_
    refine For_invV g rfl rfl ?_
    k_steps
    refine unheld ?_
    rename IsRange _ _ _ _ _ _ _ _ => hr
    refine iter_rangeV (n := 3) rfl hr (by decide) rfl (by k_asm) (by k_asm) (JM w C L c1o c2o (fun i st => st.Ok w C (c + i) ∧ ∀ j, j < i → st.cut j = false)) ⟨rfl, rfl, st, ⟨ok, fun _ h => absurd h (Nat.not_lt_zero _)⟩, rfl, nd2⟩ ?turn2 ?done2
    case turn2 =>
      clear ok nd2 k1 k2 hr
      repeat (rename News _ _ _ _ => Nx; clear Nx)
      repeat (rename Fr _ _ _ _ => Fx; clear Fx)
      rintro i t9 m₁ news₁ h tk ow hi ⟨k1, k2, st, ⟨ok, hcut⟩, rfl, nd2⟩ nd3 off3 F2 N2
      have F3 : Fr g L h _ := fr_two F2 k1 k2
      clear F2
      obtain ⟨ndo, offo, ndl⟩ := turn_nd nd2 nd3 off3
      have N3 := news_sub N2 turn_mem0
      clear N2
      k_steps
      refine unheld ?_
      refine MeetsL.call (cancels_op ok (by omega) hi) ((L + 1 + 1, c2o) :: (L + 1, c1o) :: ow) (by k_asm) (by k_asm) (by k_asm) (by k_asm) rfl rfl (by omega) (by omega) mem_law0 offo ndl ?_
      rintro h' tk v post F' N' off' nd' ⟨rfl, st', hP, ok', hc', _⟩
      obtain ⟨N4, nd4, off4⟩ := after_op hP N' off' nd' ndo
      clear N'
      k_steps
      refine turn_end (by k_asm) (by k_asm) (fun _ h => h) nd4 off4 rfl rfl ⟨ok', fun j hj => ?_⟩
      rw [hc']
      by_cases e : j = i
      · rw [e, upd_same]
      · rw [upd_ne _ _ e]; exact hcut j (by omega)
    case done2 =>
      clear ok nd2 k1 k2 hr
      repeat (rename News _ _ _ _ => Nx; clear Nx)
      repeat (rename Fr _ _ _ _ => Fx; clear Fx)
      rintro h tk m₁ news₁ F2 N2 ⟨k1, k2, st, ⟨ok, hcut⟩, rfl, nd2⟩
      have F3 : Fr g L h _ := fr_2 F2 k1 k2
      clear F2
      obtain ⟨ndo, offo, ndl⟩ := turn_nd (ow := []) nd2 List.nodup_nil (fun _ h => nomatch h)
      k_steps
      refine unheld ?_
      refine MeetsL.call (looks_op ok (by omega)) [(L + 1 + 1, c2o), (L + 1, c1o)] (by k_asm) (by k_asm) (by k_asm) (by k_asm) rfl rfl (by omega) (by omega) mem_law0 offo ndl ?_
      rintro h' tk v post F' N' off' nd' ⟨rfl, st1, hP, ok1, hs1, hw1, _⟩
      obtain ⟨N4, nd4, off4⟩ := after_op (ow := []) hP N' off' nd' ndo
      obtain ⟨ndo, offo, ndl⟩ := turn_nd (ow := []) nd4 List.nodup_nil (fun _ h => nomatch h)
      clear N'
      k_steps
      refine unheld ?_
      refine MeetsL.call (dumps_op hC ok1 (by omega) (by decide) (by decide)) [(L + 1 + 1, c2o), (L + 1, c1o)] (by k_asm) (by k_asm) (by k_asm) (by k_asm) rfl rfl (by omega) (by omega) mem_law0 offo ndl ?_
      rintro h' tk v post F' N' off' nd' ⟨rfl, st2, hP, ok2, hs2, hw2, hn2⟩
      obtain ⟨n, hn⟩ := hn2 hw1
      obtain ⟨N4, nd4, off4⟩ := after_op (ow := []) hP N' off' nd' ndo
      obtain ⟨ndo, offo, ndl⟩ := turn_nd (ow := []) nd4 List.nodup_nil (fun _ h => nomatch h)
      clear N'
      k_steps
      refine unheld ?_
      refine MeetsL.call (looks_op ok2 (by omega)) [(L + 1 + 1, c2o), (L + 1, c1o)] (by k_asm) (by k_asm) (by k_asm) (by k_asm) rfl rfl (by omega) (by omega) mem_law0 offo ndl ?_
      rintro h' tk v post F' N' off' nd' ⟨rfl, st3, hP, ok3, hs3, hw3, hn3⟩
      obtain ⟨N4, nd4, off4⟩ := after_op (ow := []) hP N' off' nd' ndo
      clear N'
      have hcut3 : ∀ j, j < 3 → st3.cut j = false := fun j hj => by rw [hs3.cut, hs2.cut, hs1.cut]; exact hcut j hj
      rw [hn] at hn3
      k_steps
      refine unheld ?_
      refine law_last w hC ok3 (by omega) hw3 hn3 hcut3 hdd huu (by k_asm) rfl rfl (by k_asm) nd4 X T h1 h2 ?_
      intro h'' tk'' m'' F''
      exact hQ h'' tk'' m'' F''
end
end
section
def sel {α : Type} (a b c : α) : Nat → α
  | 0 => a
  | 1 => b
  | _ => c
theorem nd_one {D : Addr} {l : List (Addr × Obj)} {o : Obj} (h : LCg.Off1 D l) (n : (l.map (·.1)).Nodup) : (((D, o) :: l).map (·.1)).Nodup := by
  refine List.nodup_cons.mpr ⟨fun hm => ?_, n⟩
  obtain ⟨p, hp, e⟩ := List.mem_map.mp hm
  have : ∀ {l : List (Addr × Obj)}, LCg.Off1 D l → ∀ p ∈ l, p.1 ≠ D := by
    intro l
    induction l with
    | nil => intro _ p hp; cases hp
    | cons q r ih =>
      intro h p hp
      rcases List.mem_cons.mp hp with rfl | hp
      · exact h.1
      · exact ih h.2 p hp
  exact this h p hp e
section
local macro_rules | `(tactic| walk_at "execs cons For cons") => `(tactic| (k_here; (with_reducible show wpAny _ _ (execs [Stmt.For _ _ _ _ _, Stmt.For _ _ _ _ _, Stmt.If _ _ _ _, Stmt.For _ _ _ _ _, Stmt.Return _ _] _) _ _ _); refine held ?_))
local macro_rules | `(tactic| walk_at "exec For Name Name cons nil") => `(tactic| refine held ?_)
local macro_rules | `(tactic| walk_at "exec For Name Call cons nil") => `(tactic| refine held ?_)
local macro_rules | `(tactic| walk_at "call ref") => `(tactic| refine held ?_)
local macro_rules | `(tactic| walk_at "CompSrc") => `(tactic| (k_here; k_dflt (refine LCg.CompSrc.range (by rfl) (by k_asm) (by k_asm) (by assumption) (by first | decide | rfl) (by first | rfl | decide) (by first | size_fits | exact Nat.le_of_ble_eq_true rfl) ?_; intro g'; lcg_lit)))
local macro_rules | `(tactic| walk_at "CompRest") => `(tactic| refine held ?_)
local macro_rules | `(tactic| walk_at "CompEnd") => `(tactic| refine held ?_)
theorem comp_end {h₀ : Heap} {L I C D : Addr} {m : Str → Option Value} {s₁ : Shared} {oI oC oD : Obj} {rest : Value → List (Addr × Obj) → Prop} {y : Value} {h' : Heap} {tk : Nat} {post news all : List (Addr × Obj)}
    (F : Fr h₀ L h' m) (N : News h₀ L h' all) (e : ∀ p ∈ post ++ ((I, oI) :: (C, oC) :: (D, oD) :: news), p ∈ all) (off : LCg.Off3 I C D news) (op : Off post ((I, oI) :: (C, oC) :: (D, oD) :: news)) (r : rest y (post ++ news)) :
    LCg.CompEnd h₀ L m s₁ I oI C oC D oD (fun _ => True) rest y { s₁ with heap := h', toks := tk } := by
  refine LCg.CompEnd.intro F N (post ++ news) (fun p hp => e p ?_) (LCg.Off3.of fun p hp => ?_) trivial r
  · simp only [List.mem_cons, List.mem_append] at hp ⊢
    rcases hp with h | h | h | h | h
    · exact .inr (.inl h)
    · exact .inr (.inr (.inl h))
    · exact .inr (.inr (.inr (.inl h)))
    · exact .inl h
    · exact .inr (.inr (.inr (.inr h)))
  · rcases List.mem_append.mp hp with h | h
    · exact ⟨op p h _ (.head _), op p h _ (.tail _ (.head _)), op p h _ (.tail _ (.tail _ (.head _)))⟩
    · exact off.mem p h
theorem comp_end2 {h₀ : Heap} {L I C D : Addr} {m : Str → Option Value} {s₁ : Shared} {oI oC oD : Obj} {rest : Value → List (Addr × Obj) → Prop} {y : Value} {h' : Heap} {tk : Nat} {post all : List (Addr × Obj)} (Lt X : List (Addr × Obj))
    (F : Fr h₀ L h' m) (N : News h₀ L h' all) (e : ∀ p ∈ post ++ ((I, oI) :: (C, oC) :: (D, oD) :: (Lt ++ X)), p ∈ all) (off : LCg.Off3 I C D (Lt ++ X)) (op : Off post ((I, oI) :: (C, oC) :: (D, oD) :: (Lt ++ X))) (r : rest y (Lt ++ (post ++ X))) :
    LCg.CompEnd h₀ L m s₁ I oI C oC D oD (fun _ => True) rest y { s₁ with heap := h', toks := tk } := by
  refine LCg.CompEnd.intro F N (Lt ++ (post ++ X)) (fun p hp => e p ?_) (LCg.Off3.of fun p hp => ?_) trivial r
  · simp only [List.mem_cons, List.mem_append] at hp ⊢
    rcases hp with h | h | h | h | h | h
    · exact .inr (.inl h)
    · exact .inr (.inr (.inl h))
    · exact .inr (.inr (.inr (.inl h)))
    · exact .inr (.inr (.inr (.inr (.inl h))))
    · exact .inl h
    · exact .inr (.inr (.inr (.inr (.inr h))))
  · rcases List.mem_append.mp hp with h | h
    · exact off.mem p (List.mem_append_left _ h)
    rcases List.mem_append.mp h with h | h
    · exact ⟨op p h _ (.head _), op p h _ (.tail _ (.head _)), op p h _ (.tail _ (.tail _ (.head _)))⟩
    · exact off.mem p (List.mem_append_right _ h)
theorem news_swap {g h : Heap} {L : Addr} {a b : List (Addr × Obj)} (N : News g L h (a ++ b)) : News g L h (b ++ a) := fun p hp => N p ((List.mem_append.mp hp).elim (List.mem_append_right _) (List.mem_append_left _))
theorem nd_in {a b c : List (Addr × Obj)} (n : ((a ++ (b ++ c)).map (·.1)).Nodup) : ((b ++ (a ++ c)).map (·.1)).Nodup := nd_perm (perm_cnt fun x => by simp +arith only [cnt_app]) n
theorem law_rest (w : World) {g : Heap} {L fa : Addr} {cd : Value} {gu : Option (List Code)} {d u : Nat} {m : Str → Option Value} {mean : ExcName → Option Value} {mg mb : Str → Option Value} {s : Shared} {Q : Flow → Shared → Prop}
    {nl bk dm pl cm ld ct : Addr} {ob op c1o c2o : Obj} {ys : List Value} {ns : List Int} {sz len : Nat} {ts tl : Tok}
    (hdd : d ≤ 400) (huu : u ≤ 400) (F : Fr g L s.heap (fun y => if y = Str.ofString "numbers" then some (.ref nl) else m y))
    (N : News g L s.heap [(cm, lst [.none, .none, .none] 0), (ld, lst [.none, .none, .none] 0), (ct, lst [.bool false, .bool false, .bool false] 0), (pl, op), (bk, ob), (dm, lst [] 0), (nl, LCg.lst ys), (L + 1 + 1, c2o), (L + 1, c1o)])
    (nd : [cm, ld, ct, pl, bk, dm, nl, L + 1 + 1, L + 1].Nodup) (X : (hd.heap_39 w.params).In g) (T : Top vw LO mean mg mb g)
    (h1 : c1o.data = Data.cell (some (.ref dm))) (h2 : c2o.data = Data.cell (some (.ref bk)))
    (hb : SD w ob (bookK (.int sz ts) (.int len tl) false .none .none pl cm ld ct)) (hp : ID w op []) (hpl : (pl == sysModules) = false)
    (hI : IntsAre ys ns) (hns : ∀ n ∈ ns, 0 ≤ n ∧ n < 1000000000) (hnl : ns.length ≤ 40) (hsz1 : 1 ≤ sz) (hsz5 : sz ≤ 5) (hlen : len ≤ 8)
    (hQ : ∀ h' tk m', Fr g L h' m' → Q (.ret (.bool true)) { s with heap := h', toks := tk }) :
    wpAny (model PySem.Challenge.rw_jf0036_01.row.prog w) ⟨none, d, some [envOfC (Str.ofString "law") lawFn.2 L fa cd], gu, u⟩ (execs (lawFn.1.drop 4) (envOfC (Str.ofString "law") lawFn.2 L fa cd)) Q (fun _ _ => False) s := by
  refine rest_intro (P := fun b sc => wpAny (model PySem.Challenge.rw_jf0036_01.row.prog w) ⟨none, d, some [envOfC (Str.ofString "law") sc L fa cd], gu, u⟩ (execs b (envOfC (Str.ofString "law") sc L fa cd)) Q (fun _ _ => False) s) (b := [_, _, _, _, _, _, _]) (sc := { kind := _, names := _, isGenerator := _, isCoroutine := _, more := _ }) rfl rfl ?_
  try dsimp only
  revert X
  k_fill
  intro X
  unfold SD at hb
  obtain ⟨h0, gens, drawn, tk0, os⟩ := s
  dsimp only at F N
  k_steps
  refine unheld ?_
  refine Meets.use0 (begun w) (by k_asm) (by k_asm) (by k_asm) (by k_asm) (by omega) (by omega) ?_
  rintro h' tk v' post0 F' N' off' nd' ⟨sd, rfl, hB0⟩
  have N2 := news_swap N'
  clear N'
  dsimp only [List.cons_append, List.nil_append] at N2
  k_steps
  refine unheld ?_
  refine LCg.CompRest.succ ?_
  rintro v7 I7 oI7 C7 oC7 D7 m7 h7 tk7 E7 ⟨t97, rfl⟩ hC7 hx7 F' N' off37 ne7
  k_steps
  refine unheld ?_
  refine Meets.use0 (begun w) (by k_asm) (by k_asm) (by k_asm) (by k_asm) (by omega) (by omega) ?_
  rintro h' tk v' post7 F' N' offp7 ndp7 ⟨r7, rfl, hB7⟩
  k_steps
  refine unheld ?_
  refine comp_end2 [(cm, lst [.none, .none, .none] 0), (ld, lst [.none, .none, .none] 0), (ct, lst [.bool false, .bool false, .bool false] 0), (pl, op), (bk, ob), (dm, lst [] 0), (nl, LCg.lst ys), (L + 1 + 1, c2o), (L + 1, c1o)] post0 (by k_asm) (by k_asm) (fun _ h => h) off37 offp7 ?_
  dsimp only [List.cons_append, List.nil_append]
  k_steps
  refine unheld ?_
  refine LCg.CompRest.succ ?_
  rintro v8 I8 oI8 C8 oC8 D8 m8 h8 tk8 E8 ⟨t98, rfl⟩ hC8 hx8 F' N' off38 ne8
  k_steps
  refine unheld ?_
  refine Meets.use0 (begun w) (by k_asm) (by k_asm) (by k_asm) (by k_asm) (by omega) (by omega) ?_
  rintro h' tk v' post8 F' N' offp8 ndp8 ⟨r8, rfl, hB8⟩
  k_steps
  refine unheld ?_
  refine comp_end2 [(cm, lst [.none, .none, .none] 0), (ld, lst [.none, .none, .none] 0), (ct, lst [.bool false, .bool false, .bool false] 0), (pl, op), (bk, ob), (dm, lst [] 0), (nl, LCg.lst ys), (L + 1 + 1, c2o), (L + 1, c1o)] (post7 ++ post0) (by k_asm) (by k_asm) (fun _ h => h) off38 offp8 ?_
  dsimp only [List.cons_append, List.nil_append]
  k_steps
  refine unheld ?_
  refine LCg.CompRest.succ ?_
  rintro v9 I9 oI9 C9 oC9 D9 m9 h9 tk9 E9 ⟨t99, rfl⟩ hC9 hx9 F' N' off39 ne9
  k_steps
  refine unheld ?_
  refine Meets.use0 (begun w) (by k_asm) (by k_asm) (by k_asm) (by k_asm) (by omega) (by omega) ?_
  rintro h' tk v' post9 F' N' offp9 ndp9 ⟨r9, rfl, hB9⟩
  k_steps
  refine unheld ?_
  refine comp_end2 [(cm, lst [.none, .none, .none] 0), (ld, lst [.none, .none, .none] 0), (ct, lst [.bool false, .bool false, .bool false] 0), (pl, op), (bk, ob), (dm, lst [] 0), (nl, LCg.lst ys), (L + 1 + 1, c2o), (L + 1, c1o)] (post8 ++ (post7 ++ post0)) (by k_asm) (by k_asm) (fun _ h => h) off39 offp9 ?_
  dsimp only [List.cons_append, List.nil_append]
  refine LCg.CompRest.zero ?_
  unfold LCg.FinA
  intro D' h' tk' F' N' o1'
  try dsimp only [List.cons_append, List.nil_append] at N'
  have n0 := nd_in (a := post0) (b := [(cm, lst [.none, .none, .none] 0), (ld, lst [.none, .none, .none] 0), (ct, lst [.bool false, .bool false, .bool false] 0), (pl, op), (bk, ob), (dm, lst [] 0), (nl, LCg.lst ys), (L + 1 + 1, c2o), (L + 1, c1o)]) (c := []) (by rw [List.append_nil]; exact nd_app nd' (by exact nd) off')
  rw [List.append_nil] at n0
  have n7 := nd_in (a := post7) (b := [(cm, lst [.none, .none, .none] 0), (ld, lst [.none, .none, .none] 0), (ct, lst [.bool false, .bool false, .bool false] 0), (pl, op), (bk, ob), (dm, lst [] 0), (nl, LCg.lst ys), (L + 1 + 1, c2o), (L + 1, c1o)]) (c := post0) (nd_app ndp7 (by exact n0) (off_sub offp7 (fun _ h => h) (fun _ h => .tail _ (.tail _ (.tail _ h)))))
  have n8 := nd_in (a := post8) (b := [(cm, lst [.none, .none, .none] 0), (ld, lst [.none, .none, .none] 0), (ct, lst [.bool false, .bool false, .bool false] 0), (pl, op), (bk, ob), (dm, lst [] 0), (nl, LCg.lst ys), (L + 1 + 1, c2o), (L + 1, c1o)]) (c := post7 ++ post0) (nd_app ndp8 (by exact n7) (off_sub offp8 (fun _ h => h) (fun _ h => .tail _ (.tail _ (.tail _ h)))))
  have n9 := nd_in (a := post9) (b := [(cm, lst [.none, .none, .none] 0), (ld, lst [.none, .none, .none] 0), (ct, lst [.bool false, .bool false, .bool false] 0), (pl, op), (bk, ob), (dm, lst [] 0), (nl, LCg.lst ys), (L + 1 + 1, c2o), (L + 1, c1o)]) (c := post8 ++ (post7 ++ post0)) (nd_app ndp9 (by exact n8) (off_sub offp9 (fun _ h => h) (fun _ h => .tail _ (.tail _ (.tail _ h)))))
  have n10 := nd_one (o := lst [] 0) o1' (by exact n9)
  clear n9 n8 n7 n0 offp9 offp8 offp7 ndp9 ndp8 ndp7 off' nd' nd off39 off38 off37 o1'
  k_steps
  refine unheld ?_
  obtain ⟨b0, rfl, ht, htr⟩ := hB0
  obtain ⟨b7, rfl, _, _⟩ := hB7
  obtain ⟨b8, rfl, _, _⟩ := hB8
  obtain ⟨b9, rfl, _, _⟩ := hB9
  let C : Cx := { bk := bk, sd := sd, sdd := b0.d, dm := dm, sgv := b0.gv, sgd := b0.gd, rv := D', cm := cm, ld := ld, ct := ct, sz := sz, len := len, ts := ts, tl := tl, tb := ts, tl2 := tl, ks := b0.k, kgs := b0.g, now := .int 0 b0.t3, dr := .ref b0.a1, ap := .ref b0.a2, te := .ref b0.a3, cv := .int 0 b0.t4, sinc := .none, r := sel r7 r8 r9, rd := sel b7.d b8.d b9.d, gv := sel b7.gv b8.gv b9.gv, gd := sel b7.gd b8.gd b9.gd, k := sel b7.k b8.k b9.k, kg := sel b7.g b8.g b9.g, bs := fun _ => .int sz ts, pid := sel (.int 0 b7.t1) (.int 0 b8.t1) (.int 0 b9.t1), cid := sel (.int 0 b7.t2) (.int 0 b8.t2) (.int 0 b9.t2), rtr := sel (.ref b7.tr) (.ref b8.tr) (.ref b9.tr), rnow := sel (.int 0 b7.t3) (.int 0 b8.t3) (.int 0 b9.t3), rdr := sel (.ref b7.a1) (.ref b8.a1) (.ref b9.a1), rap := sel (.ref b7.a2) (.ref b8.a2) (.ref b9.a2), rte := sel (.ref b7.a3) (.ref b8.a3) (.ref b9.a3), rlng := fun _ => .int len tl, rcv := sel (.int 0 b7.t4) (.int 0 b8.t4) (.int 0 b9.t4), nr := 3, ncm := 0, nld := 0, nct := 0 } 
  let st : Stt := { ob := ob, op := op, ot := b0.ot, pl := pl, tr := b0.tr, wt := false, rdv := .none, tp := b0.t1, cid := .int 0 b0.t2, smem := .none, P := [], T := [], com := fun _ => none, loa := fun _ => none, cut := fun _ => false, inc := fun _ => .none, mem := fun _ => .none, ds := [], nd0 := 0, nw := none, tau := fun _ => [], junk := [], pos := fun _ => 0 }
  have ok : st.Ok w C 0 := ⟨hb, hp, ht, hpl, htr, Nat.le_refl _, Nat.le_refl _, Nat.le_refl _, fun i d h => by simp [st] at h, fun _ => ⟨rfl, rfl⟩, fun n h => (nomatch h), fun h => (nomatch h), fun _ j hj => .inl ⟨rfl, .inl ⟨rfl, rfl⟩, rfl⟩, fun j hj d h => (nomatch h), fun _ j hj _ h => absurd h (Nat.lt_irrefl 0)⟩
  have hC : C.Ok := ⟨hsz1, hsz5, hlen⟩
  rename News _ _ _ _ => NN
  have Nn : News g L _ ((nl, LCg.lst ys) :: (L + 1 + 1, c2o) :: (L + 1, c1o) :: st.led w C) := news_sub NN (sub_pick [7, 8, 9, 5, 4, 3, 25, 26, 27, 28, 29, 0, 2, 1, 6, 20, 21, 23, 24, 15, 16, 18, 19, 10, 11, 13, 14] rfl rfl)
  have nn : (((nl, LCg.lst ys) :: (L + 1 + 1, c2o) :: (L + 1, c1o) :: st.led w C).map (·.1)).Nodup := nd_pick n10 [7, 8, 9, 5, 4, 3, 25, 26, 27, 28, 29, 0, 2, 1, 6, 20, 21, 23, 24, 15, 16, 18, 19, 10, 11, 13, 14] (by decide) rfl rfl
  refine law_loops w (C := C) (st := st) hC ok hdd huu (by k_asm) rfl rfl rfl Nn nn X T h1 h2 hI hns hnl ?_
  intro h'' tk'' m'' F''
  exact hQ h'' tk'' m'' F''
end
end
section
theorem nodup_of {g h : Heap} {L : Addr} {l : List (Addr × Obj)} (_ : News g L h l) (nd : (l.map (·.1)).Nodup) : (l.map (·.1)).Nodup := nd
local macro_rules | `(tactic| walk_at "execs cons Assign cons") => `(tactic| (k_here; (with_reducible show wpAny _ _ (execs [Stmt.Assign _ _ _, Stmt.Assign _ _ _, Stmt.For _ _ _ _ _, Stmt.For _ _ _ _ _, Stmt.If _ _ _ _, Stmt.For _ _ _ _ _, Stmt.Return _ _] _) _ _ _); refine held ?_))
theorem nums_ok (xs : List Int) : ∀ n ∈ List.map (fun k' : Int => (if k' < 0 then -k' else k').fmod (10 ^ Int.toNat 9)) (List.take 40 xs), 0 ≤ n ∧ n < 1000000000 := by
  intro n hn
  obtain ⟨k, _, rfl⟩ := List.mem_map.mp hn
  exact ⟨Int.fmod_nonneg_of_pos _ (by decide), Int.fmod_lt_of_pos _ (by decide)⟩
theorem nums_len (xs : List Int) : (List.map (fun k' : Int => (if k' < 0 then -k' else k').fmod (10 ^ Int.toNat 9)) (List.take 40 xs)).length ≤ 40 := by
  rw [List.length_map, List.length_take]; omega
theorem wp_noexc {α : Type} {M : Model} {A : Around} {T : Sem α} {Q : α → Shared → Prop} {E : Value → Shared → Prop} {s : Shared} (h : wpAny M A T Q (fun _ _ => False) s) : wpAny M A T Q E s := wpAny_mono h (fun _ _ q => q) (fun _ _ e => False.elim e)
theorem book_clean {w : World} {o : Obj} {S : Int} {pl : Addr} {t1 t2 t3 t4 t5 t6 t7 t8 : Tok}
    (h : Obj.IsDictOf (PySem.strKind PySem.Challenge.rw_jf0036_01.row.prog w) o (strPairs [(.str (Str.ofString "size") t1, .int (1 + (S.fmod 997).fmod 5) t2), (.str (Str.ofString "length") t3, .int (((S.fmod 997).fdiv 5).fmod 9) t4), (.str (Str.ofString "waits") t5, .bool false), (.str (Str.ofString "dump") t6, .none), (.str (Str.ofString "ready") t7, .none), (.str (Str.ofString "places") t8, .ref pl)])) :
    ∃ (sz len : Nat) (a b : Tok), 1 ≤ sz ∧ sz ≤ 5 ∧ len ≤ 8 ∧ SD w o [(Str.ofString "size", .int sz a), (Str.ofString "length", .int len b), (Str.ofString "waits", .bool false), (Str.ofString "dump", .none), (Str.ofString "ready", .none), (Str.ofString "places", .ref pl)] := by
  have h1 : 0 ≤ (S.fmod 997).fmod 5 ∧ (S.fmod 997).fmod 5 < 5 := ⟨Int.fmod_nonneg_of_pos _ (by decide), Int.fmod_lt_of_pos _ (by decide)⟩
  have h2 : 0 ≤ ((S.fmod 997).fdiv 5).fmod 9 ∧ ((S.fmod 997).fdiv 5).fmod 9 < 9 := ⟨Int.fmod_nonneg_of_pos _ (by decide), Int.fmod_lt_of_pos _ (by decide)⟩
  refine ⟨(1 + (S.fmod 997).fmod 5).toNat, (((S.fmod 997).fdiv 5).fmod 9).toNat, t2, t4, by omega, by omega, by omega, ?_⟩
  rw [Int.toNat_of_nonneg (by omega), Int.toNat_of_nonneg h2.1]
  exact h
theorem wp_toks {α : Type} {M : Model} {A : Around} {T : Sem α} {Q : α → Shared → Prop} {E : Value → Shared → Prop} {h g d m o} (k : ∀ n, wpAny M A T Q E ⟨h, g, d, n, o⟩) : wpAny M A T Q E ⟨h, g, d, m, o⟩ := k m
section
local macro_rules | `(tactic| walk_at "exec Assign") => `(tactic| (k_here; (with_reducible show wpAny _ _ (exec (Stmt.Assign [Expr.Tuple (Expr.Subscript _ _ _ :: _) _ _] _ _) _) _ _ _); (fail_if_success (rename List.Nodup _ => hND)); refine held ?_))
local macro_rules | `(tactic| walk_at "setItem ref str") => `(tactic| refine held ?_)
theorem law_holds : PySem.Challenge.rw_jf0036_01.Holds := hd (by
  k_go0
  all_goals (try k_fold)
  k_steps
  all_goals try (refine (default : Int → Int))
  refine unheld ?_
  rename News _ _ _ _ => N1
  have nd1 := nodup_of N1 (by tb_rel)
  rename Obj.IsDictOf (PySem.strKind _ _) _ (strPairs _) => hbk
  have hb2 := book_clean hbk
  clear hbk
  obtain ⟨sz, len, tsz, tln, hsz1, hsz5, hlen, hb2⟩ := hb2
  unfold SD at hb2
  refine wp_toks ?_
  intro tk1
  k_steps
  refine unheld ?_
  have nd2 := nd_lt (by assumption) (nd_lt (by assumption) (nd_lt (by assumption) (nd_lt (by assumption) (nd_lt (by assumption) (nd_lt (by assumption) (nd_lt (by assumption) nd1))))))
  clear nd1
  refine' kda_set (knd := PySem.strKind _ _) ?F ?N ?U ?d (strKind_is _ _ _ _) ?z ?_
  case F => k_asm
  case N => k_asm
  case U => (refine' updF_of ?nd ?aat; (case nd => exact nd2); (case aat => kat_tups))
  case d => k_asm
  case z => (rw [sizeLine_eq]; first | exact Nat.le_of_ble_eq_true (by with_unfolding_all rfl) | omega)
  intro h' o' F' N' hd'
  try kob_lit
  try dsimp only at N'
  k_steps
  refine unheld ?_
  refine' kda_set (knd := PySem.strKind _ _) ?F ?N ?U ?d (strKind_is _ _ _ _) ?z ?_
  case F => k_asm
  case N => k_asm
  case U => (refine' updF_of ?nd ?aat; (case nd => exact nd2); (case aat => kat_tups))
  case d => k_asm
  case z => (rw [sizeLine_eq]; first | exact Nat.le_of_ble_eq_true (by with_unfolding_all rfl) | omega)
  intro h' o' F' N' hd'
  try kob_lit
  try dsimp only at N'
  k_steps
  refine unheld ?_
  refine' kda_set (knd := PySem.strKind _ _) ?F ?N ?U ?d (strKind_is _ _ _ _) ?z ?_
  case F => k_asm
  case N => k_asm
  case U => (refine' updF_of ?nd ?aat; (case nd => exact nd2); (case aat => kat_tups))
  case d => k_asm
  case z => (rw [sizeLine_eq]; first | exact Nat.le_of_ble_eq_true (by with_unfolding_all rfl) | omega)
  intro h' o' F' N' hd'
  try kob_lit
  try dsimp only at N'
  k_steps
  refine unheld ?_
  refine wp_noexc ?main
  case main =>
    rename IntsAre _ (List.map _ _) => hI8
    (refine law_rest _ ?hdd ?huu (Fr.known0 (n := Str.ofString "numbers") F' rfl) (news_sub N' (sub_pick [5, 3, 1, 7, 8, 10, 11, 13, 14] rfl rfl)) (nd_pick nd2 [5, 3, 1, 7, 8, 10, 11, 13, 14] (by decide) rfl rfl) (by assumption) (by assumption) (by assumption) (by assumption) hd' (by assumption) (by assumption) hI8 (nums_ok _) (nums_len _) hsz1 hsz5 hlen ?hQ)
    case hdd => decide
    case huu => decide
    case hQ =>
      intro h' tk m' F'
      k_steps)
end
end
end S36
theorem PySem.Challenge.cw_jf0036_01_holds : PySem.Challenge.rw_jf0036_01.Holds :=
  S36.law_holds
