import PyProof.Rows.All
import Wide.All
import OpenK.AllK
import Wide.FinOn
import PySem.Challenge.RW_pw0004_01
open PySem PySem.W PyProof.Rows PySem.Calls
set_option Elab.async false
set_option maxRecDepth 100000
set_option maxHeartbeats 8000000
namespace Mine
/-- the statements of the top that the walk holds -/
def hdq : Program := view PySem.Challenge.pw_pw0004_01 [0, 2, 3, 4, 5, 6, 8, 9, 10, 11, 12, 14, 16, 17, 18, 19, 20, 21, 22, 23]
end Mine
local macro_rules | `(tactic| o_head $H) => `(tactic| (
  refine holds_open (q := Mine.hdq) (loose := []) (Xt := fun s => xlAt Mine.hdq [] s && recOk (RowW.records PySem.Challenge.rw_pw0004_01.row.toRowW) s) (XP := XL Mine.hdq []) (Yf := Hook.obs $H) (Ya := Hook.val $H) (YP := Hook.says $H) (N := 1800) ?hl (Hook.of $H) (Hook.keeps $H) (fun s e => xl_of s (Bool.and_eq_true_iff.mp e).1) XL.keeps (by rfl) (by rfl) (by rfl) (fun s e => recFacts_of (Bool.and_eq_true_iff.mp e).2) (by rfl) (by first | assumption | decide +kernel) (by decide +kernel) ⟨rfl, rfl, rfl, rfl, rfl, by decide +kernel⟩ ?hw ?hc
  (case hl => intro w; kernel_rfl)))
namespace Mine
open_top hd01 for PySem.Challenge.rw_pw0004_01
end Mine
namespace Mine
/-- the end of a called def: nothing is asked but what the caller wants of the value and the state -/
def CEnd (R : Result → Shared → Prop) (v : Value) (s' : Shared) : Prop := R (.ok (.ret v)) s'

/-- g is the caller's heap hp with the handed objects (news) hidden: they stand in the callee's ledger -/
structure Hid (hp g : Heap) (news : List (Addr × Obj)) : Prop where
  stays : ∀ h', g.StaysIn h' → (∀ p ∈ news, h'.get? p.1 = some p.2) → hp.StaysIn h'
  fresh : ∀ a, g.get? a = none → (∀ p ∈ news, p.1 ≠ a) → hp.get? a = none

theorem hid_of {h₀ hp : Heap} {L : Addr} {news : List (Addr × Obj)} (N : News h₀ L hp news) : Hid hp (hideAll hp (news.map (·.1))) news := by
  refine ⟨fun h' hs hn b o e => ?_, fun a hg hne => ?_⟩
  · by_cases hb : b ∈ news.map (·.1)
    · obtain ⟨p, hp', rfl⟩ := List.mem_map.mp hb
      rw [(N p hp').1] at e
      cases e
      exact hn p hp'
    · exact hs b o (hideAll_get _ e hb)
  · cases q : hp.get? a with
    | none => rfl
    | some o =>
      have hb : a ∉ news.map (·.1) := fun hm => by
        obtain ⟨p, hp', e⟩ := List.mem_map.mp hm
        exact hne p hp' e
      rw [hideAll_get _ q hb] at hg
      cases hg

section
variable {prog : Program} {w : World} {A A₀ : Around} {K : Frag} {L : Addr} {h₀ base hp : Heap} {gens : Array GenState} {drawn : Drawn} {tk : Nat} {os : OsState} {m mg mb : Str → Option Value} {p : Program} {loose : List Str} {mean : ExcName → Option Value} {news : List (Addr × Obj)}
  {env : Env} {outer : List Env} {R : Result → Shared → Prop} {name qual : Str} {params : Arguments} {body : List Stmt} {scope : Scope} {dV kV doc pm cdv ct oc : Value} {an od : Option Addr} {osl : Array (Option Value)} {f : Addr} {args : Args} {binds : List (Str × Value)}

theorem in_plain (B : Below A₀ base outer h₀) (F : Fr h₀ L hp m) (N : News h₀ L hp news) (X₀ : K.In h₀) (T : Top p loose mean mg mb h₀) (hA : A.frames = some (env :: outer)) (hf : env.frame = some L) (hke : env.scope.kind = .function)
    (ho : K.lookup f = some ⟨oc, od, .func (fnOf name qual params body scope dV kV doc pm an cdv ct), osl⟩) (hcd : codeIn K cdv qual = true) (hroom : A.depth < recursionLimit)
    (hbind : BindsTo ⟨hp, gens, drawn, tk, os⟩ (fnOf name qual params body scope dV kV doc pm an cdv ct) args binds) (hloc : ∀ y ∈ binds, scope.names.lookup y.1 = some .local)
    (h : ∀ g L' h₁, Hid hp g news → h₀.StaysIn g → Fr g L' h₁ (fun y => binds.reverse.lookup y) → News g L' h₁ news → Below A base (env :: outer) g → K.In g → Top p loose mean mg mb g → (∀ p ∈ news, p.1 < L') →
      wpAny (model prog w) (A.deeper (envOf qual scope L' f cdv)) (execs body (envOf qual scope L' f cdv))
        (fun fl s' => CEnd R (match fl with | .ret v => v | _ => .none) s')
        (fun e s' => wpAny (model prog w) (A.deeper (envOf qual scope L' f cdv)) (leaving (envOf qual scope L' f cdv) e) (fun _ s'' => R (.error e) s'') (fun e' s'' => R (.error e') s'') s')
        ⟨h₁, gens, drawn, tk + binds.length, os⟩)
    (hco : scope.isCoroutine = false) (hgen : scope.isGenerator = false) (hk : scope.kind = .function)
    (hcell : ∀ x ∈ scope.names, x.2 ≠ .cell) : codeAny (model prog w) A (.call (.ref f) args) R ⟨hp, gens, drawn, tk, os⟩ := by
  obtain ⟨FG, BG, st, lv⟩ := groundX (s := ⟨hp, gens, drawn, tk, os⟩) (R := R) B F N hA hf hke
  have X := X₀.keeps F.keep
  refine codeAny_call_def (fd := fnOf name qual params body scope dV kV doc pm an cdv ct) (body := body) (binds := binds) hroom (X _ _ ho) rfl (T.nolimit.keeps F.keep) (codeRec_of X hcd) rfl hbind hcell hloc (fun h₁ hns hk₁ => ?_) hco hgen hk
  exact h _ hp.objs.size h₁ (hid_of N) st ⟨hns, fun b o e => hk₁ b o (of_hideAll _ e), Nat.le_of_eq (hideAll_size _ _)⟩ (fun p hp => ⟨hk₁ _ _ (N p hp).1, Nat.ne_of_lt (Heap.lt_size (N p hp).1), hideAll_none _ (List.mem_map_of_mem hp)⟩) BG (X₀.keeps st) (T.keeps st)
    (fun p hp => Heap.lt_size (N p hp).1)

theorem in_cells (B : Below A₀ base outer h₀) (F : Fr h₀ L hp m) (N : News h₀ L hp news) (X₀ : K.In h₀) (T : Top p loose mean mg mb h₀) (hA : A.frames = some (env :: outer)) (hf : env.frame = some L) (hke : env.scope.kind = .function)
    (ho : K.lookup f = some ⟨oc, od, .func (fnOf name qual params body scope dV kV doc pm an cdv ct), osl⟩) (hcd : codeIn K cdv qual = true) (hroom : A.depth < recursionLimit)
    (hbind : BindsTo ⟨hp, gens, drawn, tk, os⟩ (fnOf name qual params body scope dV kV doc pm an cdv ct) args binds) (hkind : (binds.all fun y => scope.names.lookup y.1 == some .local || scope.names.lookup y.1 == some .cell) = true)
    (hnd : ((cellsFrom 0 scope.names []).map (·.1)).Nodup)
    (h : ∀ g L' h₁ tk' cells, Hid hp g news → h₀.StaysIn g → Fr g L' h₁ (bindL (envOfC qual scope L' f cdv).kindOf binds fun _ => none) → News g L' h₁ (cells ++ news) →
      CellsAre (bindC (envOfC qual scope L' f cdv).kindOf binds fun _ => none) (cellsFrom (L' + 1) scope.names []) cells → Below A base (env :: outer) g → K.In g → Top p loose mean mg mb g → (∀ p ∈ news, p.1 < L') →
      wpAny (model prog w) (A.deeper (envOfC qual scope L' f cdv)) (execs body (envOfC qual scope L' f cdv))
        (fun fl s' => CEnd R (match fl with | .ret v => v | _ => .none) s')
        (fun e s' => wpAny (model prog w) (A.deeper (envOfC qual scope L' f cdv)) (leaving (envOfC qual scope L' f cdv) e) (fun _ s'' => R (.error e) s'') (fun e' s'' => R (.error e') s'') s')
        ⟨h₁, gens, drawn, tk', os⟩)
    (hco : scope.isCoroutine = false) (hgen : scope.isGenerator = false) (hk : scope.kind = .function) : codeAny (model prog w) A (.call (.ref f) args) R ⟨hp, gens, drawn, tk, os⟩ := by
  obtain ⟨FG, BG, st, lv⟩ := groundX (s := ⟨hp, gens, drawn, tk, os⟩) (R := R) B F N hA hf hke
  have X := X₀.keeps F.keep
  refine codeAny_call_function hroom (X _ _ ho) rfl hco hgen rfl (codeRec_of X hcd) (hbind _ _ _ _ ?_)
  refine wpAny_newFunctionEnv_cells hk (kindsX hkind _) fun env' he s' x => ?_
  subst he
  refine ⟨(T.nolimit.keeps F.keep).keeps x.toInCall.keep, codeAny_func ?_⟩
  obtain ⟨h₁, tk₁, rfl, _⟩ := x.done
  have hk₁ := x.toInCall.keep
  obtain ⟨cells, NC, Y⟩ := Cl.news (h₀ := hp) (Nat.le_refl _) fun n c hm => ⟨x.cell n c (lookup_of_mem_nodup (cellsFrom_names scope.names 0 (hp.objs.size + 1) [] [] rfl ▸ hnd) hm), x.above n c hm⟩
  refine h _ hp.objs.size h₁ tk₁ cells (hid_of N) st ⟨x.toInCall.ns, fun b o e => hk₁ b o (of_hideAll _ e), Nat.le_of_eq (hideAll_size _ _)⟩ (fun p hp => ?_) Y BG (X₀.keeps st) (T.keeps st) (fun p hp => Heap.lt_size (N p hp).1)
  rcases List.mem_append.mp hp with hp | hp
  · refine ⟨(NC p hp).1, (NC p hp).2.1, ?_⟩
    cases q : (hideAll _ (news.map (·.1))).get? p.1 with
    | none => rfl
    | some o => have := of_hideAll _ q; rw [(NC p hp).2.2] at this; cases this
  · exact ⟨hk₁ _ _ (N p hp).1, Nat.ne_of_lt (Heap.lt_size (N p hp).1), hideAll_none _ (List.mem_map_of_mem hp)⟩
end

/-- what a def does, wherever it is called from: handed the objects news, the caller's whole heap stays, the answer is as Ret says -/
abbrev Ctr (w : World) (rm : Nat) (f : Addr) (vs : List Value) (news : List (Addr × Obj)) (Pre : Heap → Prop) (Ret : Heap → Value → Heap → Prop) : Prop :=
  ∀ (loose : List Str) (mean : ExcName → Option Value) (mg mb : Str → Option Value) (dp un : Nat) (gd : Option (List Code)) (cn : Str) (cs : Scope) (a : Addr) (ccd : Value) (cl : List (Str × Addr)) (outer : List Env) (A₀ : Around) (base h₀ : Heap) (L : Addr) (m : Str → Option Value)
    (hp : Heap) (gens : Array GenState) (drawn : Drawn) (tk : Nat) (os : OsState) (Q E : Value → Shared → Prop),
    Below A₀ base outer h₀ → Fr h₀ L hp m → News h₀ L hp news → (hd01.heap_39 w.params).In h₀ → Top Mine.hdq loose mean mg mb h₀ → cs.kind = .function →
    dp + rm < recursionLimit → un + 8 * rm < cLine → Pre h₀ →
    (∀ (r : Value) (h' : Heap) (tk' : Nat), hp.StaysIn h' → Ret hp r h' → Q r ⟨h', gens, drawn, tk', os⟩) →
      wpAny (model Challenge.rw_pw0004_01.prog w) (ktrTop dp un gd cn cs L a ccd cl outer) (call (.ref f) vs) Q E ⟨hp, gens, drawn, tk, os⟩

section
variable {g hp h' h₀ : Heap} {L L' : Addr} {m m' : Str → Option Value} {news news' full : List (Addr × Obj)} {gens : Array GenState} {drawn : Drawn} {tk' : Nat} {os : OsState} {Q E : Value → Shared → Prop} {Ret : Heap → Value → Heap → Prop} {v : Value}
/-- the end of a contract -/
theorem ends (hret : ∀ (r : Value) (h' : Heap) (tk' : Nat), hp.StaysIn h' → Ret hp r h' → Q r ⟨h', gens, drawn, tk', os⟩) (H : Hid hp g news) (F' : Fr g L' h' m') (N' : News g L' h' news') (hs : ∀ p ∈ news, p ∈ news') (hr : Ret hp v h') :
    CEnd (fun r s' => match r with | .ok (.ret v) => Q v s' | .ok _ => False | .error e => E e s') v ⟨h', gens, drawn, tk', os⟩ :=
  hret v h' tk' (H.stays h' F'.keep fun p hp => (N' p (hs p hp)).1) hr
/-- an object that the callee made -/
theorem made {a : Addr} {o : Obj} (H : Hid hp g news) (N' : News g L' h' news') (hm : (a, o) ∈ news') (hne : ∀ p ∈ news, p.1 ≠ a) : hp.get? a = none ∧ h'.get? a = some o :=
  ⟨H.fresh a (N' _ hm).2.2 hne, (N' _ hm).1⟩
/-- behind a call by contract: the caller's frame and ledger stand -/
theorem back (F : Fr h₀ L hp m) (N : News h₀ L hp full) (hs : hp.StaysIn h') : Fr h₀ L h' m ∧ News h₀ L h' full := by
  obtain ⟨oL, a1, a2, hL, a3⟩ := F.ns
  exact ⟨⟨⟨oL, a1, a2, hs _ _ hL, a3⟩, fun b o e => hs b o (F.keep b o e), F.above⟩, fun p hp => ⟨hs _ _ (N p hp).1, (N p hp).2⟩⟩
theorem back_new {a : Addr} {o : Obj} (F : Fr h₀ L hp m) (N : News h₀ L hp full) (hs : hp.StaysIn h') (ha : hp.get? a = none) (ho : h'.get? a = some o) :
    Fr h₀ L h' m ∧ News h₀ L h' ((a, o) :: full) ∧ ∀ p ∈ full, p.1 ≠ a := by
  obtain ⟨F', N'⟩ := back F N hs
  obtain ⟨oL, a1, a2, hL, a3⟩ := F.ns
  refine ⟨F', fun p hp => ?_, fun p hp e => ?_⟩
  · rcases List.mem_cons.mp hp with rfl | hp
    · refine ⟨ho, fun e => ?_, ?_⟩
      · have : a = L := e
        subst this
        rw [hL] at ha
        cases ha
      · cases q : h₀.get? a with
        | none => rfl
        | some o' => rw [F.keep _ _ q] at ha; cases ha
    · exact N' p hp
  · rw [← e, (N p hp).1] at ha
    cases ha
end
section
variable {l : List (Addr × Obj)} {p : Addr × Obj} {a d : Addr} {o : Obj}
theorem mem_of (h : p ∈ l) : List.Mem p l := h
theorem all_ne_cons (ha : a ≠ d) (hb : ∀ q ∈ l, q.1 ≠ d) : ∀ q ∈ (a, o) :: l, q.1 ≠ d := fun q hq => by
  rcases List.mem_cons.mp hq with rfl | hq
  · exact ha
  · exact hb q hq
theorem sub_cons {l' : List (Addr × Obj)} (ha : p ∈ l') (hb : ∀ q ∈ l, q ∈ l') : ∀ q ∈ p :: l, q ∈ l' := fun q hq => by
  rcases List.mem_cons.mp hq with rfl | hq
  · exact ha
  · exact hb q hq
theorem all_lt_ne (h : ∀ p ∈ l, p.1 < d) : ∀ p ∈ l, p.1 ≠ d := fun p hp => Nat.ne_of_lt (h p hp)
theorem ne_off (h : ∀ p ∈ l, p.1 ≠ d) (hm : (a, o) ∈ l) : a ≠ d := h _ hm
theorem ne_off' (h : ∀ p ∈ l, p.1 ≠ d) (hm : (a, o) ∈ l) : d ≠ a := (h _ hm).symm
theorem ne_offlt (h : ∀ p ∈ l, p.1 < d) (hm : (a, o) ∈ l) : a ≠ d := Nat.ne_of_lt (h _ hm)
theorem ne_offlt' (h : ∀ p ∈ l, p.1 < d) (hm : (a, o) ∈ l) : d ≠ a := Nat.ne_of_gt (h _ hm)
theorem ne_of_ne' {a b : Nat} (h : @Ne Nat a b) : @Ne Nat b a := Ne.symm h
theorem Fr_one {g h : Heap} {L : Addr} {m : Str → Option Value} {x : Str} {v : Option Value} (F : Fr g L h m) (hx : m x = v) : Fr g L h (fun z => if z = x then v else m z) := by
  have e : (fun z => if z = x then v else m z) = m := by
    funext z
    by_cases h1 : z = x
    · rw [if_pos h1, h1, hx]
    · rw [if_neg h1]
  rw [e]; exact F
end
set_option pp.deepTerms false
set_option pp.deepTerms.threshold 6
theorem ly1 : True := by
  k_with "hd0" => (
    ktr_room)
  k_with "hd1" => (
    first
  | (refine' in_plain ?k1 ?k2 ?k4 ?k3 ?k5 ?kA ?kF ?kK ?k6 ?k7 ?k8 ?k9 ?kB ?_ ?c2 ?c3 ?c4 ?c5; (case kA => exact rfl); (case kF => exact rfl); (case kK => assumption); (case k1 => k_asm); (case k2 => k_asm); (case k3 => k_asm); (case k4 => assumption); (case k5 => k_asm); (case k6 => k_is); (case k7 => k_is); (case k8 => ktr_room); (case k9 => exact BindsTo.of_eq rfl); (case c5 => decide); (case kB => exact locs rfl); (case c2 => exact rfl); (case c3 => exact rfl); (case c4 => exact rfl); k_whole; intro g' L' h' hHid hSt F' N' B' X' T' l1; (try k_lt l1); (try dsimp only); (try k_lift B'); (try k_fold))
  | (refine' in_cells ?k1 ?k2 ?k4 ?k3 ?k5 ?kA ?kF ?kK ?k6 ?k7 ?k8 ?k9 ?kB ?kD ?_ ?c2 ?c3 ?c4; (case kA => exact rfl); (case kF => exact rfl); (case kK => assumption); (case k1 => k_asm); (case k2 => k_asm); (case k3 => k_asm); (case k4 => assumption); (case k5 => k_asm); (case k6 => k_is); (case k7 => k_is); (case k8 => ktr_room); (case k9 => exact BindsTo.of_eq rfl); (case kB => exact rfl); (case kD => decide +kernel); (case c2 => exact rfl); (case c3 => exact rfl); (case c4 => exact rfl); k_whole; intro g' L' h' tk' cells' hHid hSt F' N' Y' B' X' T' l1; (try k_lt l1); k_cells Y'; (try simp only [List.cons_append, List.nil_append] at N'); (try dsimp only); (try k_lift B'); (try k_fold)))
  k_with "hd2" => (
    (refine mem_of ?_; with_reducible assumption))
  k_with "hd3" => (
    first | with_reducible assumption | exact all_lt_ne (by with_reducible assumption) | (refine' all_ne_cons ?a ?b; (case a => k_ne); (case b => k_all)))
  k_with "hd4" => (
    first | with_reducible assumption | exact ne_of_ne' (by with_reducible assumption) | (refine' ne_off ?h ?m; (case h => with_reducible assumption); (case m => k_mem)) | (refine' ne_off' ?h ?m; (case h => with_reducible assumption); (case m => k_mem)) | (refine' ne_offlt ?h ?m; (case h => with_reducible assumption); (case m => k_mem)) | (refine' ne_offlt' ?h ?m; (case h => with_reducible assumption); (case m => k_mem)) | (refine neN ?_; dsimp only; first | with_reducible assumption | exact ne_of_ne' (by with_reducible assumption) | (refine' ne_off ?h ?m; (case h => with_reducible assumption); (case m => k_mem)) | (refine' ne_off' ?h ?m; (case h => with_reducible assumption); (case m => k_mem)) | (refine' ne_offlt ?h ?m; (case h => with_reducible assumption); (case m => k_mem)) | (refine' ne_offlt' ?h ?m; (case h => with_reducible assumption); (case m => k_mem)) | omega) | (refine neN ?_; omega))
  exact True.intro
local macro_rules | `(tactic| k_room) => `(tactic| k_extra "hd0")
local macro_rules | `(tactic| cell_enter) => `(tactic| k_extra "hd1")
local macro_rules | `(tactic| k_mem) => `(tactic| k_extra "hd2")
local macro_rules | `(tactic| k_all) => `(tactic| k_extra "hd3")
local macro_rules | `(tactic| k_ne) => `(tactic| k_extra "hd4")
local macro_rules | `(tactic| k_lt $_h:ident) => `(tactic| skip)
section
theorem ly6 : True := by
  k_with_none
  w_top off
  k_with "hd0" => (
    ktr_room)
  k_with "hd1" => (
    first
  | (refine' in_plain ?k1 ?k2 ?k4 ?k3 ?k5 ?kA ?kF ?kK ?k6 ?k7 ?k8 ?k9 ?kB ?_ ?c2 ?c3 ?c4 ?c5; (case kA => exact rfl); (case kF => exact rfl); (case kK => assumption); (case k1 => k_asm); (case k2 => k_asm); (case k3 => k_asm); (case k4 => assumption); (case k5 => k_asm); (case k6 => k_is); (case k7 => k_is); (case k8 => ktr_room); (case k9 => exact BindsTo.of_eq rfl); (case c5 => decide); (case kB => exact locs rfl); (case c2 => exact rfl); (case c3 => exact rfl); (case c4 => exact rfl); k_whole; intro g' L' h' hHid hSt F' N' B' X' T' l1; (try k_lt l1); (try dsimp only); (try k_lift B'); (try k_fold))
  | (refine' in_cells ?k1 ?k2 ?k4 ?k3 ?k5 ?kA ?kF ?kK ?k6 ?k7 ?k8 ?k9 ?kB ?kD ?_ ?c2 ?c3 ?c4; (case kA => exact rfl); (case kF => exact rfl); (case kK => assumption); (case k1 => k_asm); (case k2 => k_asm); (case k3 => k_asm); (case k4 => assumption); (case k5 => k_asm); (case k6 => k_is); (case k7 => k_is); (case k8 => ktr_room); (case k9 => exact BindsTo.of_eq rfl); (case kB => exact rfl); (case kD => decide +kernel); (case c2 => exact rfl); (case c3 => exact rfl); (case c4 => exact rfl); k_whole; intro g' L' h' tk' cells' hHid hSt F' N' Y' B' X' T' l1; (try k_lt l1); k_cells Y'; (try simp only [List.cons_append, List.nil_append] at N'); (try dsimp only); (try k_lift B'); (try k_fold)))
  k_with "hd2" => (
    (refine mem_of ?_; with_reducible assumption))
  k_with "hd3" => (
    first | with_reducible assumption | exact all_lt_ne (by with_reducible assumption) | (refine' all_ne_cons ?a ?b; (case a => k_ne); (case b => k_all)))
  k_with "hd4" => (
    first | with_reducible assumption | exact ne_of_ne' (by with_reducible assumption) | (refine' ne_off ?h ?m; (case h => with_reducible assumption); (case m => k_mem)) | (refine' ne_off' ?h ?m; (case h => with_reducible assumption); (case m => k_mem)) | (refine' ne_offlt ?h ?m; (case h => with_reducible assumption); (case m => k_mem)) | (refine' ne_offlt' ?h ?m; (case h => with_reducible assumption); (case m => k_mem)) | (refine neN ?_; dsimp only; first | with_reducible assumption | exact ne_of_ne' (by with_reducible assumption) | (refine' ne_off ?h ?m; (case h => with_reducible assumption); (case m => k_mem)) | (refine' ne_off' ?h ?m; (case h => with_reducible assumption); (case m => k_mem)) | (refine' ne_offlt ?h ?m; (case h => with_reducible assumption); (case m => k_mem)) | (refine' ne_offlt' ?h ?m; (case h => with_reducible assumption); (case m => k_mem)) | omega) | (refine neN ?_; omega))
  exact True.intro
/-- the answers of the contracts -/
def RStr (x : Str) (_ : Heap) (r : Value) (_ : Heap) : Prop := ∃ t, r = .str x t
def RInt (i : Int) (_ : Heap) (r : Value) (_ : Heap) : Prop := ∃ t, r = .int i t
def RInts (xs : List Int) (hp : Heap) (r : Value) (h' : Heap) : Prop := ∃ l ys n, r = .ref l ∧ hp.get? l = none ∧ h'.get? l = some (W.listOf ys.toArray n) ∧ IntsAre ys xs
def RStrs (xs : List Str) (hp : Heap) (r : Value) (h' : Heap) : Prop := ∃ l ys n, r = .ref l ∧ hp.get? l = none ∧ h'.get? l = some (W.listOf ys.toArray n) ∧ StrsAre ys xs
section
variable {g hp h' h₀ : Heap} {L L' : Addr} {m m' : Str → Option Value} {news news' full : List (Addr × Obj)} {gens : Array GenState} {drawn : Drawn} {tk' : Nat} {os : OsState} {Q E : Value → Shared → Prop} {v : Value} {a : Addr} {ys : List Value} {n : Nat}
theorem ends_ints {xs : List Int} (hret : ∀ (r : Value) (h' : Heap) (tk' : Nat), hp.StaysIn h' → RInts xs hp r h' → Q r ⟨h', gens, drawn, tk', os⟩) (H : Hid hp g news) (F' : Fr g L' h' m') (N' : News g L' h' news') (hm : (a, W.listOf ys.toArray n) ∈ news') (hs : ∀ p ∈ news, p ∈ news') (hne : ∀ p ∈ news, p.1 ≠ a) (hi : IntsAre ys xs) :
    CEnd (fun r s' => match r with | .ok (.ret v) => Q v s' | .ok _ => False | .error e => E e s') (.ref a) ⟨h', gens, drawn, tk', os⟩ :=
  ends hret H F' N' hs ⟨_, _, _, rfl, (made H N' hm hne).1, (made H N' hm hne).2, hi⟩
theorem ends_strs {xs : List Str} (hret : ∀ (r : Value) (h' : Heap) (tk' : Nat), hp.StaysIn h' → RStrs xs hp r h' → Q r ⟨h', gens, drawn, tk', os⟩) (H : Hid hp g news) (F' : Fr g L' h' m') (N' : News g L' h' news') (hm : (a, W.listOf ys.toArray n) ∈ news') (hs : ∀ p ∈ news, p ∈ news') (hne : ∀ p ∈ news, p.1 ≠ a) (hi : StrsAre ys xs) :
    CEnd (fun r s' => match r with | .ok (.ret v) => Q v s' | .ok _ => False | .error e => E e s') (.ref a) ⟨h', gens, drawn, tk', os⟩ :=
  ends hret H F' N' hs ⟨_, _, _, rfl, (made H N' hm hne).1, (made H N' hm hne).2, hi⟩
end
section
variable {w : World} {rm : Nat} {f : Addr} {vs : List Value} {news full : List (Addr × Obj)} {Pre : Heap → Prop} {loose : List Str} {mean : ExcName → Option Value} {mg mb : Str → Option Value} {dp un : Nat} {gd : Option (List Code)} {cn : Str} {cs : Scope} {a : Addr} {ccd : Value} {cl : List (Str × Addr)} {outer : List Env}
  {A₀ : Around} {base h₀ : Heap} {L : Addr} {m : Str → Option Value} {s : Shared} {Q E : Value → Shared → Prop}
theorem use_str {x : Str} (C : Ctr w rm f vs news Pre (RStr x)) (B : Below A₀ base outer h₀) (F : Fr h₀ L s.heap m) (N : News h₀ L s.heap full) (X : (hd01.heap_39 w.params).In h₀) (T : Top Mine.hdq loose mean mg mb h₀) (hk : cs.kind = .function)
    (hd : dp + rm < recursionLimit) (hu : un + 8 * rm < cLine) (hs : ∀ p ∈ news, p ∈ full) (hp : Pre h₀) (h : ∀ t h' tk', Fr h₀ L h' m → News h₀ L h' full → Q (.str x t) { s with heap := h', toks := tk' }) :
    wpAny (model Challenge.rw_pw0004_01.prog w) (ktrTop dp un gd cn cs L a ccd cl outer) (call (.ref f) vs) Q E s :=
  C loose mean mg mb dp un gd cn cs a ccd cl outer A₀ base h₀ L m s.heap s.gens s.drawn s.toks s.os Q E B F (fun p hp => N p (hs p hp)) X T hk hd hu hp fun r h' tk' st hr => by
    obtain ⟨t, rfl⟩ := hr
    obtain ⟨F', N'⟩ := back F N st
    exact h t h' tk' F' N'
theorem use_int {x : Int} (C : Ctr w rm f vs news Pre (RInt x)) (B : Below A₀ base outer h₀) (F : Fr h₀ L s.heap m) (N : News h₀ L s.heap full) (X : (hd01.heap_39 w.params).In h₀) (T : Top Mine.hdq loose mean mg mb h₀) (hk : cs.kind = .function)
    (hd : dp + rm < recursionLimit) (hu : un + 8 * rm < cLine) (hs : ∀ p ∈ news, p ∈ full) (hp : Pre h₀) (h : ∀ t h' tk', Fr h₀ L h' m → News h₀ L h' full → Q (.int x t) { s with heap := h', toks := tk' }) :
    wpAny (model Challenge.rw_pw0004_01.prog w) (ktrTop dp un gd cn cs L a ccd cl outer) (call (.ref f) vs) Q E s :=
  C loose mean mg mb dp un gd cn cs a ccd cl outer A₀ base h₀ L m s.heap s.gens s.drawn s.toks s.os Q E B F (fun p hp => N p (hs p hp)) X T hk hd hu hp fun r h' tk' st hr => by
    obtain ⟨t, rfl⟩ := hr
    obtain ⟨F', N'⟩ := back F N st
    exact h t h' tk' F' N'
theorem use_ints {xs : List Int} (C : Ctr w rm f vs news Pre (RInts xs)) (B : Below A₀ base outer h₀) (F : Fr h₀ L s.heap m) (N : News h₀ L s.heap full) (X : (hd01.heap_39 w.params).In h₀) (T : Top Mine.hdq loose mean mg mb h₀) (hk : cs.kind = .function)
    (hd : dp + rm < recursionLimit) (hu : un + 8 * rm < cLine) (hs : ∀ p ∈ news, p ∈ full) (hp : Pre h₀) (h : ∀ l ys n h' tk', Fr h₀ L h' m → News h₀ L h' ((l, W.listOf ys.toArray n) :: full) → (∀ p ∈ full, p.1 ≠ l) → IntsAre ys xs → Q (.ref l) { s with heap := h', toks := tk' }) :
    wpAny (model Challenge.rw_pw0004_01.prog w) (ktrTop dp un gd cn cs L a ccd cl outer) (call (.ref f) vs) Q E s :=
  C loose mean mg mb dp un gd cn cs a ccd cl outer A₀ base h₀ L m s.heap s.gens s.drawn s.toks s.os Q E B F (fun p hp => N p (hs p hp)) X T hk hd hu hp fun r h' tk' st hr => by
    obtain ⟨l, ys, n, rfl, ha, ho, hi⟩ := hr
    obtain ⟨F', N', hne⟩ := back_new F N st ha ho
    exact h l ys n h' tk' F' N' hne hi
theorem use_strs {xs : List Str} (C : Ctr w rm f vs news Pre (RStrs xs)) (B : Below A₀ base outer h₀) (F : Fr h₀ L s.heap m) (N : News h₀ L s.heap full) (X : (hd01.heap_39 w.params).In h₀) (T : Top Mine.hdq loose mean mg mb h₀) (hk : cs.kind = .function)
    (hd : dp + rm < recursionLimit) (hu : un + 8 * rm < cLine) (hs : ∀ p ∈ news, p ∈ full) (hp : Pre h₀) (h : ∀ l ys n h' tk', Fr h₀ L h' m → News h₀ L h' ((l, W.listOf ys.toArray n) :: full) → (∀ p ∈ full, p.1 ≠ l) → StrsAre ys xs → Q (.ref l) { s with heap := h', toks := tk' }) :
    wpAny (model Challenge.rw_pw0004_01.prog w) (ktrTop dp un gd cn cs L a ccd cl outer) (call (.ref f) vs) Q E s :=
  C loose mean mg mb dp un gd cn cs a ccd cl outer A₀ base h₀ L m s.heap s.gens s.drawn s.toks s.os Q E B F (fun p hp => N p (hs p hp)) X T hk hd hu hp fun r h' tk' st hr => by
    obtain ⟨l, ys, n, rfl, ha, ho, hi⟩ := hr
    obtain ⟨F', N', hne⟩ := back_new F N st ha ho
    exact h l ys n h' tk' F' N' hne hi
end
theorem ints_at {vs : List Value} {ns : List Int} (h : IntsAre vs ns) : ∀ {i : Nat} {n : Int}, ns[i]? = some n → ∃ t, vs[i]? = some (.int n t) := by
  induction h with
  | nil => intro i n e; cases i <;> cases e
  | cons k t _ ih =>
    intro i n e
    cases i with
    | zero => cases e; exact ⟨t, rfl⟩
    | succ i => exact ih (by simpa using e)
theorem strs_at {vs : List Value} {ns : List Str} (h : StrsAre vs ns) : ∀ {i : Nat} {n : Str}, ns[i]? = some n → ∃ t, vs[i]? = some (.str n t) := by
  induction h with
  | nil => intro i n e; cases i <;> cases e
  | cons k t _ ih =>
    intro i n e
    cases i with
    | zero => cases e; exact ⟨t, rfl⟩
    | succ i => exact ih (by simpa using e)
theorem strs_of_carried {α : Type} (g : α → Str) : ∀ {l : List α} {ys : List Value}, CarriedAll ys (l.map fun k => PyData.str (g k)) → StrsAre ys (l.map g)
  | [], _, h => by cases h; exact .nil
  | a :: l, _, h => by
    cases h with
    | cons hc hr => cases hc; exact .cons _ _ (strs_of_carried g hr)
section
variable {prog : Program} {w : World} {A : Around} {E : Value → Shared → Prop} {s : Shared} {h₀ : Heap} {L l : Addr} {full : List (Addr × Obj)} {ys : List Value} {xs : List Int} {n : Nat} {k x : Int} {u : Tok} {Q : Value → Shared → Prop} {value slice : PySem.Expr}
/-- an item of a list of ints in the ledger -/
theorem item_ints (N : News h₀ L s.heap full) (hm : (l, W.listOf ys.toArray n) ∈ full) (hi : IntsAre ys xs) (h0 : 0 ≤ k) (hb : k < 2 ^ 63) (hx : xs[k.toNat]? = some x) (h : ∀ t, Q (.int x t) s)
    (hs : subscripted slice false (.ref l) (.int k u) = operate [.ref l, .int k u] (getItem (.ref l) (.int k u)) := by with_unfolding_all rfl) :
    wpAny (model prog w) A (subscriptTail value slice (.ref l) (.int k u)) Q E s := by
  have hl : s.heap.IsList l ys.toArray := ⟨_, (N _ hm).1, rfl, n, rfl⟩
  obtain ⟨t, ht⟩ := ints_at hi hx
  exact tail_any hl.typeIs slot_list_getitem.lookup (wpAny_getItem_list hl h0 hb (by simpa using ht) (h t)) hs
end
section
/-- what is shown of a code's seven low bits; of a code -/
def lab7 (r : Int) : Str := if r < 32 then Str.ofString "^" ++ ⟨#[(r + 64).toNat]⟩ else ⟨#[r.toNat]⟩
def lab (c : Int) : Str := if 128 ≤ c % 256 then Str.ofString "!" ++ lab7 (c % 128) else lab7 (c % 128)

section
variable {prog : Program} {w : World} {A : Around} {E : Value → Shared → Prop} {s : Shared} {a : Int} {t u : Tok} {Q : Value → Shared → Prop}
theorem and127 (h : Q (.int (a % 128) s.toks) { s with toks := s.toks + 1 }) : wpAny (model prog w) A (binaryOp .BitAnd (.int a t) (.int 127 u)) Q E s :=
  and_int (by rw [bitAnd_m7]; exact h)
theorem and31 (h : Q (.int (a % 32) s.toks) { s with toks := s.toks + 1 }) : wpAny (model prog w) A (binaryOp .BitAnd (.int a t) (.int 31 u)) Q E s :=
  and_int (by rw [bitAnd_m5]; exact h)
theorem bit128 (x : Int) : Builtin.bitAnd x 128 = x / 128 % 2 * 128 := kbt_bit x 7
theorem and128 (h : Q (.int (a / 128 % 2 * 128) s.toks) { s with toks := s.toks + 1 }) : wpAny (model prog w) A (binaryOp .BitAnd (.int a t) (.int 128 u)) Q E s :=
  and_int (by rw [bit128]; exact h)
theorem or32 (h0 : 0 ≤ a) (h1 : a < 32) (h : Q (.int (a + 32) s.toks) { s with toks := s.toks + 1 }) : wpAny (model prog w) A (binaryOp .BitOr (.int a t) (.int 32 u)) Q E s :=
  or_int (by
    have e : Builtin.bitAnd a 32 = 0 := by
      have e5 : Builtin.bitAnd a 32 = a / 32 % 2 * 32 := kbt_bit a 5
      have : a / 32 = 0 := Int.ediv_eq_zero_of_lt h0 h1
      rw [e5, this]; rfl
    rw [bitOr_and, e]
    have : a + 32 - 0 = a + 32 := by omega
    rw [this]; exact h)
end
theorem ly2 : True := by
  k_with "g0r0" => (
    (with_reducible first | refine and127 ?_ | refine and128 ?_ | refine and31 ?_))
  k_with "g0r1" => (
    (with_reducible refine or32 (by omega) (by omega) ?_))
  exact True.intro
local macro_rules | `(tactic| walk_at "binaryOp BitAnd int int") => `(tactic| k_extra "g0r0")
local macro_rules | `(tactic| walk_at "binaryOp BitOr int int") => `(tactic| k_extra "g0r1")
theorem lab_1 {n : Int} (h : 128 ≤ n % 256) (h2 : ¬ n % 128 < 32) : Str.ofString "!" ++ ⟨#[(n % 128).toNat]⟩ = lab n := by unfold lab lab7; rw [if_pos h, if_neg h2]
theorem lab_2 {n : Int} (h : ¬ 128 ≤ n % 256) (h2 : ¬ n % 128 < 32) : ⟨#[(n % 128).toNat]⟩ = lab n := by unfold lab lab7; rw [if_neg h, if_neg h2]
theorem lab_3 {n : Int} (h : 128 ≤ n % 256) (h2 : n % 128 < 32) : Str.ofString "!" ++ (Str.ofString "^" ++ ⟨#[(n % 128 + 32 + 32).toNat]⟩) = lab n := by
  unfold lab lab7; rw [if_pos h, if_pos h2, show n % 128 + 32 + 32 = n % 128 + 64 by omega]
theorem lab_4 {n : Int} (h : ¬ 128 ≤ n % 256) (h2 : n % 128 < 32) : Str.ofString "^" ++ ⟨#[(n % 128 + 32 + 32).toNat]⟩ = lab n := by
  unfold lab lab7; rw [if_neg h, if_pos h2, show n % 128 + 32 + 32 = n % 128 + 64 by omega]
theorem c_unctrl_int (w : World) (n : Int) (t : Tok) (hn : n % 16 = 1) : Ctr w 10 49 [.int n t] [] (fun _ => True) (RStr (lab n)) := by
  unfold Ctr
  k_fill
  intro loose mean mg mb dp un gd cn cs a ccd cl outer A₀ base h₀ L m hp gens drawn tk os Q E hB hF hN hX hT hk hdp hun hpre hret
  refine wpAny_call ?_
  k_dflt cell_enter
  k_steps
  all_goals refine ends hret (by assumption) (by k_asm) (by k_asm) (by intro _ h9; cases h9) ⟨_, congrArg (fun x => Value.str x _) ?_⟩
  all_goals first | (exfalso; omega) | exact lab_1 (by omega) (by omega) | exact lab_2 (by omega) (by omega) | exact lab_3 (by omega) (by omega) | exact lab_4 (by omega) (by omega)
theorem c_unctrl_str (w : World) (c : Nat) (t : Tok) (hn : (c : Int) % 16 = 1) : Ctr w 10 49 [.str ⟨#[c]⟩ t] [] (fun _ => True) (RStr (lab c)) := by
  unfold Ctr
  k_fill
  intro loose mean mg mb dp un gd cn cs a ccd cl outer A₀ base h₀ L m hp gens drawn tk os Q E hB hF hN hX hT hk hdp hun hpre hret
  refine wpAny_call ?_
  k_dflt cell_enter
  k_steps
  all_goals refine ends hret (by assumption) (by k_asm) (by k_asm) (by intro _ h9; cases h9) ⟨_, congrArg (fun x => Value.str x _) ?_⟩
  all_goals first | (exfalso; omega) | exact lab_1 (by omega) (by omega) | exact lab_2 (by omega) (by omega) | exact lab_3 (by omega) (by omega) | exact lab_4 (by omega) (by omega)
theorem c_ctrl_int (w : World) (n : Int) (t : Tok) : Ctr w 10 42 [.int n t] [] (fun _ => True) (RInt (n % 32)) := by
  unfold Ctr
  k_fill
  intro loose mean mg mb dp un gd cn cs a ccd cl outer A₀ base h₀ L m hp gens drawn tk os Q E hB hF hN hX hT hk hdp hun hpre hret
  refine wpAny_call ?_
  k_dflt cell_enter
  k_steps
  all_goals exact ends hret (by assumption) (by k_asm) (by k_asm) (by intro _ h9; cases h9) ⟨_, rfl⟩
theorem c_ctrl_str (w : World) (c : Nat) (t : Tok) : Ctr w 10 42 [.str ⟨#[c]⟩ t] [] (fun _ => True) (RStr ⟨#[((c : Int) % 32).toNat]⟩) := by
  unfold Ctr
  k_fill
  intro loose mean mg mb dp un gd cn cs a ccd cl outer A₀ base h₀ L m hp gens drawn tk os Q E hB hF hN hX hT hk hdp hun hpre hret
  refine wpAny_call ?_
  k_dflt cell_enter
  k_steps
  all_goals exact ends hret (by assumption) (by k_asm) (by k_asm) (by intro _ h9; cases h9) ⟨_, rfl⟩
end
section
theorem mulOk_pow {a k : Int} (h : 0 ≤ k) : IntMulOk a (2 ^ (8 - k).toNat) := by
  have h8 : (8 - k).toNat ≤ 8 := by omega
  refine IntMulOk.of_right (intBits_le_64 ?_ ?_)
  · have := kbt_pos (8 - k).toNat
    omega
  · have h2 : (2 : Int) ^ (8 - k).toNat ≤ 2 ^ 8 := by
      have : (2 : Nat) ^ (8 - k).toNat ≤ 2 ^ 8 := Nat.pow_le_pow_right (by decide) h8
      have e1 := kbt_cast (8 - k).toNat
      have e2 := kbt_cast 8
      omega
    have : (2 : Int) ^ 8 < 2 ^ 64 := by decide
    omega
theorem ly3 : True := by
  k_with "g0r2" => (
    exact mulOk_pow (by omega))
  exact True.intro
local macro_rules | `(tactic| mul_fits) => `(tactic| k_extra "g0r2")
def code (n k : Int) : Int := 33 + n * 2 ^ (8 - k).toNat
theorem c_codes (w : World) (n z : Int) (t t' : Tok) (h1 : 1 ≤ z) (h4 : z ≤ 4) : Ctr w 10 133 [.int n t, .int z t'] [] (fun _ => True) (RInts ((rangeKs 1 z.toNat).map (code n))) := by
  unfold Ctr
  k_fill
  intro loose mean mg mb dp un gd cn cs a ccd cl outer A₀ base h₀ L m hp gens drawn tk os Q E hB hF hN hX hT hk hdp hun hpre hret
  refine wpAny_call ?_
  k_dflt cell_enter
  k_steps
  all_goals refine ends_ints hret (by assumption) (by k_asm) (by k_asm) (by k_mem) (by intro _ h9; cases h9) (by intro _ h9; cases h9) ?_
  all_goals (rename IntsAre _ _ => hI9; rw [show z + 1 - 1 = z by omega] at hI9; exact hI9)
end
section
theorem code_mod {n k : Int} (h0 : 0 ≤ k) (h4 : k ≤ 4) : code n k % 16 = 1 := by
  unfold code
  have e : (2 : Int) ^ (8 - k).toNat = 16 * 2 ^ (4 - k).toNat := by
    have : (8 - k).toNat = (4 - k).toNat + 4 := by omega
    rw [this, Int.pow_add, Int.mul_comm]; rfl
  rw [e, show n * (16 * 2 ^ (4 - k).toNat) = 16 * (n * 2 ^ (4 - k).toNat) by rw [Int.mul_left_comm]]
  omega
theorem codes_at {n z j : Int} (h0 : 0 ≤ j) (h1 : j < z) : ((rangeKs 1 z.toNat).map (code n))[j.toNat]? = some (code n (1 + j)) := by
  have : j.toNat < z.toNat := by omega
  simp [rangeKs, this, Int.toNat_of_nonneg h0]
theorem shift01 {α : Type} (f : Int → α) {n : Nat} : (rangeKs 0 n).map (fun k => f (1 + k)) = (rangeKs 1 n).map f := by
  simp [rangeKs, List.map_map, Function.comp_def]
theorem lab_chr {x : Int} : lab (((Int.fmod x 55296).toNat : Nat) : Int) = lab x := by
  have h1 : Int.fmod x 55296 = x % 55296 := Int.fmod_eq_emod_of_nonneg x (by decide)
  have h2 : ((x % 55296).toNat : Int) = x % 55296 := Int.toNat_of_nonneg (by omega)
  unfold lab
  rw [h1, h2, show x % 55296 % 256 = x % 256 by omega, show x % 55296 % 128 = x % 128 by omega]
theorem c_unctrl_chr (w : World) (x : Int) (t : Tok) (hn : x % 16 = 1) : Ctr w 10 49 [.str ⟨#[(Int.fmod x 55296).toNat]⟩ t] [] (fun _ => True) (RStr (lab x)) := by
  have h1 : Int.fmod x 55296 = x % 55296 := Int.fmod_eq_emod_of_nonneg x (by decide)
  have := c_unctrl_str w (Int.fmod x 55296).toNat t (by rw [h1]; omega)
  rwa [lab_chr] at this
theorem ly4 : True := by
  k_with "g0r3" => (
    (k_here; (with_reducible show wpAny _ _ (call (Value.ref 133) _ _) _ _ _); k_dflt (refine' use_ints (c_codes _ _ _ _ _ ?p1 ?p2) ?k1 ?k2 ?k3 ?k4 ?k5 ?k6 ?k7 ?k8 ?k9 ?kp ?_; (case p1 => omega); (case p2 => omega); (case k1 => k_asm); (case k2 => k_asm); (case k3 => k_asm); (case k4 => k_asm); (case k5 => k_asm); (case k6 => first | exact rfl | assumption); (case k7 => ktr_room); (case k8 => ktr_units); (case k9 => (intro _ h9; cases h9)); (case kp => trivial); intro l' ys' n' h' tk' F' N' l1 hI'; (try dsimp only); (try k_fold))))
  k_with "g0r4" => (
    (k_here; (with_reducible show wpAny _ _ (call (Value.ref 49) [_] _) _ _ _); k_dflt (first
  | refine' use_str (c_unctrl_int _ (code _ _) _ ?p1) ?k1 ?k2 ?k3 ?k4 ?k5 ?k6 ?k7 ?k8 ?k9 ?kp ?_
  | refine' use_str (c_unctrl_chr _ (code _ _) _ ?p1) ?k1 ?k2 ?k3 ?k4 ?k5 ?k6 ?k7 ?k8 ?k9 ?kp ?_); k_dflt ((case p1 => exact code_mod (by omega) (by omega)); (case k1 => k_asm); (case k2 => k_asm); (case k3 => k_asm); (case k4 => k_asm); (case k5 => k_asm); (case k6 => first | exact rfl | assumption); (case k7 => ktr_room); (case k8 => ktr_units); (case k9 => (intro _ h9; cases h9)); (case kp => trivial); intro t' h' tk' F' N'; (try dsimp only); (try k_fold))))
  k_with "g0r5" => (
    (k_here; k_dflt (refine' item_ints ?k1 ?k2 ?k3 ?k4 ?k5 ?k6 ?_ ?k7; (case k1 => k_asm); (case k2 => k_mem); (case k3 => assumption); (case k4 => omega); (case k5 => omega); (case k6 => exact codes_at (by omega) (by omega)); (case k7 => with_unfolding_all rfl); intro t')))
  exact True.intro
local macro_rules | `(tactic| walk_at "call ref") => `(tactic| k_extra "g0r3")
local macro_rules | `(tactic| walk_at "call ref") => `(tactic| k_extra "g0r4")
local macro_rules | `(tactic| walk_at "subscriptTail Name Name ref int") => `(tactic| k_extra "g0r5")
theorem c_shown (w : World) (n z : Int) (t t' : Tok) (h1 : 1 ≤ z) (h4 : z ≤ 4) : Ctr w 20 138 [.int n t, .int z t'] [] (fun _ => True) (RStrs ((rangeKs 1 z.toNat).map fun k => lab (code n k))) := by
  unfold Ctr
  k_fill
  intro loose mean mg mb dp un gd cn cs a ccd cl outer A₀ base h₀ L m hp gens drawn tk os Q E hB hF hN hX hT hk hdp hun hpre hret
  refine wpAny_call ?_
  k_dflt cell_enter
  k_steps
  all_goals refine ends_strs hret (by assumption) (by k_asm) (by k_asm) (by k_mem) (by intro _ h9; cases h9) (by intro _ h9; cases h9) ?_
  all_goals (rename CarriedAll _ _ => hC9; have hS9 := strs_of_carried _ hC9; simp only [ite_self, Int.sub_zero] at hS9; rw [shift01 (fun k => lab (code n k))] at hS9; exact hS9)
end
section
theorem ly5 : True := by
  k_with "g0r6" => (
    (k_here; (with_reducible show wpAny _ _ (call (Value.ref 133) _ _) _ _ _); k_dflt (refine' use_ints (c_codes _ _ _ _ _ ?p1 ?p2) ?k1 ?k2 ?k3 ?k4 ?k5 ?k6 ?k7 ?k8 ?k9 ?kp ?_; (case p1 => omega); (case p2 => omega); (case k1 => k_asm); (case k2 => k_asm); (case k3 => k_asm); (case k4 => k_asm); (case k5 => k_asm); (case k6 => first | exact rfl | assumption); (case k7 => ktr_room); (case k8 => ktr_units); (case k9 => (intro _ h9; cases h9)); (case kp => trivial); intro l' ys' n' h' tk' F' N' l1 hI'; (try dsimp only); (try k_fold))))
  exact True.intro
local macro_rules | `(tactic| walk_at "call ref") => `(tactic| k_extra "g0r6")
theorem fm256 (n : Int) : n.fmod 256 = n % 256 := Int.fmod_eq_emod_of_nonneg n (by decide)
theorem fm128 (n : Int) : n.fmod 128 = n % 128 := Int.fmod_eq_emod_of_nonneg n (by decide)
theorem lab_w1 {n : Int} (h : 127 < n.fmod 256) (h2 : n.fmod 128 < 32) : Str.ofString "!^" ++ ⟨#[(n.fmod 128 + 64).toNat]⟩ = lab n := by
  rw [fm256] at h; rw [fm128] at h2 ⊢
  unfold lab lab7; rw [if_pos (by omega), if_pos h2, ← Str.append_assoc]; rfl
theorem lab_w2 {n : Int} (h : 127 < n.fmod 256) (h2 : ¬ n.fmod 128 < 32) : Str.ofString "!" ++ ⟨#[(n.fmod 128).toNat]⟩ = lab n := by
  rw [fm256] at h; rw [fm128] at h2 ⊢
  unfold lab lab7; rw [if_pos (by omega), if_neg h2]
theorem lab_w3 {n : Int} (h : ¬ 127 < n.fmod 256) (h2 : n.fmod 128 < 32) : Str.ofString "^" ++ ⟨#[(n.fmod 128 + 64).toNat]⟩ = lab n := by
  rw [fm256] at h; rw [fm128] at h2 ⊢
  unfold lab lab7; rw [if_neg (by omega), if_pos h2]
theorem lab_w4 {n : Int} (h : ¬ 127 < n.fmod 256) (h2 : ¬ n.fmod 128 < 32) : Str.ofString "" ++ ⟨#[(n.fmod 128).toNat]⟩ = lab n := by
  rw [fm256] at h; rw [fm128] at h2 ⊢
  unfold lab lab7; rw [if_neg (by omega), if_neg h2]; exact Str.empty_append _
theorem wr_state {l : List Str} {pre : List Int} {n : Int} {X : Str} (h1 : l.length = pre.length) (h2 : l = pre.map lab) (hx : X = lab n) : (l ++ [X]).length = (pre ++ [n]).length ∧ l ++ [X] = (pre ++ [n]).map lab := by
  subst hx h2; simp
theorem c_written (w : World) (n z : Int) (t t' : Tok) (h1 : 1 ≤ z) (h4 : z ≤ 4) : Ctr w 20 145 [.int n t, .int z t'] [] (fun _ => True) (RStrs ((rangeKs 1 z.toNat).map fun k => lab (code n k))) := by
  unfold Ctr
  k_fill
  intro loose mean mg mb dp un gd cn cs a ccd cl outer A₀ base h₀ L m hp gens drawn tk os Q E hB hF hN hX hT hk hdp hun hpre hret
  refine wpAny_call ?_
  k_dflt cell_enter
  have hl4 : ((rangeKs 1 z.toNat).map (code n)).length ≤ 4 := by rw [List.length_map, rangeKs_length]; omega
  k_with "pyIter ref" => k_state (fun pre labels => labels.length = pre.length ∧ labels = pre.map lab) "labels$"
  k_with "state" => (first | exact ⟨rfl, rfl⟩ | exact wr_state (by assumption) (by assumption) (by first | exact lab_w1 (by assumption) (by assumption) | exact lab_w2 (by assumption) (by assumption) | exact lab_w3 (by assumption) (by assumption) | exact lab_w4 (by assumption) (by assumption)))
  k_steps
  all_goals refine ends_strs hret (by assumption) (by k_asm) (by k_asm) (by k_mem) (by intro _ h9; cases h9) (by intro _ h9; cases h9) ?_
  all_goals (rename StrsAre _ _ => hS9; rename _ = List.map lab (List.map (code n) (rangeKs 1 z.toNat)) => hE9; rw [hE9, List.map_map] at hS9; exact hS9)
end
section
def pows : List Int := [1, 1, 2, 2, 4, 4, 4, 4, 8, 8, 8, 8, 8, 8, 8, 8]
theorem c_powers (w : World) : Ctr w 10 118 [] [] (fun _ => True) (RInts pows) := by
  unfold Ctr
  k_fill
  intro loose mean mg mb dp un gd cn cs a ccd cl outer A₀ base h₀ L m hp gens drawn tk os Q E hB hF hN hX hT hk hdp hun hpre hret
  refine wpAny_call ?_
  k_dflt cell_enter
  k_steps
  all_goals refine ends_ints (ys := [_, _, _, _, _, _, _, _, _, _, _, _, _, _, _, _]) hret (by assumption) (by k_asm) (by k_asm) (by k_mem) (by intro _ h9; cases h9) (by intro _ h9; cases h9) ?_
  all_goals (repeat' (first | exact IntsAre.nil | refine IntsAre.cons _ _ ?_))
end
end
section
local macro_rules | `(tactic| walk_at "mine idle") => `(tactic| fail "idle")
local macro_rules | `(tactic| walk_at "mine idle") => `(tactic| fail "idle")
local macro_rules | `(tactic| walk_at "mine idle") => `(tactic| fail "idle")
local macro_rules | `(tactic| walk_at "mine idle") => `(tactic| fail "idle")
theorem ly8 : True := by
  k_with_none
  w_top off
  k_with "hd0" => (
    ktr_room)
  k_with "hd1" => (
    first
  | (refine' in_plain ?k1 ?k2 ?k4 ?k3 ?k5 ?kA ?kF ?kK ?k6 ?k7 ?k8 ?k9 ?kB ?_ ?c2 ?c3 ?c4 ?c5; (case kA => exact rfl); (case kF => exact rfl); (case kK => assumption); (case k1 => k_asm); (case k2 => k_asm); (case k3 => k_asm); (case k4 => assumption); (case k5 => k_asm); (case k6 => k_is); (case k7 => k_is); (case k8 => ktr_room); (case k9 => exact BindsTo.of_eq rfl); (case c5 => decide); (case kB => exact locs rfl); (case c2 => exact rfl); (case c3 => exact rfl); (case c4 => exact rfl); k_whole; intro g' L' h' hHid hSt F' N' B' X' T' l1; (try k_lt l1); (try dsimp only); (try k_lift B'); (try k_fold))
  | (refine' in_cells ?k1 ?k2 ?k4 ?k3 ?k5 ?kA ?kF ?kK ?k6 ?k7 ?k8 ?k9 ?kB ?kD ?_ ?c2 ?c3 ?c4; (case kA => exact rfl); (case kF => exact rfl); (case kK => assumption); (case k1 => k_asm); (case k2 => k_asm); (case k3 => k_asm); (case k4 => assumption); (case k5 => k_asm); (case k6 => k_is); (case k7 => k_is); (case k8 => ktr_room); (case k9 => exact BindsTo.of_eq rfl); (case kB => exact rfl); (case kD => decide +kernel); (case c2 => exact rfl); (case c3 => exact rfl); (case c4 => exact rfl); k_whole; intro g' L' h' tk' cells' hHid hSt F' N' Y' B' X' T' l1; (try k_lt l1); k_cells Y'; (try simp only [List.cons_append, List.nil_append] at N'); (try dsimp only); (try k_lift B'); (try k_fold)))
  k_with "hd2" => (
    (refine mem_of ?_; with_reducible assumption))
  k_with "hd3" => (
    first | with_reducible assumption | exact all_lt_ne (by with_reducible assumption) | (refine' all_ne_cons ?a ?b; (case a => k_ne); (case b => k_all)))
  k_with "hd4" => (
    first | with_reducible assumption | exact ne_of_ne' (by with_reducible assumption) | (refine' ne_off ?h ?m; (case h => with_reducible assumption); (case m => k_mem)) | (refine' ne_off' ?h ?m; (case h => with_reducible assumption); (case m => k_mem)) | (refine' ne_offlt ?h ?m; (case h => with_reducible assumption); (case m => k_mem)) | (refine' ne_offlt' ?h ?m; (case h => with_reducible assumption); (case m => k_mem)) | (refine neN ?_; dsimp only; first | with_reducible assumption | exact ne_of_ne' (by with_reducible assumption) | (refine' ne_off ?h ?m; (case h => with_reducible assumption); (case m => k_mem)) | (refine' ne_off' ?h ?m; (case h => with_reducible assumption); (case m => k_mem)) | (refine' ne_offlt ?h ?m; (case h => with_reducible assumption); (case m => k_mem)) | (refine' ne_offlt' ?h ?m; (case h => with_reducible assumption); (case m => k_mem)) | omega) | (refine neN ?_; omega))
  exact True.intro
section
theorem getD_some {xs : List Int} {k : Int} (h : k.toNat < xs.length) : xs[k.toNat]? = some (xs.getD k.toNat 0) := by
  rw [List.getD_eq_getElem?_getD, List.getElem?_eq_getElem h]; rfl
section
variable {prog : Program} {w : World} {A : Around} {E : Value → Shared → Prop} {s : Shared} {h₀ : Heap} {L l : Addr} {m : Str → Option Value} {full : List (Addr × Obj)} {vs ys : List Value} {ns xs : List Int} {lo hi st : Option Int} {Q : Value → Shared → Prop} {n n9 : Nat} {k a9 : Int} {u : Tok} {value slice : PySem.Expr}
theorem sum_pick (hh : A.handled = none) (F : Fr h₀ L s.heap m) (N : News h₀ L s.heap full) (hm : (l, ({ cls := .type "list", data := .seq (slicePick vs.toArray lo hi st) } : Obj)) ∈ full) (hI : IntsAre vs ns)
    (h : ∀ h' tk t', Fr h₀ L h' m → News h₀ L h' full → Q (.int (pickNums ns lo hi st).sum t') { s with heap := h', toks := tk }) : wpAny (model prog w) A (call (.builtin "sum") [.ref l]) Q E s :=
  sumK (vs := (slicePick vs.toArray lo hi st).toList) hh F N ⟨_, (N _ hm).1, rfl, 0, rfl⟩ (IntsAre.pick hI lo hi st) h
/-- an item at a range's letter -/
theorem item_up (N : News h₀ L s.heap full) (hm : (l, W.listOf ys.toArray n) ∈ full) (hi : IntsAre ys xs) (h0 : a9 ≤ k) (hk : k < a9 + (n9 : Int)) (ha : decide (0 ≤ a9 ∧ a9.toNat + n9 < 2 ^ 62) = true) (hl : a9.toNat + n9 ≤ xs.length) (h : ∀ t, Q (.int (xs.getD k.toNat 0) t) s)
    (hs : subscripted slice false (.ref l) (.int k u) = operate [.ref l, .int k u] (getItem (.ref l) (.int k u)) := by with_unfolding_all rfl) :
    wpAny (model prog w) A (subscriptTail value slice (.ref l) (.int k u)) Q E s := by
  have ha := of_decide_eq_true ha
  refine item_ints N hm hi (by omega) (by omega) (getD_some (by omega)) h hs
/-- the next item -/
theorem item_up1 (N : News h₀ L s.heap full) (hm : (l, W.listOf ys.toArray n) ∈ full) (hi : IntsAre ys xs) (h0 : a9 ≤ k) (hk : k < a9 + (n9 : Int)) (ha : decide (0 ≤ a9 ∧ a9.toNat + n9 < 2 ^ 62) = true) (hl : a9.toNat + n9 + 1 ≤ xs.length) (h : ∀ t, Q (.int (xs.getD (k + 1).toNat 0) t) s)
    (hs : subscripted slice false (.ref l) (.int (k + 1) u) = operate [.ref l, .int (k + 1) u] (getItem (.ref l) (.int (k + 1) u)) := by with_unfolding_all rfl) :
    wpAny (model prog w) A (subscriptTail value slice (.ref l) (.int (k + 1) u)) Q E s := by
  have ha := of_decide_eq_true ha
  refine item_ints N hm hi (by omega) (by omega) (getD_some (by omega)) h hs
/-- an item at a written place -/
theorem item_lit (N : News h₀ L s.heap full) (hm : (l, W.listOf ys.toArray n) ∈ full) (hi : IntsAre ys xs) (ha : decide (0 ≤ k ∧ k < 2 ^ 62) = true) (hl : k.toNat + 1 ≤ xs.length) (h : ∀ t, Q (.int (xs.getD k.toNat 0) t) s)
    (hs : subscripted slice false (.ref l) (.int k u) = operate [.ref l, .int k u] (getItem (.ref l) (.int k u)) := by with_unfolding_all rfl) :
    wpAny (model prog w) A (subscriptTail value slice (.ref l) (.int k u)) Q E s := by
  have ha := of_decide_eq_true ha
  refine item_ints N hm hi (by omega) (by omega) (getD_some (by omega)) h hs
end
theorem pows_fits {a k : Int} (h0 : 0 ≤ k) (h : k < 16) : IntMulOk a (pows.getD k.toNat 0) := by
  have : ∀ j : Nat, j < 16 → -(2 ^ 64 : Int) < pows.getD j 0 ∧ pows.getD j 0 < 2 ^ 64 := by decide
  have := this k.toNat (by omega)
  exact IntMulOk.of_right (intBits_le_64 this.1 this.2)
end
section
/-- the end of a turn of a loop: what holds between the turns holds again -/
def TurnJ (h₀ : Heap) (L : Addr) (s : Shared) (I : Addr) (oI : Obj) (J : (Str → Option Value) → List (Addr × Obj) → Prop) (Q : Flow → Shared → Prop) (f : Flow) (s₂ : Shared) : Prop :=
  match f with
  | .ret v => Q (.ret v) s₂
  | .brk => Q .next s₂
  | _ => ∃ h' tk' m' news', s₂ = { s with heap := h', toks := tk' } ∧ Fr h₀ L h' m' ∧ News h₀ L h' ((I, oI) :: news') ∧ (∀ p ∈ news', p.1 ≠ I) ∧ J m' news'
theorem turnJ_next {h₀ h' : Heap} {L I : Addr} {s : Shared} {oI : Obj} {J : (Str → Option Value) → List (Addr × Obj) → Prop} {Q : Flow → Shared → Prop} {m' : Str → Option Value} {all news' : List (Addr × Obj)} {tk' : Nat} (F : Fr h₀ L h' m') (N : News h₀ L h' all) (sub : ∀ p ∈ (I, oI) :: news', p ∈ all) (off : ∀ p ∈ news', p.1 ≠ I) (hJ : J m' news') :
    TurnJ h₀ L s I oI J Q .next { s with heap := h', toks := tk' } := ⟨h', tk', m', news', rfl, F, fun p hp => N p (sub p hp), off, hJ⟩
section
variable {prog : Program} {w : World} {A : Around} {E : Value → Shared → Prop} {s : Shared} {env : Env} {h₀ : Heap} {target : Expr} {body : List Stmt} {Q : Flow → Shared → Prop}
theorem range_turns {r : Addr} {a₀ b₀ : Int} {t₀ u₀ v₀ : Tok} {n : Nat} {m₀ : Str → Option Value} {news : List (Addr × Obj)} (J : Nat → (Str → Option Value) → List (Addr × Obj) → Prop)
    (hh : A.handled = none) (hr : IsRange s.heap r a₀ b₀ 1 t₀ u₀ v₀) (hsmall : Builtin.Range.small a₀ b₀ 1 = true) (hn : Builtin.Range.rangeSize a₀ b₀ 1 = (n : Int)) (F : Fr h₀ env.locals s.heap m₀) (N : News h₀ env.locals s.heap news) (h0 : J 0 m₀ news)
    (ht : ∀ v, letOwnedTupleGo target (.ref s.heap.objs.size) v = pure ())
    (turn : ∀ i t m₁ news₁ h tk I oI, i < n → J i m₁ news₁ → Fr h₀ env.locals h m₁ → News h₀ env.locals h ((I, oI) :: news₁) → (∀ p ∈ news₁, p.1 ≠ I) →
      wpAny (model prog w) A (assign target env (.int (a₀ + (i : Int)) t)) (fun _ s₃ => wpAny (model prog w) A (execs body env) (TurnJ h₀ env.locals { s with heap := h, toks := tk } I oI (J (i + 1)) Q) E s₃) E { s with heap := h, toks := tk })
    (done : ∀ m' news' h tk, J n m' news' → Fr h₀ env.locals h m' → News h₀ env.locals h news' → Q .next { s with heap := h, toks := tk }) :
    wpAny (model prog w) A (pyIter (.ref r)) (fun it s₂ => TurnsAt prog w A h₀ env target body Q E it s₂) E s := by
  refine wpAny_pyIter_range hr hsmall ?_
  have W : Walks prog w A s.heap.objs.size [s.heap.objs.size] [s.heap.objs.size] n (fun i v => i < n ∧ ∃ t, v = .int (a₀ + i * 1) t)
      (fun i h => IsRangeIter h s.heap.objs.size (a₀ + (i : Nat) * 1) ((n : Int) - (i : Nat)) 1) := (Walks.range hh _ a₀ 1 n).bound
  have hIL : env.locals ≠ s.heap.objs.size := Nat.ne_of_lt F.ns.lt
  have hI₀ : h₀.get? s.heap.objs.size = none := next_is_new F
  have hW := KTurns.ofWalks (target := target) W (fun _ v s' Q' E' _ q => by rw [ht v]; exact wpAny_pure q)
  refine ⟨s.heap.objs.size, [s.heap.objs.size], [s.heap.objs.size], n, _, _, _, m₀, news, J, rfl, hW, ?_, fun b hb => by rw [List.mem_singleton.mp hb]; exact hI₀,
    fun p hp hm => Nat.lt_irrefl _ ((List.mem_singleton.mp hm) ▸ Heap.lt_size (N p hp).1), by show IsRangeIter _ _ _ _ _; rw [hn]; simpa using Heap.get?_push_size _ rfl, F.push _, fun p hp => ⟨Heap.get?_push_of_some _ (N p hp).1, (N p hp).2⟩, h0, ?_, ?_⟩
  · simpa using hIL
  · intro i v m₁ news₁ h₁ tk₁ own hi hP hJ hoff hown hget hall hst F₁ N₁
    obtain ⟨_, t, rfl⟩ := hP
    obtain ⟨oI, heI⟩ : ∃ o, h₁.get? s.heap.objs.size = some o := ⟨_, hst⟩
    have hoff' : ∀ p ∈ news₁, p.1 ≠ s.heap.objs.size := fun p hp => by simpa using hoff p hp
    have N₂ : News h₀ env.locals h₁ ((s.heap.objs.size, oI) :: news₁) := fun p hp => by
      rcases List.mem_cons.mp hp with rfl | hp
      · exact ⟨heI, Ne.symm hIL, hI₀⟩
      · exact N₁ p (List.mem_append_right _ hp)
    have e1 : a₀ + (i : Int) * 1 = a₀ + (i : Int) := by rw [Int.mul_one]
    rw [e1]
    refine wpAny_mono (turn i t m₁ news₁ h₁ tk₁ _ oI hi hJ F₁ N₂ hoff') (fun _ s₃ h₃ => wpAny_mono h₃ (fun f s₄ h₄ => ?_) fun _ _ e => e) fun _ _ e => e
    have fin : (∃ h' tk' m' news', s₄ = { s with heap := h', toks := tk' } ∧ Fr h₀ env.locals h' m' ∧ News h₀ env.locals h' ((s.heap.objs.size, oI) :: news') ∧ (∀ p ∈ news', p.1 ≠ s.heap.objs.size) ∧ J (i + 1) m' news') →
        LoopStepU h₀ env.locals [s.heap.objs.size] own (J (i + 1)) { s with heap := h₁, toks := tk₁ } .next s₄ := by
      rintro ⟨h', tk', m', news', rfl, F', N', off', hJ'⟩
      refine ⟨rfl, h', tk', m', news', rfl, F', ?_, fun p hp => by simpa using off' p hp, hJ'⟩
      intro p hp
      rcases List.mem_append.mp hp with hp | hp
      · have q1 : p.1 = s.heap.objs.size := by simpa using hown p hp
        have q2 := hget p hp
        rw [q1, heI] at q2
        have q3 : p = (s.heap.objs.size, oI) := Prod.ext q1 (Option.some.inj q2).symm
        rw [q3]
        exact N' _ List.mem_cons_self
      · exact N' p (List.mem_cons_of_mem _ hp)
    cases f with
    | ret v => exact .ret h₄
    | brk => exact .brk h₄
    | next => exact .next (fin h₄)
    | cont => exact .cont (fin h₄)
  · intro h' tk m' news' F' N' _ hJ
    exact done m' news' h' tk hJ F' N'
end
end
/-- one turn of the wheels -/
def stepW (xs : List Int) : List Int := (rangeKs 0 8).map (fun k => xs.getD k.toNat 0 + xs.getD (k + 1).toNat 0) ++ [xs.getD 8 0]
theorem stepW_length (xs : List Int) : (stepW xs).length = 9 := by simp [stepW, rangeKs_length]
theorem le_nine {k : Nat} {xs : List Int} (h : xs.length = 9) (hk : decide (k ≤ 9) = true) : k ≤ xs.length := by rw [h]; exact of_decide_eq_true hk
def turnW : Nat → List Int → List Int
  | 0, xs => xs
  | n + 1, xs => stepW (turnW n xs)
def rowOf (xs : List Int) : List Int := (List.range 16).map fun n => (turnW n xs).getD 0 0
theorem add_rowl {prog : Program} {w : World} {A : Around} {E : Value → Shared → Prop} {s : Shared} {h₀ : Heap} {L a b : Addr} {m : Str → Option Value} {full : List (Addr × Obj)} {ys zs : List Value} {xs vs : List Int} {Q : Value → Shared → Prop} {n1 n2 : Nat} (F : Fr h₀ L s.heap m) (N : News h₀ L s.heap full) (ha : (a, W.listOf ys.toArray n1) ∈ full) (hb : (b, W.listOf zs.toArray n2) ∈ full) (hi : IntsAre ys xs) (hj : IntsAre zs vs) (hn : decide (xs.length + vs.length ≤ 1000) = true)
    (h : ∀ D us h', Fr h₀ L h' m → News h₀ L h' ((D, W.listOf (List.toArray us) 0) :: full) → (∀ p ∈ full, p.1 < D) → IntsAre us (xs ++ vs) → Q (.ref D) { s with heap := h' }) : wpAny (model prog w) A (binaryOp .Add (.ref a) (.ref b)) Q E s := by
  have hn := of_decide_eq_true hn
  exact kmk_add_ints F N ⟨_, (N _ ha).1, rfl, n1, rfl⟩ ⟨_, (N _ hb).1, rfl, n2, rfl⟩ hi hj h (by have := sizeLine_eq; omega)
theorem append_row {prog : Program} {w : World} {A : Around} {E : Value → Shared → Prop} {s : Shared} {h₀ : Heap} {L D : Addr} {m : Str → Option Value} {news news' : List (Addr × Obj)} {ys : List Value} {xs : List Int} {x : Value} {Q : Value → Shared → Prop} {n : Nat} (F : Fr h₀ L s.heap m) (N : News h₀ L s.heap news) (U : Upd D (W.listOf ys.toArray n) (W.listOf (ys ++ [x]).toArray (n + 1)) news news') (hi : IntsAre ys xs) (hl : xs.length ≤ 1000)
    (h : ∀ h', Fr h₀ L h' m → News h₀ L h' news' → Q .none { s with heap := h' }) : wpAny (model prog w) A (call (.builtin "list.append") [.ref D, x]) Q E s := by
  have e : (ys ++ [x]).toArray = ys.toArray.push x := by simp
  rw [e] at U
  exact append_K F N U h (by rw [List.size_toArray, hi.length]; have := sizeLine_eq; omega)
theorem ly7 : True := by
  k_with "g1r0" => (
    (k_here; k_dflt (refine' add_rowl (zs := [_]) ?k1 ?k2 ?k3 ?k4 ?k5 ?k6 ?k7 ?_; (case k1 => k_asm); (case k2 => k_asm); (case k3 => k_mem); (case k4 => k_mem); (case k5 => assumption); (case k6 => exact IntsAre.cons _ _ .nil); (case k7 => rfl); intro D' us' h' F' N' l1 hI'; (try dsimp only))))
  k_with "g1r1" => (
    (k_here; k_dflt (refine' item_up ?k1 ?k2 ?k3 ?kh ?kk ?ka ?kl ?_ ?k7; (case k1 => k_asm); (case k2 => k_mem); (case k3 => assumption); (case kh => assumption); (case kk => assumption); (case ka => decide); (case kl => exact le_nine (by assumption) (by decide)); (case k7 => with_unfolding_all rfl); intro t')))
  k_with "g1r2" => (
    (k_here; k_dflt (refine' item_up1 ?k1 ?k2 ?k3 ?kh ?kk ?ka ?kl ?_ ?k7; (case k1 => k_asm); (case k2 => k_mem); (case k3 => assumption); (case kh => assumption); (case kk => assumption); (case ka => decide); (case kl => exact le_nine (by assumption) (by decide)); (case k7 => with_unfolding_all rfl); intro t')))
  k_with "g1r3" => (
    (k_here; k_dflt (refine' item_lit ?k1 ?k2 ?k3 ?ka ?kl ?_ ?k7; (case k1 => k_asm); (case k2 => k_mem); (case k3 => assumption); (case ka => decide); (case kl => exact le_nine (by assumption) (by decide)); (case k7 => with_unfolding_all rfl); intro t')))
  k_with "g1r4" => (
    (k_here; (with_reducible show wpAny _ _ (call (Value.builtin _) [Value.ref _, _]) _ _ _); k_dflt (refine' append_row ?k1 ?k2 ?k3 ?k4 ?k5 ?_; (case k1 => k_asm); (case k2 => k_asm); (case k3 => k_upd); (case k4 => assumption); (case k5 => assumption); intro h' F' N'; (try dsimp only))))
  exact True.intro
local macro_rules | `(tactic| walk_at "binaryOp Add ref ref") => `(tactic| k_extra "g1r0")
local macro_rules | `(tactic| walk_at "subscriptTail Name Name ref int") => `(tactic| k_extra "g1r1")
local macro_rules | `(tactic| walk_at "subscriptTail Name BinOp ref int") => `(tactic| k_extra "g1r2")
local macro_rules | `(tactic| walk_at "subscriptTail Name Constant ref int") => `(tactic| k_extra "g1r3")
local macro_rules | `(tactic| walk_at "call builtin:list.append") => `(tactic| k_extra "g1r4")
/-- what a row has taken in before the i-th turn -/
def rowTo (ws : List Int) (i : Nat) : List Int := (List.range i).map fun n => (turnW n ws).getD 0 0
theorem rowTo_succ (ws : List Int) (i : Nat) : rowTo ws (i + 1) = rowTo ws i ++ [(turnW i ws).getD (Int.toNat 0) 0] := by
  unfold rowTo; rw [List.range_succ, List.map_append]; rfl
theorem turnW_nine {ws : List Int} (h : ws.length = 9) : ∀ n, (turnW n ws).length = 9
  | 0 => h
  | n + 1 => stepW_length _
structure RowJ (L' l : Addr) (ys : List Value) (n : Nat) (ws : List Int) (i : Nat) (m : Str → Option Value) (news : List (Addr × Obj)) (lw lr : Addr) (yw yr : List Value) (nw nr : Nat) (oC : Obj) (rest : List (Addr × Obj)) : Prop where
  eq : news = (lr, W.listOf yr.toArray nr) :: (L' + 1, oC) :: rest
  row : m (Str.ofString "row") = some (.ref lr)
  cell : oC.data = .cell (some (.ref lw))
  wh : (lw, W.listOf yw.toArray nw) ∈ rest
  given : (l, W.listOf ys.toArray n) ∈ rest
  hw : IntsAre yw (turnW i ws)
  hr : IntsAre yr (rowTo ws i)
  off1 : ∀ p ∈ rest, p.1 ≠ lr
  off2 : ∀ p ∈ rest, p.1 ≠ L' + 1
  ne : @Ne Nat (L' + 1) lr
theorem c_row (w : World) (l : Addr) (ys : List Value) (n : Nat) (ws : List Int) (hI : IntsAre ys ws) (hws : ws.length = 9) : Ctr w 20 128 [.ref l] [(l, W.listOf ys.toArray n)] (fun _ => True) (RInts (rowOf ws)) := by
  unfold Ctr
  k_fill
  intro loose mean mg mb dp un gd cn cs a ccd cl outer A₀ base h₀ L m hp gens drawn tk os Q E hB hF hN hX hT hk hdp hun hpre hret
  refine wpAny_call ?_
  k_dflt cell_enter
  rename_i o1 d1
  have hlL : @Ne Nat l (L' + 1) := Nat.ne_of_lt (Nat.lt_succ_of_lt (l1 _ (.head _)))
  iterate 8 (first | (k_unfold; (try dsimp only)) | walk1 | (dsimp only; walk1))
  refine For_turns (by k_asm) ?_ (by intro _; rfl) (by passes_own)
  k_steps
  rename_i lr h2 lt2 h2b F2 N2 h3 tk4 t3 u3 v3 hR F3 N3 hk3
  refine range_turns (n := 16) (J := fun i m news => ∃ lw lr yw yr nw nr oC rest, RowJ L' l ys n ws i m news lw lr yw yr nw nr oC rest) rfl hR (by decide) (by decide) F3 N3 ⟨l, lr, ys, [], n, 0, o1, [(l, W.listOf ys.toArray n)], rfl, rfl, d1, .head _, .head _, hI, .nil, by k_all, by k_all, by k_ne⟩ (by intro _; rfl) ?turn ?done
  case turn =>
    intro i t m₁ news₁ h' tk' I' oI' hi hJ F' N' hoff
    obtain ⟨lw, lr, yw, yr, nw, nr, oC, rest, rfl, hrow, hcell, hwh, hgiven, hw, hr, off1, off2, hne⟩ := hJ
    have F' := Fr_one F' hrow
    have hI1 := hoff _ (.head _)
    have hI2 := hoff _ (.tail _ (.head _))
    have hIr : ∀ p ∈ rest, p.1 ≠ I' := fun p hp => hoff p (.tail _ (.tail _ hp))
    have hl9 := turnW_nine hws i
    have hlr : (rowTo ws i).length ≤ 1000 := by unfold rowTo; rw [List.length_map, List.length_range]; omega
    refine wpAny_assign_Name ?_
    (try k_fold)
    k_steps
    rename_i h10 o9 F9 N9 d9
    have hI9 : IntsAre us' (turnW (i + 1) ws) := hI'
    exact turnJ_next (news' := (lr, W.listOf (yr ++ [_]).toArray (nr + 1)) :: (L' + 1, o9) :: (D', W.listOf us'.toArray 0) :: rest) F9 N9
      (sub_cons (by k_mem) (sub_cons (by k_mem) (sub_cons (by k_mem) (sub_cons (by k_mem) fun _ hp => .tail _ (.tail _ (.tail _ (.tail _ (.tail _ (.tail _ hp)))))))))
      (by k_all)
      ⟨D', lr, us', yr ++ [_], 0, nr + 1, o9, (D', W.listOf us'.toArray 0) :: rest, rfl, rfl, d9, .head _, .tail _ hgiven, hI9, by rw [rowTo_succ]; exact hr.append (.cons _ _ .nil), by k_all, by k_all, hne⟩
  case done =>
    intro m' news' h' tk' hJ F' N'
    obtain ⟨lw, lr, yw, yr, nw, nr, oC, rest, rfl, hrow, hcell, hwh, hgiven, hw, hr, off1, off2, hne⟩ := hJ
    have F' := Fr_one F' hrow
    (try dsimp only)
    k_steps
    all_goals exact ends_ints hret (by assumption) (by k_asm) (by k_asm) (by k_mem) (sub_cons (.tail _ (.tail _ hgiven)) (List.forall_mem_nil _)) (all_ne_cons (off1 _ hgiven) (List.forall_mem_nil _)) hr
end
section
theorem ly10 : True := by
  k_with_none
  w_top off
  k_with "hd0" => (
    ktr_room)
  k_with "hd1" => (
    first
  | (refine' in_plain ?k1 ?k2 ?k4 ?k3 ?k5 ?kA ?kF ?kK ?k6 ?k7 ?k8 ?k9 ?kB ?_ ?c2 ?c3 ?c4 ?c5; (case kA => exact rfl); (case kF => exact rfl); (case kK => assumption); (case k1 => k_asm); (case k2 => k_asm); (case k3 => k_asm); (case k4 => assumption); (case k5 => k_asm); (case k6 => k_is); (case k7 => k_is); (case k8 => ktr_room); (case k9 => exact BindsTo.of_eq rfl); (case c5 => decide); (case kB => exact locs rfl); (case c2 => exact rfl); (case c3 => exact rfl); (case c4 => exact rfl); k_whole; intro g' L' h' hHid hSt F' N' B' X' T' l1; (try k_lt l1); (try dsimp only); (try k_lift B'); (try k_fold))
  | (refine' in_cells ?k1 ?k2 ?k4 ?k3 ?k5 ?kA ?kF ?kK ?k6 ?k7 ?k8 ?k9 ?kB ?kD ?_ ?c2 ?c3 ?c4; (case kA => exact rfl); (case kF => exact rfl); (case kK => assumption); (case k1 => k_asm); (case k2 => k_asm); (case k3 => k_asm); (case k4 => assumption); (case k5 => k_asm); (case k6 => k_is); (case k7 => k_is); (case k8 => ktr_room); (case k9 => exact BindsTo.of_eq rfl); (case kB => exact rfl); (case kD => decide +kernel); (case c2 => exact rfl); (case c3 => exact rfl); (case c4 => exact rfl); k_whole; intro g' L' h' tk' cells' hHid hSt F' N' Y' B' X' T' l1; (try k_lt l1); k_cells Y'; (try simp only [List.cons_append, List.nil_append] at N'); (try dsimp only); (try k_lift B'); (try k_fold)))
  k_with "hd2" => (
    (refine mem_of ?_; with_reducible assumption))
  k_with "hd3" => (
    first | with_reducible assumption | exact all_lt_ne (by with_reducible assumption) | (refine' all_ne_cons ?a ?b; (case a => k_ne); (case b => k_all)))
  k_with "hd4" => (
    first | with_reducible assumption | exact ne_of_ne' (by with_reducible assumption) | (refine' ne_off ?h ?m; (case h => with_reducible assumption); (case m => k_mem)) | (refine' ne_off' ?h ?m; (case h => with_reducible assumption); (case m => k_mem)) | (refine' ne_offlt ?h ?m; (case h => with_reducible assumption); (case m => k_mem)) | (refine' ne_offlt' ?h ?m; (case h => with_reducible assumption); (case m => k_mem)) | (refine neN ?_; dsimp only; first | with_reducible assumption | exact ne_of_ne' (by with_reducible assumption) | (refine' ne_off ?h ?m; (case h => with_reducible assumption); (case m => k_mem)) | (refine' ne_off' ?h ?m; (case h => with_reducible assumption); (case m => k_mem)) | (refine' ne_offlt ?h ?m; (case h => with_reducible assumption); (case m => k_mem)) | (refine' ne_offlt' ?h ?m; (case h => with_reducible assumption); (case m => k_mem)) | omega) | (refine neN ?_; omega))
  exact True.intro
section
theorem ly9 : True := by
  k_with "g2r0" => (
    (k_here; k_dflt (refine' sum_pick ?k0 ?k1 ?k2 ?k3 ?k4 ?_; (case k0 => exact rfl); (case k1 => k_asm); (case k2 => k_asm); (case k3 => k_mem); (case k4 => assumption); intro h' tk' t' F' N')))
  k_with "g2r1" => (
    (k_here; (with_reducible show wpAny _ _ (call (Value.ref 118) _ _) _ _ _); k_dflt (refine' use_ints (c_powers _) ?k1 ?k2 ?k3 ?k4 ?k5 ?k6 ?k7 ?k8 ?k9 ?kp ?_; (case k1 => k_asm); (case k2 => k_asm); (case k3 => k_asm); (case k4 => k_asm); (case k5 => k_asm); (case k6 => first | exact rfl | assumption); (case k7 => ktr_room); (case k8 => ktr_units); (case k9 => (intro _ h9; cases h9)); (case kp => trivial); intro l' ys' n' h' tk' F' N' l1 hI'; (try dsimp only); (try k_fold))))
  k_with "g2r2" => (
    exact pows_fits (by assumption) (Int.lt_of_lt_of_le (by assumption) (by decide)))
  k_with "g2r3" => (
    (k_here; k_dflt (refine' item_up ?k1 ?k2 ?k3 ?kh ?kk ?ka ?kl ?_ ?k7; (case k1 => k_asm); (case k2 => k_mem); (case k3 => (first | assumption | (repeat' (first | exact IntsAre.nil | refine IntsAre.cons _ _ ?_)))); (case kh => assumption); (case kk => assumption); (case ka => decide); (case kl => (first | decide | (rw [List.length_map, rangeKs_length]; decide) | (simp only [List.length_map, rangeKs_length, List.length_append, List.length_cons, List.length_nil]; first | decide | omega) | omega)); (case k7 => with_unfolding_all rfl); intro t')))
  k_with "g2r4" => (
    (k_here; k_dflt (refine' item_up ?k1 ?k2 ?k3 ?kh ?kk ?ka ?kl ?_ ?k7; (case k1 => k_asm); (case k2 => k_mem); (case k3 => (first | assumption | (repeat' (first | exact IntsAre.nil | refine IntsAre.cons _ _ ?_)))); (case kh => assumption); (case kk => assumption); (case ka => decide); (case kl => (first | decide | (rw [List.length_map, rangeKs_length]; decide) | (simp only [List.length_map, rangeKs_length, List.length_append, List.length_cons, List.length_nil]; first | decide | omega) | omega)); (case k7 => with_unfolding_all rfl); intro t')))
  k_with "g2r5" => (
    (k_here; k_dflt (refine' item_lit ?k1 ?k2 ?k3 ?ka ?kl ?_ ?k7; (case k1 => k_asm); (case k2 => k_mem); (case k3 => (first | assumption | (repeat' (first | exact IntsAre.nil | refine IntsAre.cons _ _ ?_))));  (case ka => decide); (case kl => (first | decide | (rw [List.length_map, rangeKs_length]; decide) | (simp only [List.length_map, rangeKs_length, List.length_append, List.length_cons, List.length_nil]; first | decide | omega) | omega)); (case k7 => with_unfolding_all rfl); intro t')))
  k_with "g2r6" => (
    (k_here; k_dflt (refine' item_up1 ?k1 ?k2 ?k3 ?kh ?kk ?ka ?kl ?_ ?k7; (case k1 => k_asm); (case k2 => k_mem); (case k3 => (first | assumption | (repeat' (first | exact IntsAre.nil | refine IntsAre.cons _ _ ?_)))); (case kh => assumption); (case kk => assumption); (case ka => decide); (case kl => (first | decide | (rw [List.length_map, rangeKs_length]; decide) | (simp only [List.length_map, rangeKs_length, List.length_append, List.length_cons, List.length_nil]; first | decide | omega) | omega)); (case k7 => with_unfolding_all rfl); intro t')))
  exact True.intro
local macro_rules | `(tactic| walk_at "call builtin:sum") => `(tactic| k_extra "g2r0")
local macro_rules | `(tactic| walk_at "call ref") => `(tactic| k_extra "g2r1")
local macro_rules | `(tactic| mul_fits) => `(tactic| k_extra "g2r2")
local macro_rules | `(tactic| walk_at "subscriptTail Name Name ref int") => `(tactic| k_extra "g2r3")
local macro_rules | `(tactic| walk_at "subscriptTail Call Name nil nil Name ref int") => `(tactic| k_extra "g2r4")
local macro_rules | `(tactic| walk_at "subscriptTail Name Constant ref int") => `(tactic| k_extra "g2r5")
local macro_rules | `(tactic| walk_at "subscriptTail Name BinOp ref int") => `(tactic| k_extra "g2r6")
def RNine (hp : Heap) (r : Value) (h' : Heap) : Prop := ∃ xs : List Int, xs.length = 9 ∧ RInts xs hp r h'
theorem ends_nine {g hp h' : Heap} {L' : Addr} {m' : Str → Option Value} {news news' : List (Addr × Obj)} {gens : Array GenState} {drawn : Drawn} {tk' : Nat} {os : OsState} {Q E : Value → Shared → Prop} {a : Addr} {ys : List Value} {n : Nat} {xs : List Int}
    (hret : ∀ (r : Value) (h' : Heap) (tk' : Nat), hp.StaysIn h' → RNine hp r h' → Q r ⟨h', gens, drawn, tk', os⟩) (H : Hid hp g news) (F' : Fr g L' h' m') (N' : News g L' h' news') (hm : (a, W.listOf ys.toArray n) ∈ news') (hs : ∀ p ∈ news, p ∈ news') (hne : ∀ p ∈ news, p.1 ≠ a) (hi : IntsAre ys xs) (hx : xs.length = 9) :
    CEnd (fun r s' => match r with | .ok (.ret v) => Q v s' | .ok _ => False | .error e => E e s') (.ref a) ⟨h', gens, drawn, tk', os⟩ :=
  ends hret H F' N' hs ⟨xs, hx, _, _, _, rfl, (made H N' hm hne).1, (made H N' hm hne).2, hi⟩
theorem c_wheels (w : World) (l : Addr) (vs : List Value) (ns : List Int) : Ctr w 20 123 [.ref l] [] (fun h => h.IsList l vs.toArray ∧ IntsAre vs ns ∧ ns.length ≤ 63) RNine := by
  unfold Ctr
  k_fill
  intro loose mean mg mb dp un gd cn cs a ccd cl outer A₀ base h₀ L m hp gens drawn tk os Q E hB hF hN hX hT hk hdp hun hpre hret
  obtain ⟨hL, hI, hlen⟩ := hpre
  refine wpAny_call ?_
  k_dflt cell_enter
  have hLg := stays_list (by assumption) hL
  k_steps
  all_goals exact ends_nine hret (by assumption) (by k_asm) (by k_asm) (by k_mem) (by intro _ h9; cases h9) (by intro _ h9; cases h9) (by assumption) (by rw [List.length_map, rangeKs_length]; rfl)
end
end
section
section
theorem orStandIn_led (t : SetTable) (n : Nat) : (t.orStandIn n).led = t.led := by
  unfold SetTable.orStandIn
  split <;> rfl
theorem layNew_led (t : SetTable) (es : Array (Int × Value)) (h : Int) (x : Value) : (layNew t es h x).2.1.led = t.led := by
  unfold layNew
  split
  · exact orStandIn_led _ _
  · rfl
theorem relayAll_led (t : SetTable) (es : Array (Int × Value)) (wanted : Nat) : (relayAll t es wanted).2.1.led = t.led := by
  unfold relayAll
  split
  · rename_i t' order he
    have hl : t'.led = t.led := by
      unfold SetTable.relaid SetTable.laid at he
      cases hc : SetTable.layClean (SetTable.sizeAbove wanted - 1) (es.map (·.1)) with
      | none => rw [hc] at he; cases he
      | some owner => rw [hc] at he; cases he; rfl
    dsimp only
    split
    · exact hl
    · rfl
  · rfl
theorem perm_one {α : Type} {l : List α} {a : α} (h : List.Perm l [a]) : l = [a] := List.perm_singleton.mp h
/-- a set of one text, whose places are led where the world asks for it -/
def OneSet (prog : Program) (w : World) (x : Str) (o : Obj) : Prop :=
  ∃ tok ep t, o.ExactSet ∧ o.data = .set #[((strKind prog w).hash x, .str x tok)] ep t ∧ t.fits 1 = true ∧ t.led = !w.params.followText "set-order"
section
variable {prog : Program} {w : World} {A : Around} {E : Value → Shared → Prop} {s : Shared}
theorem one_store {h : Heap} {a : Addr} {o : Obj} {es : Array (Int × Value)} {ep : Nat} {t t' : SetTable} {x : Str} {tok : Tok} (ho : h.get? a = some o) (hex : o.ExactSet) (hd : o.data = .set es ep t) (hf : t'.fits 1 = true) (hl : t'.led = !w.params.followText "set-order") :
    (h.update a (Obj.putSet #[((strKind prog w).hash x, .str x tok)] t')).get? a = some { o with data := .set #[((strKind prog w).hash x, .str x tok)] (ep + 1) t' } ∧
      OneSet prog w x { o with data := .set #[((strKind prog w).hash x, .str x tok)] (ep + 1) t' } := by
  have hg := Heap.get?_update_self (Obj.putSet #[((strKind prog w).hash x, .str x tok)] t') ho (by rw [putSet_of _ t' hd]; rfl)
  rw [putSet_of _ t' hd] at hg
  exact ⟨hg, tok, ep + 1, t', hex, rfl, hf, hl⟩
theorem add_one {a : Addr} {o : Obj} {ep : Nat} {t : SetTable} {x : Str} {tok : Tok} {Q : Bool → Shared → Prop} (ho : s.heap.get? a = some o) (hex : o.ExactSet) (hd : o.data = .set #[] ep t) (hf : t.fits 0 = true) (hl : t.led = !w.params.followText "set-order")
    (h : ∀ h' o', Heap.SameBut a s.heap h' → h'.get? a = some o' → OneSet prog w x o' → Q true { s with heap := h' }) :
    wpAny (model prog w) A (setAddHashed a (.str x tok) ((strKind prog w).hash x)) Q E s := by
  have hsc : (Value.str x tok).scannable = true := rfl
  have hel : ElemsOf (strKind prog w) (#[] : Array (Int × Value)).toList := fun e he => by simp at he
  unfold setAddHashed setAddHashedIn
  refine wpAny_holding (wpAny_bind (wpAny_setState_of ho hd hf ?_))
  dsimp only
  rw [byScan_of hsc (by decide) hel]
  simp only [↓reduceIte]
  unfold setAddByScan
  refine wpAny_bind ?_
  refine wpAny_bind (wpAny_rule ?_)
  refine wpAny_bind (wpAny_setScan_of (knd := strKind prog w) (strKind_is _ _ _ _) ho hd hf hel ?_)
  dsimp only [List.findIdx?_nil]
  have hgw : ∀ (b : Bool) {s₁ : Shared} {Q' : Unit → Shared → Prop}, Q' () s₁ → wpAny (model prog w) A (match b with | true => rule "set.scan.the-table-gave-way" | false => pure ()) Q' E s₁ :=
    fun b s₁ Q' hq => by cases b <;> first | exact wpAny_pure hq | exact wpAny_rule hq
  have hperm := layNew_perm t #[] ((strKind prog w).hash x) (.str x tok)
  have hfits := layNew_fits t #[] ((strKind prog w).hash x) (.str x tok)
  have hled := layNew_led t #[] ((strKind prog w).hash x) (.str x tok)
  generalize hL : layNew t #[] ((strKind prog w).hash x) (.str x tok) = L at hperm hfits hled ⊢
  obtain ⟨es1, t1, wasDummy, gave⟩ := L
  dsimp only at hperm hfits hled ⊢
  have e1 : es1 = #[((strKind prog w).hash x, .str x tok)] := by
    have := perm_one hperm
    exact Array.ext' this
  subst e1
  rw [hl] at hled
  refine wpAny_bind (hgw _ ?_)
  have tail : ∀ (t2 : SetTable), t2.fits 1 = true → t2.led = (!w.params.followText "set-order") → ∀ (R : Option Bool → Shared → Prop), (∀ h' o', Heap.SameBut a s.heap h' → h'.get? a = some o' → OneSet prog w x o' → R (some true) { s with heap := h' }) →
      wpAny (model prog w) A (do
        storeSet a #[((strKind prog w).hash x, .str x tok)] t2
        if (!wasDummy && t2.tooFull) = true then do
            (match (relayAll t2 #[((strKind prog w).hash x, .str x tok)] (SetTable.grown (#[((strKind prog w).hash x, Value.str x tok)] : Array (Int × Value)).size)).2.2 with | true => rule "set.scan.the-table-gave-way" | false => pure ())
            storeSet a (relayAll t2 #[((strKind prog w).hash x, .str x tok)] (SetTable.grown (#[((strKind prog w).hash x, Value.str x tok)] : Array (Int × Value)).size)).1 (relayAll t2 #[((strKind prog w).hash x, .str x tok)] (SetTable.grown (#[((strKind prog w).hash x, Value.str x tok)] : Array (Int × Value)).size)).2.1
            pure (some true)
          else pure (some true)) R E s := by
    intro t2 hf2 hl2 R hR
    refine wpAny_bind (wpAny_storeSet_of ho hd ?_ (by show 1 ≤ sizeLine; decide))
    obtain ⟨ho1, hS1⟩ := one_store (prog := prog) (w := w) (x := x) (tok := tok) ho hex hd hf2 hl2
    have hsb1 := Heap.SameBut.update s.heap a (Obj.putSet #[((strKind prog w).hash x, .str x tok)] t2)
    split
    · have hp := relayAll_perm t2 #[((strKind prog w).hash x, .str x tok)] (SetTable.grown (#[((strKind prog w).hash x, Value.str x tok)] : Array (Int × Value)).size)
      have hfr := relayAll_fits t2 #[((strKind prog w).hash x, .str x tok)] (SetTable.grown (#[((strKind prog w).hash x, Value.str x tok)] : Array (Int × Value)).size)
      have hlr := relayAll_led t2 #[((strKind prog w).hash x, .str x tok)] (SetTable.grown (#[((strKind prog w).hash x, Value.str x tok)] : Array (Int × Value)).size)
      generalize hRl : relayAll t2 #[((strKind prog w).hash x, .str x tok)] (SetTable.grown (#[((strKind prog w).hash x, Value.str x tok)] : Array (Int × Value)).size) = Rl at hp hfr hlr ⊢
      obtain ⟨es2, t3, gave2⟩ := Rl
      dsimp only at hp hfr hlr ⊢
      have e2 : es2 = #[((strKind prog w).hash x, .str x tok)] := Array.ext' (perm_one hp)
      subst e2
      refine wpAny_bind (hgw _ ?_)
      refine wpAny_bind (wpAny_storeSet_of ho1 rfl ?_ (by show 1 ≤ sizeLine; decide))
      obtain ⟨ho2, hS2⟩ := one_store (prog := prog) (w := w) (x := x) (tok := tok) (t' := t3) ho1 hex rfl hfr (hlr.trans hl2)
      exact wpAny_pure (hR _ _ (hsb1.trans (Heap.SameBut.update _ a _)) ho2 hS2)
    · exact wpAny_pure (hR _ _ hsb1 ho1 hS1)
  split
  · refine wpAny_bind ?_
    rw [hashByValue_scannable 8 hsc]
    refine wpAny_pure ?_
    refine tail _ ?_ ?_ _ fun h' o' hs hg ho' => wpAny_pure (h h' o' hs hg ho')
    · split
      · exact hfits
      · exact SetTable.fits_plain_off hfits
    · split <;> exact hled
  · refine wpAny_bind (wpAny_pure ?_)
    simp only [↓reduceIte]
    exact tail _ hfits hled _ fun h' o' hs hg ho' => wpAny_pure (h h' o' hs hg ho')

theorem one_kept {h h' : Heap} {a : Addr} {x : Str} {o : Obj} (hk : h.get? a = some o → h'.get? a = some o) (hg : h.get? a = some o) (_ : OneSet prog w x o) : h'.get? a = some o := hk hg
section
variable {R : Result → Shared → Prop} {I : Addr} {fp wr : List Addr} {G : Array GenState → Array GenState → Prop} {P : Nat → Value → Prop} {St : Nat → Shared → Prop}
theorem loop_none (W : WalksS prog w A.in1 I fp wr G 1 P St) (S : Addr) {o : Obj} (hSf : S ∉ fp) (s : Shared) (hst : St 1 s) (hS : s.heap.get? S = some o)
    (hR : ∀ s', Moved (S :: wr) G s s' → s'.heap.get? S = some o → R (.ok (.ret .none)) s') : codeAny (model prog w) A (.builtin "set.update.loop" ⟨[.ref S, .ref I], []⟩) R s := by
  have hSw : S ∉ wr := fun h => hSf (W.sub _ h)
  refine codeAny_builtin PyProof.Rows.F.entry_set_update_loop ?_
  rw [Around.under_plainId PyProof.Rows.F.plain_set_update_loop _]
  show wpAny _ A.in1 (pyNext (.ref I) >>= _) _ _ s
  refine wpAny_bind (W.done s _ _ hst fun s' hm => ?_)
  show wpAny _ A.in1 (ret Value.none) _ _ s'
  exact wpAny_pure (hR s' (hm.mono fun b hb => List.mem_cons_of_mem _ hb) (hm.heap S _ hSw hS))
theorem loop_one (W : WalksS prog w A.in1 I fp wr G 1 P St) (S : Addr) {o : Obj} {ep : Nat} {t : SetTable} {x : Str} (hSf : S ∉ fp) (hval : ∀ v, P 0 v → ∃ tok, v = .str x tok)
    (s : Shared) (hst : St 0 s) (hS : s.heap.get? S = some o) (hex : o.ExactSet) (hd : o.data = .set #[] ep t) (hf : t.fits 0 = true) (hl : t.led = !w.params.followText "set-order")
    (hR : ∀ s' o', Moved (S :: wr) G s s' → s'.heap.get? S = some o' → OneSet prog w x o' → R (.ok (.ret .none)) s') : codeAny (model prog w) A (.builtin "set.update.loop" ⟨[.ref S, .ref I], []⟩) R s := by
  have hSw : S ∉ wr := fun h => hSf (W.sub _ h)
  have hsub : ∀ b ∈ wr, b ∈ S :: wr := fun b hb => List.mem_cons_of_mem _ hb
  refine codeAny_builtin PyProof.Rows.F.entry_set_update_loop ?_
  rw [Around.under_plainId PyProof.Rows.F.plain_set_update_loop _]
  show wpAny _ A.in1 (pyNext (.ref I) >>= _) _ _ s
  refine wpAny_bind (W.item 0 s _ _ (by decide) hst fun v s' hP hst' hm => ?_)
  obtain ⟨tok, rfl⟩ := hval v hP
  have hS' : s'.heap.get? S = some o := hm.heap S _ hSw hS
  show wpAny _ A.in1 (holding [Value.str x tok] (setAdd S (.str x tok)) >>= _) _ _ s'
  refine wpAny_bind (wpAny_holding ?_)
  unfold setAdd
  refine wpAny_holding ?_
  refine wpAny_bind ((strKind prog w).pyHash (k := x) (strKind_is _ _ _ _) ?_)
  refine add_one (s := { s' with toks := s'.toks + 1 }) hS' hex hd hf hl fun h' o' hsb hg hO => ?_
  refine wpAny_pure ⟨plainId_quiet PyProof.Rows.F.plain_set_update_loop _, loop_none W S hSf _ (W.frame _ s' _ _ hst' (Nat.le_succ _) fun b hb o e => ?_) hg fun s'' hm'' hg'' => ?_⟩
  · rw [hsb.2 b (fun h : b = S => hSf (by rw [← h]; exact hb))]; exact e
  · refine hR s'' o' (Moved.trans W.gtrans ((hm.mono hsub).then_heap (Nat.le_succ _) fun b o hb e => ?_) hm'') hg'' hO
    rw [hsb.2 b (fun h : b = S => hb (by rw [h]; exact List.mem_cons_self))]; exact e
end
end
end
end
section
section
section
variable {prog : Program} {w : World} {A : Around} {E : Value → Shared → Prop} {s : Shared}
theorem set_new_led (a : Value) {Q₁ : Value → Shared → Prop}
    (h : Q₁ (.ref s.heap.objs.size) { s with heap := s.heap.push { cls := .type "set", dict := none, data := .set #[] 0 (.fresh 0 0 (!w.params.followText "set-order")) } }) :
    codeAny (model prog w) A (.call (.builtin "set.__new__") ⟨[.type "set", a], []⟩) (wants Q₁ E) s := by
  refine codeAny_of_tree ?_
  show wpAny _ A.in1 (do checkBuiltinCall "set.__new__" ⟨[.type "set", a], []⟩; again (.builtin "set.__new__" ⟨[.type "set", a], []⟩)) _ _ s
  refine wpAny_bind (wpAny_of_eq (PySem.F.newCall_set_1 a) (wpAny_pure ⟨plainId_quiet PySem.F.plain_set_new _, codeAny_builtin PySem.F.entry_set_new ?_⟩))
  rw [Around.under_plainId PySem.F.plain_set_new _]
  unfold Builtin.«set.__new__» Builtin.Frozenset.newClass
  have hsub := sub_set_self
  obtain ⟨hp, g, d, tk, os⟩ := s
  dsimp only
  wp_walk
  refine wpAny_askSetting (wpAny_pure ?_)
  dsimp only
  simp only [newObj]
  refine wpAny_bind (wpAny_alloc (wpAny_pure ?_))
  exact wpAny_pure h
set_option maxRecDepth 100000 in
set_option maxHeartbeats 3200000 in
theorem call_set_one {l : Addr} {x : Str} {tok : Tok} {Q : Value → Shared → Prop} (hh : A.handled = none) (hl : s.heap.IsList l #[.str x tok])
    (h : ∀ (h' : Heap) (tk : Nat) (o : Obj), h'.get? s.heap.objs.size = some o → OneSet prog w x o → (∀ b o, b < s.heap.objs.size → s.heap.get? b = some o → h'.get? b = some o) → Q (.ref s.heap.objs.size) { s with heap := h', toks := tk }) :
    wpAny (model prog w) A (call (.type "set") [.ref l]) Q E s := by
  obtain ⟨c, tl, hmro⟩ := PySem.F.called_set.mro
  have hmade := PySem.F.called_set.made
  have hsub := PySem.F.called_set.sub
  refine wpAny_call (codeAny_of_tree ?_)
  show wpAny _ _ (callAny (.type "set") _) _ _ _
  refine wpAny_pure ⟨Code.quiet_builtin _ (by decide +kernel), codeAny_builtin PySem.F.entry_type_call ?_⟩
  rw [Around.under_plain (weight_type_call_type "set" [.ref l] []) rfl]
  have h1 := PySem.F.called_set.notType
  have h2 := PySem.F.called_set.canCreate
  have hct := PySem.F.typeCall_set_1 (.ref l)
  repeat (any_goals (first | assumption | wp_step))
  refine codeAny_mono (set_new_led (.ref l) (E := E) (Q₁ := fun obj s₁ => obj = .ref s.heap.objs.size ∧ s₁ = { s with heap := s.heap.push { cls := .type "set", dict := none, data := .set #[] 0 (.fresh 0 0 (!w.params.followText "set-order")) } }) ⟨rfl, rfl⟩) fun r s₁ hr => ?_
  cases r with
  | error e => exact hr
  | ok fl =>
    cases fl with
    | ret obj =>
      obtain ⟨rfl, rfl⟩ := hr
      have hS : (s.heap.push { cls := .type "set", dict := none, data := .set #[] 0 (.fresh 0 0 (!w.params.followText "set-order")) }).get? s.heap.objs.size = some { cls := .type "set", dict := none, data := .set #[] 0 (.fresh 0 0 (!w.params.followText "set-order")) } := Heap.get?_push_size _ rfl
      have hT : Shared.TypeIs { s with heap := s.heap.push { cls := .type "set", dict := none, data := .set #[] 0 (.fresh 0 0 (!w.params.followText "set-order")) } } (.ref s.heap.objs.size) "set" := ⟨_, hS, rfl⟩
      have hli := PySem.F.called_set.init.lookup
      have hbi := PySem.F.called_set.init.bind (.ref s.heap.objs.size)
      repeat (any_goals (first | assumption | wp_step))
      refine codeAny_mono (codeAny_call_builtin (R := wants (fun r s₂ => r = .none ∧ ∃ h' tk o, s₂ = { s with heap := h', toks := tk } ∧ h'.get? s.heap.objs.size = some o ∧ OneSet prog w x o ∧
          (∀ b o, b < s.heap.objs.size → s.heap.get? b = some o → h'.get? b = some o)) E) PySem.F.called_set.init.plain PySem.F.entry_set_init (check_set_init_1 hT ?_)) fun r₂ s₂ hr₂ => ?_
      · obtain ⟨ol, hol, hcl, nl, hdl⟩ := hl
        obtain ⟨ocls, odict, odata, oslots⟩ := ol
        simp only at hcl hdl
        subst hcl; subst hdl
        have hol' : (s.heap.push { cls := .type "set", dict := none, data := .set #[] 0 (.fresh 0 0 (!w.params.followText "set-order")) }).get? l = some { cls := .type "list", dict := odict, data := .seq #[.str x tok] nl, slots := oslots } := Heap.get?_push_of_some _ hol
        have hsls := PySem.F.sub_list_set
        have hslf := PySem.F.sub_list_frozenset
        have hne : (Value.type "list" == Value.type "dict") = false := by decide
        have hl1 : (s.heap.push { cls := .type "set", dict := none, data := .set #[] 0 (.fresh 0 0 (!w.params.followText "set-order")) }).IsList l #[.str x tok] := ⟨_, hol', rfl, nl, rfl⟩
        unfold Builtin.«set.__init__» noKeywords Builtin.Frozenset.updateFrom
        generalize hPI : pyIter = PI
        wp_walk
        subst hPI
        refine wpAny_pyIter_list hl1 ?_
        refine wpAny_bind (wpAny_runValue ?_)
        have hlS : l < s.heap.objs.size := Heap.lt_size hol
        have hh3 : A.in1.in1.in1.handled = none := by simp [hh]
        have hneI : l ≠ (s.heap.push { cls := .type "set", dict := none, data := .set #[] 0 (.fresh 0 0 (!w.params.followText "set-order")) }).objs.size := by
          rw [Heap.size_push]; exact Nat.ne_of_lt (Nat.lt_succ_of_lt hlS)
        have hSf : s.heap.objs.size ∉ [(s.heap.push { cls := .type "set", dict := none, data := .set #[] 0 (.fresh 0 0 (!w.params.followText "set-order")) }).objs.size, l] := by
          rw [Heap.size_push]; simp only [List.mem_cons, List.mem_singleton, List.not_mem_nil, or_false, not_or]
          exact ⟨Nat.ne_of_lt (Nat.lt_succ_self _), Nat.ne_of_gt hlS⟩
        have hget : ((s.heap.push { cls := .type "set", dict := none, data := .set #[] 0 (.fresh 0 0 (!w.params.followText "set-order")) }).push { cls := .type "list_iterator", data := .fields #[.ref l, .int 0 0] }).get? s.heap.objs.size
            = some { cls := .type "set", dict := none, data := .set #[] 0 (.fresh 0 0 (!w.params.followText "set-order")) } := Heap.get?_push_of_some _ hS
        refine loop_one ((Walks.list hh3 _ l hneI #[.str x tok]).toS) s.heap.objs.size hSf (x := x) (fun v hv => ⟨tok, by simpa using hv.symm⟩) _
          ⟨⟨_, Heap.get?_push_size _ rfl, rfl, rfl⟩, (hl1.push _)⟩ hget ⟨rfl, rfl, rfl⟩ rfl rfl rfl fun s' o' hm hg' hO => ?_
        obtain ⟨h', g', d', tk', os'⟩ := s'
        have eg : g' = s.gens := hm.gens
        have ed : d' = s.drawn := hm.drawn
        have eo : os' = s.os := hm.os
        subst eg; subst ed; subst eo
        show wpAny _ _ _ _ _ _
        refine wpAny_pure ?_
        show wpAny _ _ (ret Value.none) _ _ _
        refine wpAny_pure ⟨rfl, h', tk', o', rfl, hg', hO, fun b o hb e => ?_⟩
        have hb1 : b ≠ s.heap.objs.size := Nat.ne_of_lt hb
        have hb2 : b ≠ (s.heap.push { cls := .type "set", dict := none, data := .set #[] 0 (.fresh 0 0 (!w.params.followText "set-order")) }).objs.size := by
          rw [Heap.size_push]; exact Nat.ne_of_lt (Nat.lt_succ_of_lt hb)
        exact hm.heap b o (by simp only [List.mem_cons, List.mem_singleton, List.not_mem_nil, or_false, not_or]; exact ⟨hb1, hb2⟩) (Heap.get?_push_of_some _ (Heap.get?_push_of_some _ e))
      · cases r₂ with
        | error e => exact hr₂
        | ok fl₂ =>
          cases fl₂ with
          | ret r =>
            obtain ⟨rfl, h', tk, o, rfl, hg', hO, hk'⟩ := hr₂
            repeat (any_goals (first | assumption | wp_step))
            exact h _ _ o hg' hO hk'
          | _ => exact hr₂.elim
    | _ => exact hr.elim
variable {h₀ : Heap} {L l : Addr} {m : Str → Option Value} {news : List (Addr × Obj)} {x : Str} {tok : Tok} {n : Nat}
theorem set_one_K {Q : Value → Shared → Prop} (F : Fr h₀ L s.heap m) (N : News h₀ L s.heap news) (hh : A.handled = none) (hm : (l, W.listOf #[.str x tok] n) ∈ news)
    (h : ∀ D h' (tk : Nat) o, Fr h₀ L h' m → News h₀ L h' ((D, o) :: news) → OneSet prog w x o → (∀ p ∈ news, p.1 < D) → Q (.ref D) { s with heap := h', toks := tk }) :
    wpAny (model prog w) A (call (.type "set") [.ref l]) Q E s := by
  refine call_set_one hh ⟨_, (N _ hm).1, rfl, n, rfl⟩ fun h' tk o hg hO hk => ?_
  obtain ⟨oL, _, _, hL, _⟩ := F.ns
  have hLlt : L < s.heap.objs.size := Heap.lt_size hL
  refine h _ h' tk o ⟨F.ns.at' fun o' e => hk L o' hLlt e, fun b o' e => hk b o' (Heap.lt_size (F.keep b o' e)) (F.keep b o' e), F.above⟩ (fun p hp => ?_) hO fun p hp => Heap.lt_size (N p hp).1
  rcases List.mem_cons.mp hp with rfl | hp
  · refine ⟨hg, Nat.ne_of_gt hLlt, ?_⟩
    cases hq : h₀.get? s.heap.objs.size with
    | none => rfl
    | some o' => exact absurd (Heap.lt_size (F.keep _ _ hq)) (Nat.lt_irrefl _)
  · exact ⟨hk _ _ (Heap.lt_size (N p hp).1) (N p hp).1, (N p hp).2.1, (N p hp).2.2⟩
theorem one_setOf {h : Heap} {a : Addr} {o : Obj} (hg : h.get? a = some o) (hO : OneSet prog w x o) : h.SetOf (strKind prog w) a (fun k => decide (k = x)) 1 := by
  obtain ⟨tok, ep, t, hex, hd, hf, _⟩ := hO
  refine ⟨o, _, ep, t, hg, hex, hd, fun e he => ?_, fun k => ?_, by show 1 < scanBound; decide, hf, rfl⟩
  · simp only [List.mem_singleton] at he
    subst he
    exact ⟨⟨x, strKind_is _ _ _ _, rfl⟩, rfl⟩
  · rw [decide_eq_true_eq]
    constructor
    · rintro rfl
      exact ⟨_, List.mem_singleton.mpr rfl, strKind_is _ _ _ _⟩
    · rintro ⟨e, he, hk⟩
      simp only [List.mem_singleton] at he
      subst he
      exact (strKind prog w).inj _ _ _ hk (strKind_is _ _ _ _)
end
end
end
section
section
theorem slot_setit_next : Slot "set_iterator" "__next__" "set_iterator.__next__" :=
  .of (owner := "set_iterator") (n := "__next__") (by rw [typeLookup_type, builtinLookup_eq_fast]; kernel_rfl) (by decide +kernel) (by decide +kernel) (by decide +kernel)
    (by first | exact .inl (by decide +kernel) | exact .inr (by decide +kernel)) (by rw [isSubtype_type]; kernel_rfl)
theorem entry_setit_next : entryFor table "set_iterator.__next__" = some Builtin.«set_iterator.__next__» := entryFor_of_tree (by kernel_rfl)
theorem args_setit_next (a : Value) : argsOk "set_iterator.__next__" ⟨[a], []⟩ := by unfold argsOk; kernel_rfl
theorem entry_set_iter : entryFor table "set.__iter__" = some Builtin.«frozenset.__iter__» := entryFor_alias (id' := "frozenset.__iter__") (by kernel_rfl) rfl (by decide +kernel) (by kernel_rfl)
theorem slot_setit_iter : Slot "set_iterator" "__iter__" "set_iterator.__iter__" :=
  .of (owner := "set_iterator") (n := "__iter__") (by rw [typeLookup_type, builtinLookup_eq_fast]; kernel_rfl) (by decide +kernel) (by decide +kernel) (by decide +kernel)
    (by first | exact .inl (by decide +kernel) | exact .inr (by decide +kernel)) (by rw [isSubtype_type]; kernel_rfl)
theorem entry_setit_iter : entryFor table "set_iterator.__iter__" = some Builtin.«dict_keyiterator.__iter__» := entryFor_alias (id' := "dict_keyiterator.__iter__") (by kernel_rfl) rfl (by decide +kernel) (by kernel_rfl)
theorem args_setit_iter (a : Value) : argsOk "set_iterator.__iter__" ⟨[a], []⟩ := by unfold argsOk; kernel_rfl
def SetIt (h : Heap) (it D : Addr) (c i ep : Nat) : Prop := ∃ o, h.get? it = some o ∧ o.cls = .type "set_iterator" ∧ o.data = .fields #[.int c 0, .int i 0, .ref D, .int 1 0, .int ep 0]
theorem SetIt.typeIs {s : Shared} {it D : Addr} {c i ep : Nat} (x : SetIt s.heap it D c i ep) : s.TypeIs (.ref it) "set_iterator" := let ⟨o, ho, hc, _⟩ := x; ⟨o, ho, hc⟩
theorem pick_one {α : Type} (next : Nat → Nat) (e : α) : pickOrder next #[e] = #[e] := by
  unfold pickOrder
  simp [pickOrder.go, Nat.mod_one]
section
variable {prog : Program} {w : World} {A : Around} {E : Value → Shared → Prop} {s : Shared} {D it : Addr} {o : Obj} {x : Str} {tok : Tok} {ep : Nat} {t : SetTable} {e : Int × Value}
theorem setDrawn_one {Q : Bool → Shared → Prop} (ho : s.heap.get? D = some o) (hd : o.data = .set #[e] ep t) (hf : t.fits 1 = true) (h : Q false s) : wpAny (model prog w) A (setDrawn D) Q E s := by
  unfold setDrawn setsByText
  refine wpAny_bind (wpAny_setState_of ho hd hf ?_)
  dsimp only
  refine wpAny_bind (wpAny_bind (wpAny_askSetting (wpAny_pure ?_)))
  have e0 : ∀ b c : Bool, (!b && (!c && decide ((#[e] : Array (Int × Value)).size > 1))) = false := by
    intro b c; cases b <;> cases c <;> rfl
  exact wpAny_pure ((e0 _ t.plain).symm ▸ h)
theorem iter_oneset {Q : Value → Shared → Prop} (ho : s.heap.get? D = some o) (hex : o.ExactSet) (hd : o.data = .set #[e] ep t) (hf : t.fits 1 = true)
    (hQ : Q (.ref s.heap.objs.size) { s with heap := s.heap.push { cls := .type "set_iterator", data := .fields #[.int 0 0, .int 0 0, .ref D, .int 1 0, .int ep 0] } }) :
    wpAny (model prog w) A (pyIter (.ref D)) Q E s := by
  have hT : s.TypeIs (.ref D) "set" := ⟨o, ho, hex.1⟩
  refine wpAny_pyIter_slot hT PySem.F.slot_set_iter (wpAny_call_entry PySem.F.slot_set_iter hT entry_set_iter ?_ (PySem.F.args_set_iter_1 _))
  unfold Builtin.«frozenset.__iter__»
  refine wpAny_bind (m := Builtin.Frozenset.slot0 _ _) ?_
  show wpAny _ _ (pure D) _ _ s
  refine wpAny_pure ?_
  refine wpAny_bind (m := Builtin.Frozenset.sizeOf D) ?_
  unfold Builtin.Frozenset.sizeOf
  refine wpAny_bind (wpAny_setEntries_of ho hd hf (wpAny_pure ?_))
  refine wpAny_bind (setDrawn_one ho hd hf ?_)
  simp only [Bool.false_eq_true, if_false]
  refine wpAny_bind (wpAny_pure ?_)
  refine wpAny_bind (wpAny_setEpoch_of ho hd hf ?_)
  unfold newFields
  refine wpAny_bind (wpAny_newObj_type (wpAny_pure ⟨_, rfl, "set_iterator", _, ⟨_, Heap.get?_push_size _ rfl, rfl⟩, slot_setit_next.lookup, ?_⟩))
  exact hQ
/-- behind the one item -/
def PastOne (w : World) (t : SetTable) (c : Nat) : Prop := w.params.followText "set-order" = true ∨ SetTable.below t.place c = 1
theorem place_one (hf : t.fits 1 = true) : ∃ j, t.place = #[j] := by
  simp only [SetTable.fits, Bool.and_eq_true, beq_iff_eq] at hf
  obtain ⟨pl, hp⟩ : ∃ pl, t.place = pl := ⟨_, rfl⟩
  rw [hp] at hf
  obtain ⟨l⟩ := pl
  match l, hf with
  | [j], _ => exact ⟨j, hp⟩
  | [], h => exact absurd h.1 (by simp)
  | a :: b :: r, h => exact absurd h.1 (by simp)
theorem below_lo (j : Nat) : SetTable.below #[j] 0 = 0 := by simp [SetTable.below, SetTable.below.go]
theorem below_hi (j : Nat) : SetTable.below #[j] (j + 1) = 1 := by simp [SetTable.below, SetTable.below.go]
theorem walk_one {Q : Array (Int × Value) → Shared → Prop} (hb : w.params.followText "set-order" = true) (ho : s.heap.get? D = some o) (hd : o.data = .set #[e] ep t) (hf : t.fits 1 = true) (h : Q #[e] s) : wpAny (model prog w) A (setWalk D) Q E s := by
  unfold setWalk setsByText
  refine wpAny_bind (wpAny_setState_of ho hd hf ?_)
  dsimp only
  refine wpAny_bind (wpAny_bind (wpAny_askSetting (wpAny_pure ?_)))
  show wpAny _ _ (if w.params.followText "set-order" = true then _ else _) _ _ _
  rw [if_pos hb]
  refine wpAny_bind (wpAny_askSetting (wpAny_pure ?_))
  rw [pick_one]
  exact h
theorem setNext_item {Q : Option (Value × Nat) → Shared → Prop} (ho : s.heap.get? D = some o) (hd : o.data = .set #[e] ep t) (hf : t.fits 1 = true) (hl : t.led = !w.params.followText "set-order")
    (h : ∀ c', PastOne w t c' → Q (some (e.2, c')) s) : wpAny (model prog w) A (setNext D 0 0 ep) Q E s := by
  unfold setNext setsByText
  refine wpAny_bind (wpAny_setState_of ho hd hf ?_)
  dsimp only
  refine wpAny_bind (wpAny_bind (wpAny_askSetting (wpAny_pure ?_)))
  show wpAny _ _ (if w.params.followText "set-order" = true then _ else _) _ _ _
  by_cases hb : w.params.followText "set-order" = true
  · rw [if_pos hb, if_neg (by simp)]
    refine wpAny_bind (walk_one hb ho hd hf ?_)
    exact wpAny_pure (h 0 (.inl hb))
  · rw [if_neg hb]
    have hb' : w.params.followText "set-order" = false := by simpa using hb
    rw [hb'] at hl
    obtain ⟨j, hj⟩ := place_one hf
    split
    · rename_i h9
      obtain ⟨mask, place, dummies, finger, led, moves, plain⟩ := t
      cases plain <;> exact absurd h9 (by intro h; cases h)
    · refine wpAny_bind ?_
      show wpAny _ _ (if (!t.led && !(#[e] : Array (Int × Value)).isEmpty) = true then unsupported "set:maker-not-led" else pure ()) _ _ _
      rw [hl, if_neg (by simp)]
      refine wpAny_pure (wpAny_pure ?_)
      rw [hj, below_lo]
      exact h (j + 1) (.inr (by rw [hj]; exact below_hi j))
theorem setNext_end {c : Nat} {Q : Option (Value × Nat) → Shared → Prop} (ho : s.heap.get? D = some o) (hd : o.data = .set #[e] ep t) (hf : t.fits 1 = true) (hl : t.led = !w.params.followText "set-order") (hc : PastOne w t c)
    (h : Q none s) : wpAny (model prog w) A (setNext D c 1 ep) Q E s := by
  unfold setNext setsByText
  refine wpAny_bind (wpAny_setState_of ho hd hf ?_)
  dsimp only
  refine wpAny_bind (wpAny_bind (wpAny_askSetting (wpAny_pure ?_)))
  show wpAny _ _ (if w.params.followText "set-order" = true then _ else _) _ _ _
  by_cases hb : w.params.followText "set-order" = true
  · rw [if_pos hb, if_neg (by simp)]
    refine wpAny_bind (walk_one hb ho hd hf ?_)
    exact wpAny_pure h
  · rw [if_neg hb]
    have hb' : w.params.followText "set-order" = false := by simpa using hb
    rw [hb'] at hl
    have hc' : SetTable.below t.place c = 1 := hc.resolve_left hb
    split
    · rename_i h9
      obtain ⟨mask, place, dummies, finger, led, moves, plain⟩ := t
      cases plain <;> exact absurd h9 (by intro h; cases h)
    · refine wpAny_bind ?_
      show wpAny _ _ (if (!t.led && !(#[e] : Array (Int × Value)).isEmpty) = true then unsupported "set:maker-not-led" else pure ()) _ _ _
      rw [hl, if_neg (by simp)]
      refine wpAny_pure (wpAny_pure ?_)
      rw [hc']
      exact h
theorem next_one_item {Q : Option Value → Shared → Prop} (hit : SetIt s.heap it D 0 0 ep) (ho : s.heap.get? D = some o) (hd : o.data = .set #[e] ep t) (hf : t.fits 1 = true) (hl : t.led = !w.params.followText "set-order")
    (hQ : ∀ c' h', PastOne w t c' → SetIt h' it D c' 1 ep → Heap.SameBut it s.heap h' → Q (some e.2) { s with heap := h' }) : wpAny (model prog w) A (pyNext (.ref it)) Q E s := by
  obtain ⟨oi, hoi, hci, hdi⟩ := id hit
  unfold pyNext
  refine wpAny_bind (wpAny_attempt (wpAny_callSpecial?_slot (name := Str.ofString "__next__") hit.typeIs slot_setit_next
    (wpAny_call_entry slot_setit_next hit.typeIs entry_setit_next ?_ (args_setit_next _))))
  unfold Builtin.«set_iterator.__next__»
  refine wpAny_bind (m := slotArgs _ _ _) ?_
  show wpAny _ _ (pure (Value.ref it, [])) _ _ s
  refine wpAny_pure ?_
  refine wpAny_bind (wpAny_fieldsOf hoi hdi ?_)
  dsimp only
  refine wpAny_bind (wpAny_setEntries_of ho hd hf ?_)
  rw [if_neg (by simp)]
  refine wpAny_bind (setNext_item ho hd hf hl fun c' hc' => ?_)
  dsimp only
  refine wpAny_bind (wpAny_setField hoi hdi (by simp) ?_)
  have ho1 := Heap.get?_update_self (Obj.mapFields (·.setIfInBounds 0 (rawInt c'))) hoi (Obj.isFreed_of_fields (Obj.data_mapFields hdi _))
  have hd1 := Obj.data_mapFields hdi (·.setIfInBounds 0 (rawInt c'))
  refine wpAny_bind (wpAny_setField (s := { s with heap := s.heap.update it (Obj.mapFields (·.setIfInBounds 0 (rawInt c'))) }) ho1 hd1 (by simp) ?_)
  have ho2 := Heap.get?_update_self (Obj.mapFields (·.setIfInBounds 1 (rawInt (((0 : Nat) : Int) + 1)))) ho1 (Obj.isFreed_of_fields (Obj.data_mapFields hd1 _))
  refine wpAny_pure ⟨_, rfl, wpAny_pure (hQ c' _ hc' ⟨_, ho2, ?_, ?_⟩ ((Heap.SameBut.update ..).trans (Heap.SameBut.update ..)))⟩
  · exact (Obj.cls_mapFields ..).trans ((Obj.cls_mapFields ..).trans hci)
  · rw [Obj.data_mapFields hd1]
    simp [rawInt]
theorem next_one_end {c : Nat} {Q : Option Value → Shared → Prop} (hh : A.handled = none) (hit : SetIt s.heap it D c 1 ep) (ho : s.heap.get? D = some o) (hd : o.data = .set #[e] ep t) (hf : t.fits 1 = true) (hl : t.led = !w.params.followText "set-order") (hc : PastOne w t c)
    (hQ : ∀ h', Heap.ExtBut it s.heap h' → Q none { s with heap := h' }) : wpAny (model prog w) A (pyNext (.ref it)) Q E s := by
  obtain ⟨oi, hoi, hci, hdi⟩ := id hit
  unfold pyNext
  refine wpAny_bind (wpAny_attempt (wpAny_callSpecial?_slot (name := Str.ofString "__next__") hit.typeIs slot_setit_next
    (wpAny_call_entry slot_setit_next hit.typeIs entry_setit_next ?_ (args_setit_next _))))
  unfold Builtin.«set_iterator.__next__»
  refine wpAny_bind (m := slotArgs _ _ _) ?_
  show wpAny _ _ (pure (Value.ref it, [])) _ _ s
  refine wpAny_pure ?_
  refine wpAny_bind (wpAny_fieldsOf hoi hdi ?_)
  dsimp only
  refine wpAny_bind (wpAny_setEntries_of ho hd hf ?_)
  rw [if_neg (by simp)]
  refine wpAny_bind (m := setNext D c 1 ep) (setNext_end ho hd hf hl hc ?_)
  dsimp only
  refine wpAny_bind (wpAny_setField hoi hdi (by simp) ?_)
  show wpAny _ _ (newExc (.type "StopIteration") [] >>= _) _ _ _
  refine wpAny_bind ?_
  simp only [newExc, newTuple]
  refine wpAny_bind (wpAny_newObj_type ?_ (by size_fits))
  refine wpAny_bind (m := firstArgMember _ _) (wpAny_of_eq (a := Value.none) (by first | rfl | (simp only [firstArgMember]; rfl)) ?_)
  refine wpAny_newObj_type ?_ (by size_fits)
  simp only [raiseNew]
  refine wpAny_bind (wpAny_handled ?_)
  rw [show A.in1.handled = none from hh]
  refine wpAny_bind (wpAny_pure (wpAny_throw ?_))
  refine wpAny_bind (wpAny_isInstance (T := "StopIteration") (b := true) ⟨_, Heap.get?_push_size _ rfl, rfl⟩ isSubtype_stop ?_)
  exact wpAny_pure (hQ _ (((Heap.SameBut.update ..).extBut.push _).push _))
theorem walks_one (hh : A.handled = none) (I : Addr) (hne : D ≠ I) (hd : o.data = .set #[e] ep t) (hf : t.fits 1 = true) (hl : t.led = !w.params.followText "set-order") (x : Str) (tok : Tok) (hx : e.2 = .str x tok) :
    Walks prog w A I [I, D] [I] 1 (fun _ v => v = .str x tok) (fun i h => (if i = 0 then SetIt h I D 0 0 ep else ∃ c, PastOne w t c ∧ SetIt h I D c 1 ep) ∧ h.get? D = some o) where
  sub := fun b hb => by simp at hb; simp [hb]
  frame := fun i h h' st hk => by
    have keep : ∀ c j, SetIt h I D c j ep → SetIt h' I D c j ep := fun c j ⟨oi, hoi, r⟩ => ⟨oi, hk I (by simp) oi hoi, r⟩
    refine ⟨?_, hk D (by simp) _ st.2⟩
    by_cases hi : i = 0
    · rw [if_pos hi]; have := st.1; rw [if_pos hi] at this; exact keep _ _ this
    · rw [if_neg hi]; have := st.1; rw [if_neg hi] at this; obtain ⟨c, hc, q⟩ := this; exact ⟨c, hc, keep _ _ q⟩
  item := fun i s Q E hi st hQ => by
    have i0 : i = 0 := by omega
    subst i0
    refine next_one_item st.1 st.2 hd hf hl fun c' h' hc' hit' hs' => ?_
    exact hQ _ h' s.toks hx ⟨⟨c', hc', hit'⟩, (hs'.2 D hne).trans st.2⟩ fun b o hb e => hs'.extBut b o (fun h => hb (by simp [h])) e
  done := fun s Q E st hQ => by
    obtain ⟨c, hc, hit⟩ := st.1
    exact next_one_end hh hit st.2 hd hf hl hc fun h' he' => hQ h' s.toks fun b o hb e => he' b o (fun h => hb (by simp [h])) e
  self := fun i s Q E st hQ => by
    have hT : s.TypeIs (.ref I) "set_iterator" := by
      by_cases hi : i = 0
      · have := st.1; rw [if_pos hi] at this; exact this.typeIs
      · have := st.1; rw [if_neg hi] at this; obtain ⟨c, _, q⟩ := this; exact q.typeIs
    refine wpAny_pyIter_slot hT slot_setit_iter (wpAny_call_entry slot_setit_iter hT entry_setit_iter ?_ (args_setit_iter _))
    show wpAny _ _ (ret (.ref I)) _ _ s
    exact wpAny_pure ⟨_, rfl, "set_iterator", _, hT, slot_setit_next.lookup, hQ⟩
end
section
variable {prog : Program} {w : World} {A : Around} {E : Value → Shared → Prop} {s : Shared} {env : Env} {h₀ : Heap} {x : Str} {body : List Stmt} {Q : Flow → Shared → Prop}
/-- a loop over a set of one text: its one turn -/
theorem iter_oneUnr {D : Addr} {o : Obj} {y : Str} {m₀ : Str → Option Value} {news : List (Addr × Obj)}
    (hh : A.handled = none) (F : Fr h₀ env.locals s.heap m₀) (N : News h₀ env.locals s.heap news) (hm : (D, o) ∈ news) (hO : OneSet prog w y o)
    (turn : ∀ (I : Addr) (it : Obj) (t : Tok) h tk, (∀ p ∈ news, p.1 < I) → Fr h₀ env.locals h (fun z => if z = x then some (.str y t) else m₀ z) → News h₀ env.locals h ((I, it) :: news) →
      wpAny (model prog w) A (execs body env) (UnrPost h₀ env.locals { s with heap := h, toks := tk } I it (fun m' n' => (D, o) ∈ n' ∧ ∀ h tk, Fr h₀ env.locals h m' → News h₀ env.locals h n' → Q .next { s with heap := h, toks := tk }) Q) E { s with heap := h, toks := tk }) :
    wpAny (model prog w) A (pyIter (.ref D)) (fun it s₂ => LoopAtV prog w A h₀ env x body Q E it s₂) E s := by
  have hD := N _ hm
  obtain ⟨tok, ep, t, hex, hd, hf, hl⟩ := id hO
  have hlt : D < s.heap.objs.size := Heap.lt_size hD.1
  have hne : D ≠ s.heap.objs.size := Nat.ne_of_lt hlt
  refine iter_oneset hD.1 hex hd hf ?_
  have W := walks_one (prog := prog) (w := w) hh s.heap.objs.size hne hd hf hl y tok rfl
  have hnew := next_is_new F
  let J : Nat → (Str → Option Value) → List (Addr × Obj) → Prop := fun i m₁ news₁ => (D, o) ∈ news₁ ∧ (if i = 0 then m₁ = m₀ ∧ news₁ = news else ∀ h tk, Fr h₀ env.locals h m₁ → News h₀ env.locals h news₁ → Q .next { s with heap := h, toks := tk })
  refine ⟨_, _, _, 1, _, _, m₀, news, J, rfl, W, ?_, ?_, ?_, ⟨⟨_, Heap.get?_push_size _ rfl, rfl, rfl⟩, Heap.get?_push_of_some _ hD.1⟩, F.push _, (fun p hp => ⟨Heap.get?_push_of_some _ (N p hp).1, (N p hp).2⟩), ⟨hm, rfl, rfl⟩, ?_, ?_⟩
  · intro hmm
    rcases List.mem_cons.mp hmm with e | hmm
    · exact absurd F.ns.lt (e ▸ Nat.lt_irrefl _)
    · exact hD.2.1 (List.mem_singleton.mp hmm).symm
  · intro b hb
    rw [List.mem_singleton.mp hb]
    exact hnew
  · intro p hp hI
    exact absurd (Heap.lt_size (N p hp).1) ((List.mem_singleton.mp hI) ▸ Nat.lt_irrefl _)
  · rintro i v m₁ news₁ s₁ own ⟨hh', tk', rfl⟩ hin hP ⟨hmem₁, hJ⟩ hoff hown hget hall hst F₁ N₁
    have i0 : i = 0 := by omega
    subst i0
    obtain ⟨rfl, rfl⟩ := hJ
    have hP' : v = .str y tok := hP
    subst hP'
    obtain ⟨c, _, it, hit, hic, hid⟩ := hst.1
    have hmemI := hall s.heap.objs.size (List.mem_cons_self ..) hnew _ hit
    have N₂ : News h₀ env.locals hh' ((s.heap.objs.size, it) :: news₁) := fun p hp => by
      rcases List.mem_cons.mp hp with rfl | hp
      · exact N₁ _ (List.mem_append_left _ hmemI)
      · exact N₁ _ (List.mem_append_right _ hp)
    refine wpAny_mono (turn s.heap.objs.size it tok hh' tk' (fun p hp => Heap.lt_size (N p hp).1) F₁ N₂) (fun f s₂ p => ?_) fun _ _ e => e
    have fin : UnrEnd h₀ env.locals { s with heap := hh', toks := tk' } s.heap.objs.size it (fun m' n' => (D, o) ∈ n' ∧ ∀ h tk, Fr h₀ env.locals h m' → News h₀ env.locals h n' → Q .next { s with heap := h, toks := tk }) s₂ →
        LoopStepU h₀ env.locals [s.heap.objs.size] own (J (0 + 1)) { s with heap := hh', toks := tk' } .next s₂ := by
      rintro ⟨h', tk, m', news', e, F', N', ho, hmm, r⟩
      refine ⟨rfl, h', tk, m', news', e, F', fun p hp => ?_, fun p hp hI => ho p hp (List.mem_singleton.mp hI), hmm, r⟩
      rcases List.mem_append.mp hp with hp | hp
      · have h2 : hh'.get? p.1 = some p.2 := hget p hp
        rcases List.mem_cons.mp (hown p hp) with h1 | h1
        · have h3 : p = (s.heap.objs.size, it) := by
            rw [h1, hit] at h2
            exact Prod.ext h1 (Option.some.inj h2).symm
          rw [h3]; exact N' _ (List.mem_cons_self ..)
        · have h1' : p.1 = D := List.mem_singleton.mp h1
          have h3 : p = (D, o) := by
            rw [h1', (N₁ _ (List.mem_append_right _ hmem₁)).1] at h2
            exact Prod.ext h1' (Option.some.inj h2).symm
          rw [h3]; exact N' _ (List.mem_cons_of_mem _ hmm)
      · exact N' _ (List.mem_cons_of_mem _ hp)
    cases f with
    | ret v => exact .ret p
    | brk => exact .brk p
    | next => exact .next (fin p)
    | cont => exact .cont (fin p)
  · rintro h' tk m' news' F' N' _ ⟨_, hJ⟩
    exact hJ h' tk F' N'
end
end
end
section
section
def SetIt0 (h : Heap) (it D : Addr) (ep : Nat) : Prop := ∃ o, h.get? it = some o ∧ o.cls = .type "set_iterator" ∧ o.data = .fields #[.int 0 0, .int 0 0, .ref D, .int 0 0, .int ep 0]
theorem SetIt0.typeIs {s : Shared} {it D : Addr} {ep : Nat} (x : SetIt0 s.heap it D ep) : s.TypeIs (.ref it) "set_iterator" := let ⟨o, ho, hc, _⟩ := x; ⟨o, ho, hc⟩
section
variable {prog : Program} {w : World} {A : Around} {E : Value → Shared → Prop} {s : Shared} {D it : Addr} {o : Obj} {ep : Nat} {t : SetTable}
theorem setDrawn_nil {Q : Bool → Shared → Prop} (ho : s.heap.get? D = some o) (hd : o.data = .set #[] ep t) (hf : t.fits 0 = true) (h : Q false s) : wpAny (model prog w) A (setDrawn D) Q E s := by
  unfold setDrawn setsByText
  refine wpAny_bind (wpAny_setState_of ho hd hf ?_)
  dsimp only
  refine wpAny_bind (wpAny_bind (wpAny_askSetting (wpAny_pure ?_)))
  have e0 : ∀ b c : Bool, (!b && (!c && decide ((#[] : Array (Int × Value)).size > 1))) = false := by
    intro b c; cases b <;> cases c <;> rfl
  exact wpAny_pure ((e0 _ t.plain).symm ▸ h)
theorem iter_nilset {Q : Value → Shared → Prop} (ho : s.heap.get? D = some o) (hex : o.ExactSet) (hd : o.data = .set #[] ep t) (hf : t.fits 0 = true)
    (hQ : Q (.ref s.heap.objs.size) { s with heap := s.heap.push { cls := .type "set_iterator", data := .fields #[.int 0 0, .int 0 0, .ref D, .int 0 0, .int ep 0] } }) :
    wpAny (model prog w) A (pyIter (.ref D)) Q E s := by
  have hT : s.TypeIs (.ref D) "set" := ⟨o, ho, hex.1⟩
  refine wpAny_pyIter_slot hT PySem.F.slot_set_iter (wpAny_call_entry PySem.F.slot_set_iter hT entry_set_iter ?_ (PySem.F.args_set_iter_1 _))
  unfold Builtin.«frozenset.__iter__»
  refine wpAny_bind (m := Builtin.Frozenset.slot0 _ _) ?_
  show wpAny _ _ (pure D) _ _ s
  refine wpAny_pure ?_
  refine wpAny_bind (m := Builtin.Frozenset.sizeOf D) ?_
  unfold Builtin.Frozenset.sizeOf
  refine wpAny_bind (wpAny_setEntries_of ho hd hf (wpAny_pure ?_))
  refine wpAny_bind (setDrawn_nil ho hd hf ?_)
  simp only [Bool.false_eq_true, if_false]
  refine wpAny_bind (wpAny_pure ?_)
  refine wpAny_bind (wpAny_setEpoch_of ho hd hf ?_)
  unfold newFields
  refine wpAny_bind (wpAny_newObj_type (wpAny_pure ⟨_, rfl, "set_iterator", _, ⟨_, Heap.get?_push_size _ rfl, rfl⟩, slot_setit_next.lookup, ?_⟩))
  exact hQ
theorem setNext_nil {Q : Option (Value × Nat) → Shared → Prop} (ho : s.heap.get? D = some o) (hd : o.data = .set #[] ep t) (hf : t.fits 0 = true)
    (h : Q none s) : wpAny (model prog w) A (setNext D 0 0 ep) Q E s := by
  unfold setNext setsByText
  refine wpAny_bind (wpAny_setState_of ho hd hf ?_)
  dsimp only
  refine wpAny_bind (wpAny_bind (wpAny_askSetting (wpAny_pure ?_)))
  show wpAny _ _ (if w.params.followText "set-order" = true then _ else _) _ _ _
  by_cases hb : w.params.followText "set-order" = true
  · rw [if_pos hb, if_neg (by simp)]
    unfold setWalk setsByText
    refine wpAny_bind (wpAny_bind (wpAny_setState_of ho hd hf ?_))
    dsimp only
    refine wpAny_bind (wpAny_bind (wpAny_askSetting (wpAny_pure ?_)))
    show wpAny _ _ (if w.params.followText "set-order" = true then _ else _) _ _ _
    rw [if_pos hb]
    refine wpAny_bind (wpAny_askSetting (wpAny_pure ?_))
    exact wpAny_pure h
  · rw [if_neg hb]
    split
    · rename_i h9
      obtain ⟨mask, place, dummies, finger, led, moves, plain⟩ := t
      cases plain <;> exact absurd h9 (by intro h; cases h)
    · refine wpAny_bind ?_
      show wpAny _ _ (if (!t.led && !(#[] : Array (Int × Value)).isEmpty) = true then unsupported "set:maker-not-led" else pure ()) _ _ _
      rw [if_neg (by simp)]
      refine wpAny_pure (wpAny_pure ?_)
      exact h
theorem next_nil_end {Q : Option Value → Shared → Prop} (hh : A.handled = none) (hit : SetIt0 s.heap it D ep) (ho : s.heap.get? D = some o) (hd : o.data = .set #[] ep t) (hf : t.fits 0 = true)
    (hQ : ∀ h', Heap.ExtBut it s.heap h' → Q none { s with heap := h' }) : wpAny (model prog w) A (pyNext (.ref it)) Q E s := by
  obtain ⟨oi, hoi, hci, hdi⟩ := id hit
  unfold pyNext
  refine wpAny_bind (wpAny_attempt (wpAny_callSpecial?_slot (name := Str.ofString "__next__") hit.typeIs slot_setit_next
    (wpAny_call_entry slot_setit_next hit.typeIs entry_setit_next ?_ (args_setit_next _))))
  unfold Builtin.«set_iterator.__next__»
  refine wpAny_bind (m := slotArgs _ _ _) ?_
  show wpAny _ _ (pure (Value.ref it, [])) _ _ s
  refine wpAny_pure ?_
  refine wpAny_bind (wpAny_fieldsOf hoi hdi ?_)
  dsimp only
  refine wpAny_bind (wpAny_setEntries_of ho hd hf ?_)
  rw [if_neg (by simp)]
  refine wpAny_bind (m := setNext D 0 0 ep) (setNext_nil ho hd hf ?_)
  dsimp only
  refine wpAny_bind (wpAny_setField hoi hdi (by simp) ?_)
  show wpAny _ _ (newExc (.type "StopIteration") [] >>= _) _ _ _
  refine wpAny_bind ?_
  simp only [newExc, newTuple]
  refine wpAny_bind (wpAny_newObj_type ?_ (by size_fits))
  refine wpAny_bind (m := firstArgMember _ _) (wpAny_of_eq (a := Value.none) (by first | rfl | (simp only [firstArgMember]; rfl)) ?_)
  refine wpAny_newObj_type ?_ (by size_fits)
  simp only [raiseNew]
  refine wpAny_bind (wpAny_handled ?_)
  rw [show A.in1.handled = none from hh]
  refine wpAny_bind (wpAny_pure (wpAny_throw ?_))
  refine wpAny_bind (wpAny_isInstance (T := "StopIteration") (b := true) ⟨_, Heap.get?_push_size _ rfl, rfl⟩ isSubtype_stop ?_)
  exact wpAny_pure (hQ _ (((Heap.SameBut.update ..).extBut.push _).push _))
theorem walks_nil (hh : A.handled = none) (I : Addr) (hd : o.data = .set #[] ep t) (hf : t.fits 0 = true) :
    Walks prog w A I [I, D] [I] 0 (fun _ _ => False) (fun _ h => SetIt0 h I D ep ∧ h.get? D = some o) where
  sub := fun b hb => by simp at hb; simp [hb]
  frame := fun i h h' st hk => by
    obtain ⟨⟨oi, hoi, r⟩, h2⟩ := st
    exact ⟨⟨oi, hk I (by simp) oi hoi, r⟩, hk D (by simp) _ h2⟩
  item := fun i s Q E hi st hQ => by omega
  done := fun s Q E st hQ => next_nil_end hh st.1 st.2 hd hf fun h' he' => hQ h' s.toks fun b o hb e => he' b o (fun h => hb (by simp [h])) e
  self := fun i s Q E st hQ => by
    have hT : s.TypeIs (.ref I) "set_iterator" := st.1.typeIs
    refine wpAny_pyIter_slot hT slot_setit_iter (wpAny_call_entry slot_setit_iter hT entry_setit_iter ?_ (args_setit_iter _))
    show wpAny _ _ (ret (.ref I)) _ _ s
    exact wpAny_pure ⟨_, rfl, "set_iterator", _, hT, slot_setit_next.lookup, hQ⟩
end
section
variable {prog : Program} {w : World} {A : Around} {E : Value → Shared → Prop} {s : Shared} {env : Env} {h₀ : Heap} {x : Str} {body : List Stmt} {Q : Flow → Shared → Prop}
/-- a loop over an empty set -/
theorem iter_nilUnr {D : Addr} {led : Bool} {m₀ : Str → Option Value} {news : List (Addr × Obj)}
    (hh : A.handled = none) (F : Fr h₀ env.locals s.heap m₀) (N : News h₀ env.locals s.heap news) (hm : (D, ({ cls := .type "set", dict := none, data := .set #[] 0 (.fresh 0 0 led) } : Obj)) ∈ news)
    (done : ∀ h tk, Fr h₀ env.locals h m₀ → News h₀ env.locals h news → Q .next { s with heap := h, toks := tk }) :
    wpAny (model prog w) A (pyIter (.ref D)) (fun it s₂ => LoopAtV prog w A h₀ env x body Q E it s₂) E s := by
  have hD := N _ hm
  have hlt : D < s.heap.objs.size := Heap.lt_size hD.1
  have hne : D ≠ s.heap.objs.size := Nat.ne_of_lt hlt
  refine iter_nilset hD.1 ⟨rfl, rfl, rfl⟩ rfl rfl ?_
  have W := walks_nil (prog := prog) (w := w) (D := D) (o := { cls := .type "set", dict := none, data := .set #[] 0 (.fresh 0 0 led) }) hh s.heap.objs.size rfl rfl
  have hnew := next_is_new F
  refine ⟨_, _, _, 0, _, _, m₀, news, (fun _ m₁ news₁ => m₁ = m₀ ∧ news₁ = news), rfl, W, ?_, ?_, ?_, ⟨⟨_, Heap.get?_push_size _ rfl, rfl, rfl⟩, Heap.get?_push_of_some _ hD.1⟩, F.push _, (fun p hp => ⟨Heap.get?_push_of_some _ (N p hp).1, (N p hp).2⟩), ⟨rfl, rfl⟩, ?_, ?_⟩
  · intro hmm
    rcases List.mem_cons.mp hmm with e | hmm
    · exact absurd F.ns.lt (e ▸ Nat.lt_irrefl _)
    · exact hD.2.1 (List.mem_singleton.mp hmm).symm
  · intro b hb
    rw [List.mem_singleton.mp hb]
    exact hnew
  · intro p hp hI
    exact absurd (Heap.lt_size (N p hp).1) ((List.mem_singleton.mp hI) ▸ Nat.lt_irrefl _)
  · intro i v m₁ news₁ s₁ own _ hin
    omega
  · rintro h' tk m' news' F' N' _ ⟨rfl, rfl⟩
    exact done h' tk F' N'
end
end
end
section
section
theorem strs_take {vs : List Value} {ns : List Str} (h : StrsAre vs ns) : ∀ k : Nat, StrsAre (vs.take k) (ns.take k) := by
  induction h with
  | nil => intro k; simp; exact .nil
  | cons y t _ ih =>
    intro k
    cases k with
    | zero => exact .nil
    | succ k => exact .cons y t (ih k)
theorem strs_upto {vs : List Value} {ns : List Str} (h : StrsAre vs ns) {y : Int} (h0 : 0 ≤ y) : StrsAre (slicePick vs.toArray none (some y) none).toList (ns.take y.toNat) := by
  have ey : y = (y.toNat : Int) := by omega
  rw [ey, slicePick_upto' vs.toArray y.toNat]
  simpa [← ey] using strs_take h y.toNat
/-- short texts, few of them -/
def Lab (x : Str) : Prop := 1 ≤ x.length ∧ x.length ≤ 3 ∧ ∀ c ∈ x.cps.toList, c ≠ 46 ∧ c ≠ 47
def Labs (ts : List Str) : Prop := ts.length ≤ 4 ∧ ∀ x ∈ ts, Lab x
def Few (ts : List Str) : Prop := ts.length ≤ 4 ∧ ∀ x ∈ ts, x.length ≤ 3
theorem few_weight : ∀ {ts : List Str}, (∀ x ∈ ts, x.length ≤ 3) → (ts.map (·.length)).sum + ts.length ≤ 4 * ts.length
  | [], _ => by simp
  | x :: r, h => by
    have h1 := h x (.head _)
    have h2 := few_weight (ts := r) fun y hy => h y (.tail _ hy)
    simp only [List.map_cons, List.sum_cons, List.length_cons]
    omega
theorem few_fits {ts : List Str} (h : Few ts) : (ts.map (·.length)).sum + ts.length ≤ 1048576 := by
  have := few_weight h.2
  have := h.1
  omega
theorem Labs.few {ts : List Str} (h : Labs ts) : Few ts := ⟨h.1, fun x hx => (h.2 x hx).2.1⟩
theorem Labs.take {ts : List Str} (h : Labs ts) (k : Nat) : Labs (ts.take k) :=
  ⟨Nat.le_trans (by rw [List.length_take]; omega) h.1, fun x hx => h.2 x (List.mem_of_mem_take hx)⟩
theorem few_take {ts : List Str} (h : Few ts) (k : Nat) : Few (ts.take k) :=
  ⟨Nat.le_trans (by rw [List.length_take]; omega) h.1, fun x hx => h.2 x (List.mem_of_mem_take hx)⟩
section
variable {prog : Program} {w : World} {A : Around} {E : Value → Shared → Prop} {s : Shared} {h₀ : Heap} {L l : Addr} {full : List (Addr × Obj)} {ys : List Value} {ts : List Str} {n a b : Nat} {k : Int} {t u : Tok} {x y : Str} {v : Value}
theorem glue_len {x : Str} {ts : List Str} (hf : Few ts) (hx : x.length ≤ 1) : (Txt.join x ts).length ≤ 16 := by
  have e : Txt.join x ts = Str.join x ts := StrLaws.glued_eq_join x ts
  have h1 := StrLaws.join_length_le x ts
  have h2 := few_weight hf.2
  have h3 := hf.1
  have h4 : ts.length * x.length ≤ ts.length * 1 := Nat.mul_le_mul_left _ hx
  rw [e]; omega
theorem join_upto {Q : Value → Shared → Prop} (N : News h₀ L s.heap full) (hm : (l, ({ cls := .type "list", data := .seq (slicePick ys.toArray none (some k) none) } : Obj)) ∈ full) (hS : StrsAre ys ts) (h0 : 0 ≤ k) (hf : Few ts) (hx : decide (x.length ≤ 1) = true)
    (h : ∀ Z t' tk, Z = Txt.join x (ts.take k.toNat) → Z.length ≤ 16 → Q (.str Z t') { s with toks := tk }) : wpAny (model prog w) A (call (.builtin "str.join") [.str x t, .ref l]) Q E s :=
  have hx := of_decide_eq_true hx
  join_listW (items := slicePick ys.toArray none (some k) none) ⟨_, (N _ hm).1, rfl, 0, rfl⟩ (strs_upto hS h0) (by omega) (few_fits (few_take hf _)) fun t' tk => h _ t' tk rfl (glue_len (few_take hf _) hx)
theorem join_all {Q : Value → Shared → Prop} (N : News h₀ L s.heap full) (hm : (l, W.listOf ys.toArray n) ∈ full) (hS : StrsAre ys ts) (hf : Few ts) (hx : decide (x.length ≤ 1) = true)
    (h : ∀ Z t' tk, Z = Txt.join x ts → Z.length ≤ 16 → Q (.str Z t') { s with toks := tk }) : wpAny (model prog w) A (call (.builtin "str.join") [.str x t, .ref l]) Q E s :=
  have hx := of_decide_eq_true hx
  join_listW (items := ys.toArray) ⟨_, (N _ hm).1, rfl, n, rfl⟩ hS (by omega) (few_fits hf) fun t' tk => h _ t' tk rfl (glue_len hf hx)
theorem add_len {Q : Value → Shared → Prop} (hx : x.length ≤ a) (hy : y.length ≤ b) (hab : decide (a + b ≤ 1000) = true) (h : ∀ Z t' tk, Z = x ++ y → Z.length ≤ a + b → Q (.str Z t') { s with toks := tk }) :
    wpAny (model prog w) A (binaryOp .Add (.str x t) (.str y u)) Q E s := by
  have hab := of_decide_eq_true hab
  refine PyProof.Rows.add_str (fun t' tk => h _ t' tk rfl ?_) ?_
  · rw [Str.length_append]; omega
  · have : sizeLine = 16777216 := sizeLine_eq
    omega
theorem truthy_one {Q : Bool → Shared → Prop} (N : News h₀ L s.heap full) (hm : (l, W.listOf #[v] n) ∈ full) (h : Q true { s with toks := s.toks + 1 + 1 }) : wpAny (model prog w) A (truthy (.ref l)) Q E s :=
  wpAny_truthy_list (items := #[v]) ⟨_, (N _ hm).1, rfl, n, rfl⟩ (by show (1 : Int) < 2 ^ 63; decide) h
theorem truthy_nil {Q : Bool → Shared → Prop} (N : News h₀ L s.heap full) (hm : (l, W.listOf #[] n) ∈ full) (h : Q false { s with toks := s.toks + 1 + 1 }) : wpAny (model prog w) A (truthy (.ref l)) Q E s :=
  wpAny_truthy_list (items := #[]) ⟨_, (N _ hm).1, rfl, n, rfl⟩ (by show (0 : Int) < 2 ^ 63; decide) h
theorem in_one {Q : Value → Shared → Prop} {D : Addr} {o : Obj} (N : News h₀ L s.heap full) (hm : (D, o) ∈ full) (hO : OneSet prog w x o) (h : Q (.bool (decide (y = x))) { s with toks := s.toks + 1 }) :
    wpAny (model prog w) A (compareOp .In (.str y u) (.ref D)) Q E s := wpAny_inSet_of (strKind_is _ _ _ _) rfl (one_setOf (N _ hm).1 hO) h
end
end
end
section
section
open PyProof.V PySem.Spec
theorem look_put {z S : Str} {v u : Int} (hz : z ≠ S) : lookup (PyData.str z) (putD (PyData.str z) (PyData.int v) [(PyData.str S, PyData.int u)]) = some (PyData.int v) := by
  have h1 : same (PyData.str S) (PyData.str z) = false := by rw [same_str]; exact decide_eq_false fun e => hz e.symm
  have h2 : same (PyData.str z) (PyData.str z) = true := by rw [same_str]; exact decide_eq_true rfl
  unfold putD
  rw [if_neg (by simp [h1])]
  simp [Spec.lookup, h1, h2]
theorem look_new {z S : Str} {u : Int} (hz : z ≠ S) : (lookup (PyData.str z) [(PyData.str S, PyData.int u)]).isSome = false := by
  have h1 : same (PyData.str S) (PyData.str z) = false := by rw [same_str]; exact decide_eq_false fun e => hz e.symm
  simp [Spec.lookup, h1]
section
variable {prog : Program} {w : World} {A : Around} {E : Value → Shared → Prop} {s : Shared} {d : Addr} {D : List (PyData × PyData)} {z S : Str} {t : Tok} {v u : Int} {Q : Value → Shared → Prop}
theorem in_new (T : TabAt (strKind prog w) PyData.str s.heap d D) (hD : D = [(PyData.str S, PyData.int u)]) (hz : z ≠ S) (h : Q (.bool false) { s with toks := s.toks + 1 }) : wpAny (model prog w) A (compareOp .In (.str z t) (.ref d)) Q E s := by
  subst hD
  exact in_tab same_str (strKind_is _ _ _ _) T (by rw [look_new hz]; exact h)
theorem in_put (T : TabAt (strKind prog w) PyData.str s.heap d D) (hD : D = putD (PyData.str z) (PyData.int v) [(PyData.str S, PyData.int u)]) (hz : z ≠ S) (h : Q (.bool true) { s with toks := s.toks + 1 }) : wpAny (model prog w) A (compareOp .In (.str z t) (.ref d)) Q E s := by
  subst hD
  exact in_tab same_str (strKind_is _ _ _ _) T (by rw [look_put hz]; exact h)
theorem get_put (T : TabAt (strKind prog w) PyData.str s.heap d D) (hD : D = putD (PyData.str z) (PyData.int v) [(PyData.str S, PyData.int u)]) (hz : z ≠ S) (h : ∀ t', Q (.int v t') { s with toks := s.toks + 1 }) : wpAny (model prog w) A (getItem (.ref d) (.str z t)) Q E s := by
  subst hD
  refine getItem_tab same_str (strKind_is _ _ _ _) T (look_put hz) fun x hx => ?_
  have hx' := hx { s with toks := s.toks + 1 }.heap
  cases hx' with
  | int i t' => exact h t'
end
theorem ne_string {z : Str} {as : List Str} (hz : z = Txt.join (Str.ofString ".") as) (h2 : 2 ≤ as.length) : z ≠ Str.ofString "<string>" := by
  intro e
  have hj : Txt.join (Str.ofString ".") as = Str.join (Str.ofString ".") as := StrLaws.glued_eq_join _ _
  rw [hj] at hz
  match as, h2 with
  | a :: b :: r, _ =>
    have hm : 46 ∈ (Str.join (Str.ofString ".") (a :: b :: r)).cps := by
      show 46 ∈ (a ++ Str.ofString "." ++ Str.join (Str.ofString ".") (b :: r)).cps
      rw [Str.cps_append, Str.cps_append]
      simp [show (Str.ofString ".").cps = #[46] from by decide +kernel]
    rw [← hz, e] at hm
    exact absurd hm (by decide +kernel)
end
end
section
section
/-- lists of numbers, joined by c -/
def jl (c : Nat) : List (List Nat) → List Nat
  | [] => []
  | [x] => x
  | x :: y :: r => x ++ c :: jl c (y :: r)
theorem jl_two {c : Nat} {x : List Nat} : ∀ {r : List (List Nat)}, r ≠ [] → jl c (x :: r) = x ++ c :: jl c r
  | _ :: _, _ => rfl
  | [], h => absurd rfl h
theorem free_eq {c : Nat} : ∀ {x y r s : List Nat}, c ∉ x → c ∉ y → x ++ c :: r = y ++ c :: s → x = y ∧ r = s
  | [], [], _, _, _, _, h => by simpa using h
  | [], b :: y, _, _, _, hy, h => by
    simp only [List.nil_append, List.cons_append, List.cons.injEq] at h
    exact absurd (by rw [h.1]; exact List.mem_cons_self) hy
  | a :: x, [], _, _, hx, _, h => by
    simp only [List.nil_append, List.cons_append, List.cons.injEq] at h
    exact absurd (by rw [h.1]; exact List.mem_cons_self) hx
  | a :: x, b :: y, _, _, hx, hy, h => by
    simp only [List.cons_append, List.cons.injEq] at h
    have := free_eq (fun q => hx (List.mem_cons_of_mem _ q)) (fun q => hy (List.mem_cons_of_mem _ q)) h.2
    exact ⟨by rw [h.1, this.1], this.2⟩
theorem free_mem {c : Nat} {x y : List Nat} {r : List Nat} (hx : c ∉ x) (h : x = y ++ c :: r) : False := hx (by rw [h]; simp)
theorem jl_mem {c : Nat} {x : List Nat} {r : List (List Nat)} (h : r ≠ []) : c ∈ jl c (x :: r) := by rw [jl_two h]; simp
/-- what starts with a joined beginning -/
theorem jl_pre {c : Nat} : ∀ {us as : List (List Nat)}, us ≠ [] → as ≠ [] → (∀ u ∈ us, c ∉ u) → (∀ a ∈ as, c ∉ a) → (jl c as = jl c us ∨ ∃ r, jl c as = jl c us ++ c :: r) → us = as.take us.length
  | [], _, h, _, _, _, _ => absurd rfl h
  | _, [], _, h, _, _, _ => absurd rfl h
  | [u], [a], _, _, hu, ha, h => by
    have hu' := hu u (.head _)
    have ha' := ha a (.head _)
    rcases h with h | ⟨r, h⟩
    · simp only [jl] at h; simp [h]
    · simp only [jl] at h; exact (free_mem ha' h).elim
  | [u], a :: b :: as, _, _, hu, ha, h => by
    have hu' := hu u (.head _)
    have ha' := ha a (.head _)
    rcases h with h | ⟨r, h⟩
    · simp only [jl] at h; exact (free_mem hu' h.symm).elim
    · simp only [jl] at h; simp [(free_eq ha' hu' h).1]
  | u :: v :: us, [a], _, _, hu, ha, h => by
    have ha' := ha a (.head _)
    rcases h with h | ⟨r, h⟩
    · simp only [jl] at h; exact (free_mem ha' h).elim
    · simp only [jl, List.append_assoc, List.cons_append] at h; exact (free_mem ha' h).elim
  | u :: v :: us, a :: b :: as, _, _, hu, ha, h => by
    have hu' := hu u (.head _)
    have ha' := ha a (.head _)
    have step : jl c (b :: as) = jl c (v :: us) ∨ ∃ r, jl c (b :: as) = jl c (v :: us) ++ c :: r := by
      rcases h with h | ⟨r, h⟩
      · simp only [jl] at h; exact .inl (free_eq ha' hu' h).2
      · simp only [jl, List.append_assoc, List.cons_append] at h
        exact .inr ⟨r, (free_eq ha' hu' h).2⟩
    have e : u = a := by
      rcases h with h | ⟨r, h⟩
      · simp only [jl] at h; exact (free_eq ha' hu' h).1.symm
      · simp only [jl, List.append_assoc, List.cons_append] at h; exact (free_eq ha' hu' h).1.symm
    have ih := jl_pre (us := v :: us) (as := b :: as) (by simp) (by simp) (fun x hx => hu x (.tail _ hx)) (fun x hx => ha x (.tail _ hx)) step
    rw [List.length_cons, List.take_succ_cons, ← ih, e]
/-- and back -/
theorem jl_of_take {c : Nat} : ∀ {as : List (List Nat)} {k : Nat}, 1 ≤ k → k ≤ as.length → (k = as.length ∧ jl c as = jl c (as.take k)) ∨ (k < as.length ∧ ∃ r, jl c as = jl c (as.take k) ++ c :: r)
  | [], k, h1, h2 => by simp at h2; omega
  | [a], k, h1, h2 => by
    have : k = 1 := by simp at h2; omega
    subst this
    exact .inl ⟨rfl, rfl⟩
  | a :: b :: as, k, h1, h2 => by
    match k, h1 with
    | 1, _ => exact .inr ⟨by simp, jl c (b :: as), rfl⟩
    | k + 2, _ =>
      have h3 : k + 1 ≤ (b :: as).length := by simp at h2 ⊢; omega
      have e : (a :: b :: as).take (k + 2) = a :: (b :: as).take (k + 1) := rfl
      have ne : (b :: as).take (k + 1) ≠ [] := by simp
      rcases jl_of_take (c := c) (as := b :: as) (k := k + 1) (by omega) h3 with ⟨q, h⟩ | ⟨q, r, h⟩
      · exact .inl ⟨by simp at q ⊢; omega, by rw [e, jl_two ne, ← h]; rfl⟩
      · exact .inr ⟨by simp at q ⊢; omega, r, by rw [e, jl_two ne, jl_two (by simp), h]; simp⟩
theorem join_jl (c : Nat) : ∀ ts : List Str, (Str.join ⟨#[c]⟩ ts).cps.toList = jl c (ts.map (·.cps.toList))
  | [] => rfl
  | [x] => rfl
  | x :: y :: r => by
    show (x ++ ⟨#[c]⟩ ++ Str.join ⟨#[c]⟩ (y :: r)).cps.toList = x.cps.toList ++ c :: jl c ((y :: r).map (·.cps.toList))
    rw [Str.cps_append, Str.cps_append, ← join_jl c (y :: r)]
    simp
end
end
section
section
theorem starts_iff (x y : Str) : Txt.startswith x y = true ↔ ∃ r, x.cps.toList = y.cps.toList ++ r := by
  unfold Txt.startswith
  rw [StrLaws.subAt_eq, Bool.and_eq_true, decide_eq_true_eq, beq_iff_eq, List.drop_zero]
  have hy : y.length = y.cps.toList.length := by show y.cps.size = _; simp
  have hx : x.length = x.cps.toList.length := by show x.cps.size = _; simp
  constructor
  · rintro ⟨_, h⟩
    exact ⟨x.cps.toList.drop y.length, by rw [← h]; simp⟩
  · rintro ⟨r, h⟩
    rw [hx, hy, h]
    simp
theorem dot_is : Str.ofString "." = ⟨#[46]⟩ := by decide +kernel
theorem slash_is : Str.ofString "/" = ⟨#[47]⟩ := by decide +kernel
theorem str_ext {x y : Str} (h : x.cps.toList = y.cps.toList) : x = y := by
  cases x; cases y
  simp at h
  rw [h]
theorem map_inj {xs ys : List Str} (h : xs.map (·.cps.toList) = ys.map (·.cps.toList)) : xs = ys := by
  induction xs generalizing ys with
  | nil => cases ys with
    | nil => rfl
    | cons => cases h
  | cons x r ih => cases ys with
    | nil => cases h
    | cons y r' =>
      simp only [List.map_cons, List.cons.injEq] at h
      rw [str_ext h.1, ih h.2]
theorem glue_jl (c : Nat) (ts : List Str) : (Txt.join ⟨#[c]⟩ ts).cps.toList = jl c (ts.map (·.cps.toList)) := by
  have e : Txt.join ⟨#[c]⟩ ts = Str.join ⟨#[c]⟩ ts := StrLaws.glued_eq_join _ ts
  rw [e, join_jl]
theorem no_dot {ts : List Str} (h : Labs ts) : ∀ u ∈ ts.map (·.cps.toList), 46 ∉ u := by
  intro u hu hm
  obtain ⟨x, hx, rfl⟩ := List.mem_map.mp hu
  exact ((h.2 x hx).2.2 46 hm).1 rfl
theorem no_slash {ts : List Str} (h : Labs ts) : ∀ u ∈ ts.map (·.cps.toList), 47 ∉ u := by
  intro u hu hm
  obtain ⟨x, hx, rfl⟩ := List.mem_map.mp hu
  exact ((h.2 x hx).2.2 47 hm).2 rfl
theorem take_of_jl {c : Nat} {ts as : List Str} {k : Nat} (h1 : 1 ≤ k) (hk : k ≤ ts.length) (hla : as.length = ts.length) (nt : ∀ u ∈ ts.map (·.cps.toList), c ∉ u) (na : ∀ u ∈ as.map (·.cps.toList), c ∉ u)
    (h : jl c (as.map (·.cps.toList)) = jl c ((ts.take k).map (·.cps.toList)) ∨ ∃ r, jl c (as.map (·.cps.toList)) = jl c ((ts.take k).map (·.cps.toList)) ++ c :: r) : ts.take k = as.take k := by
  have lk : ((ts.take k).map (·.cps.toList)).length = k := by rw [List.length_map, List.length_take]; omega
  have q := jl_pre (c := c) (us := (ts.take k).map (·.cps.toList)) (as := as.map (·.cps.toList)) (by intro e; rw [e] at lk; simp at lk; omega) (by intro e; have := congrArg List.length e; rw [List.length_map] at this; simp at this; rw [this] at hla; simp at hla; omega)
    (fun u hu => nt u (by rw [List.map_take] at hu; exact List.mem_of_mem_take hu)) na h
  rw [lk, ← List.map_take] at q
  exact map_inj q
/-- told as a module -/
theorem dot_hit {ts as : List Str} {k : Nat} {zm zj z : Str} (hgt : Labs ts) (hga : Labs as) (hla : as.length = ts.length) (h1 : 1 ≤ k) (hk : k ≤ ts.length) (hm : zm = Txt.join (Str.ofString ".") as) (hj : zj = Txt.join (Str.ofString ".") (ts.take k)) (hz : z = zj ++ Str.ofString ".") :
    (zm = zj ∨ Txt.startswith zm z = true) ↔ ts.take k = as.take k := by
  subst hm hj hz
  rw [dot_is]
  have ej := glue_jl 46 (ts.take k)
  have em := glue_jl 46 as
  constructor
  · intro h
    refine take_of_jl (c := 46) h1 hk hla (no_dot hgt) (no_dot hga) ?_
    rcases h with h | h
    · left; rw [← em, ← ej, h]
    · right
      obtain ⟨r, hr⟩ := (starts_iff _ _).mp h
      refine ⟨r, ?_⟩
      rw [← em, ← ej, hr, Str.cps_append]
      simp
  · intro h
    rw [h] at ej ⊢
    rcases jl_of_take (c := 46) (as := as.map (·.cps.toList)) (k := k) h1 (by rw [List.length_map]; omega) with ⟨_, q⟩ | ⟨_, r, q⟩
    · left
      apply str_ext
      rw [em, ej, List.map_take]
      exact q
    · right
      refine (starts_iff _ _).mpr ⟨r, ?_⟩
      rw [em, q, Str.cps_append, ← List.map_take, ← ej]
      simp
/-- told as a folder -/
theorem slash_hit {ts as : List Str} {k : Nat} {zf d z : Str} (hgt : Labs ts) (hga : Labs as) (hla : as.length = ts.length) (h1 : 1 ≤ k) (hk : k ≤ ts.length) (hf : zf = Str.ofString "/" ++ Txt.join (Str.ofString "/") as ++ Str.ofString "/m.py") (hd : d = Str.ofString "/" ++ Txt.join (Str.ofString "/") (ts.take k)) (hz : z = d ++ Str.ofString "/") :
    Txt.startswith zf z = true ↔ ts.take k = as.take k := by
  subst hf hd hz
  rw [slash_is]
  have ej := glue_jl 47 (ts.take k)
  have em := glue_jl 47 as
  have emp : (Str.ofString "/m.py").cps.toList = 47 :: [109, 46, 112, 121] := by decide +kernel
  have key : Txt.startswith (⟨#[47]⟩ ++ Txt.join ⟨#[47]⟩ as ++ Str.ofString "/m.py") (⟨#[47]⟩ ++ Txt.join ⟨#[47]⟩ (ts.take k) ++ ⟨#[47]⟩) = true ↔ ∃ r, jl 47 (as.map (·.cps.toList)) ++ 47 :: [109, 46, 112, 121] = jl 47 ((ts.take k).map (·.cps.toList)) ++ 47 :: r := by
    rw [starts_iff, ← em, ← ej, ← emp]
    simp [Str.cps_append]
  rw [key]
  constructor
  · rintro ⟨r, hr⟩
    have e2 : jl 47 (as.map (·.cps.toList)) ++ 47 :: [109, 46, 112, 121] = jl 47 (as.map (·.cps.toList) ++ [[109, 46, 112, 121]]) := by
      have gen : ∀ l : List (List Nat), l ≠ [] → jl 47 l ++ 47 :: [109, 46, 112, 121] = jl 47 (l ++ [[109, 46, 112, 121]]) := by
        intro l hl
        induction l with
        | nil => exact absurd rfl hl
        | cons x t ih =>
          cases t with
          | nil => rfl
          | cons y t =>
            show x ++ 47 :: jl 47 (y :: t) ++ 47 :: [109, 46, 112, 121] = x ++ 47 :: jl 47 ((y :: t) ++ [[109, 46, 112, 121]])
            rw [← ih (by simp)]
            simp
      refine gen _ fun e => ?_
      have := congrArg List.length e
      rw [List.length_map] at this
      simp at this
      rw [this] at hla
      simp at hla
      omega
    rw [e2] at hr
    have lk : ((ts.take k).map (·.cps.toList)).length = k := by rw [List.length_map, List.length_take]; omega
    have q := jl_pre (c := 47) (us := (ts.take k).map (·.cps.toList)) (as := as.map (·.cps.toList) ++ [[109, 46, 112, 121]]) (by intro e; rw [e] at lk; simp at lk; omega) (by simp)
      (fun u hu => no_slash hgt u (by rw [List.map_take] at hu; exact List.mem_of_mem_take hu)) (by
        intro u hu
        rcases List.mem_append.mp hu with hu | hu
        · exact no_slash hga u hu
        · rw [List.mem_singleton.mp hu]; decide) (.inr ⟨r, hr⟩)
    rw [lk, List.take_append_of_le_length (by rw [List.length_map]; omega), ← List.map_take] at q
    exact map_inj q
  · intro h
    rw [h]
    rcases jl_of_take (c := 47) (as := as.map (·.cps.toList)) (k := k) h1 (by rw [List.length_map]; omega) with ⟨_, q⟩ | ⟨_, r, q⟩
    · exact ⟨[109, 46, 112, 121], by rw [List.map_take, ← q]⟩
    · exact ⟨r ++ 47 :: [109, 46, 112, 121], by rw [List.map_take, q]; simp⟩
end
end
section
theorem ly12 : True := by
  k_with_none
  w_top off
  k_with "hd0" => (
    ktr_room)
  k_with "hd1" => (
    first
  | (refine' in_plain ?k1 ?k2 ?k4 ?k3 ?k5 ?kA ?kF ?kK ?k6 ?k7 ?k8 ?k9 ?kB ?_ ?c2 ?c3 ?c4 ?c5; (case kA => exact rfl); (case kF => exact rfl); (case kK => assumption); (case k1 => k_asm); (case k2 => k_asm); (case k3 => k_asm); (case k4 => assumption); (case k5 => k_asm); (case k6 => k_is); (case k7 => k_is); (case k8 => ktr_room); (case k9 => exact BindsTo.of_eq rfl); (case c5 => decide); (case kB => exact locs rfl); (case c2 => exact rfl); (case c3 => exact rfl); (case c4 => exact rfl); k_whole; intro g' L' h' hHid hSt F' N' B' X' T' l1; (try k_lt l1); (try dsimp only); (try k_lift B'); (try k_fold))
  | (refine' in_cells ?k1 ?k2 ?k4 ?k3 ?k5 ?kA ?kF ?kK ?k6 ?k7 ?k8 ?k9 ?kB ?kD ?_ ?c2 ?c3 ?c4; (case kA => exact rfl); (case kF => exact rfl); (case kK => assumption); (case k1 => k_asm); (case k2 => k_asm); (case k3 => k_asm); (case k4 => assumption); (case k5 => k_asm); (case k6 => k_is); (case k7 => k_is); (case k8 => ktr_room); (case k9 => exact BindsTo.of_eq rfl); (case kB => exact rfl); (case kD => decide +kernel); (case c2 => exact rfl); (case c3 => exact rfl); (case c4 => exact rfl); k_whole; intro g' L' h' tk' cells' hHid hSt F' N' Y' B' X' T' l1; (try k_lt l1); k_cells Y'; (try simp only [List.cons_append, List.nil_append] at N'); (try dsimp only); (try k_lift B'); (try k_fold)))
  k_with "hd2" => (
    (refine mem_of ?_; with_reducible assumption))
  k_with "hd3" => (
    first | with_reducible assumption | exact all_lt_ne (by with_reducible assumption) | (refine' all_ne_cons ?a ?b; (case a => k_ne); (case b => k_all)))
  k_with "hd4" => (
    first | with_reducible assumption | exact ne_of_ne' (by with_reducible assumption) | (refine' ne_off ?h ?m; (case h => with_reducible assumption); (case m => k_mem)) | (refine' ne_off' ?h ?m; (case h => with_reducible assumption); (case m => k_mem)) | (refine' ne_offlt ?h ?m; (case h => with_reducible assumption); (case m => k_mem)) | (refine' ne_offlt' ?h ?m; (case h => with_reducible assumption); (case m => k_mem)) | (refine neN ?_; dsimp only; first | with_reducible assumption | exact ne_of_ne' (by with_reducible assumption) | (refine' ne_off ?h ?m; (case h => with_reducible assumption); (case m => k_mem)) | (refine' ne_off' ?h ?m; (case h => with_reducible assumption); (case m => k_mem)) | (refine' ne_offlt ?h ?m; (case h => with_reducible assumption); (case m => k_mem)) | (refine' ne_offlt' ?h ?m; (case h => with_reducible assumption); (case m => k_mem)) | omega) | (refine neN ?_; omega))
  exact True.intro
section
theorem iter_emptyL {prog : Program} {w : World} {A : Around} {E : Value → Shared → Prop} {s : Shared} {env : Env} {h₀ : Heap} {x : Str} {body : List Stmt} {Q : Flow → Shared → Prop} {D : Addr} {n : Nat} {m₀ : Str → Option Value} {news : List (Addr × Obj)}
    (hh : A.handled = none) (F : Fr h₀ env.locals s.heap m₀) (N : News h₀ env.locals s.heap news) (hm : (D, W.listOf #[] n) ∈ news)
    (done : ∀ h tk, Fr h₀ env.locals h m₀ → News h₀ env.locals h news → Q .next { s with heap := h, toks := tk }) :
    wpAny (model prog w) A (pyIter (.ref D)) (fun it s₂ => LoopAtV prog w A h₀ env x body Q E it s₂) E s :=
  iter_listUnr (vs := []) (n := n) hh F N hm rfl rfl fun _ _ => ListRest.zero done
theorem unr_end {h₀ : Heap} {L I : Addr} {it : Obj} {rest : (Str → Option Value) → List (Addr × Obj) → Prop} {s₁ : Shared} {h' : Heap} {tk : Nat} {m' : Str → Option Value} {news' : List (Addr × Obj)} (F : Fr h₀ L h' m') (N : News h₀ L h' ((I, it) :: news'))
    (off : ∀ p ∈ news', p.1 < I) (r : rest m' news') : UnrEnd h₀ L s₁ I it rest { s₁ with heap := h', toks := tk } := UnrEnd.intro F N news' (fun _ h => h) (fun p hp => Nat.ne_of_lt (off p hp)) r
theorem ite_yes {c : Bool} {P Q : Prop} (h : c = true) (p : P) : if c = true then P else Q := by rw [if_pos h]; exact p
theorem ite_no {c : Bool} {P Q : Prop} (h : c = false) (q : Q) : if c = true then P else Q := by rw [if_neg (by rw [h]; decide)]; exact q
def hits (ts as : List Str) (k : Int) : Int := if ts.take k.toNat = as.take k.toNat then 1 else 0
section
theorem ly11 : True := by
  k_with "g11r0" => (
    (k_here; k_dflt (first
  | refine' join_upto ?k1 ?k2 ?k3 ?k4 ?k5 ?k6 ?_; (case k1 => k_asm); (case k2 => k_mem); (case k3 => assumption); (case k4 => omega); (case k5 => assumption); (case k6 => decide)
  | refine' join_all ?k1 ?k2 ?k3 ?k5 ?k6 ?_; (case k1 => k_asm); (case k2 => k_mem); (case k3 => assumption); (case k5 => assumption); (case k6 => decide)); intro z9 t' tk' he9 hl9; (try dsimp only)))
  k_with "g11r1" => (
    (k_here; k_dflt (refine' add_len ?k1 ?k2 ?k3 ?_; (case k1 => first | assumption | exact Nat.le_refl _); (case k2 => first | assumption | exact Nat.le_refl _); (case k3 => decide)); intro z9 t' tk' he9 hl9; (try dsimp only)))
  k_with "g11r2" => (
    (k_here; k_dflt (first
  | refine' truthy_one ?k1 ?k2 ?_; (case k1 => k_asm); (case k2 => k_mem)
  | refine' truthy_nil ?k1 ?k2 ?_; (case k1 => k_asm); (case k2 => k_mem)); (try dsimp only)))
  k_with "g11r3" => (
    (k_here; k_dflt (refine' set_one_K ?k1 ?k2 ?k3 ?k4 ?_; (case k1 => k_asm); (case k2 => k_asm); (case k3 => exact rfl); (case k4 => k_mem)); intro d' h' tk' o' F' N' hO' l1; (try k_lt l1); (try dsimp only)))
  k_with "g11r4" => (
    (k_here; k_dflt (first
  | (refine' in_new ?k1 ?k2 ?k3 ?_; (case k1 => k_tabat); (case k2 => exact rfl); (case k3 => first | decide | exact ne_string (by assumption) (by omega)))
  | (refine' in_put ?k1 ?k2 ?k3 ?_; (case k1 => k_tabat); (case k2 => exact rfl); (case k3 => first | decide | exact ne_string (by assumption) (by omega)))
  | (refine' in_one ?k1 ?k2 ?k3 ?_; (case k1 => k_asm); (case k3 => assumption); (case k2 => k_mem))); (try dsimp only)))
  k_with "g11r5" => (
    (k_here; k_dflt (refine' get_put ?k1 ?k2 ?k3 ?_; (case k1 => k_tabat); (case k2 => exact rfl); (case k3 => first | decide | exact ne_string (by assumption) (by omega))); intro t'; (try dsimp only)))
  k_with "g11r6" => (
    (k_dflt (refine' unr_end ?k1 ?k2 ?k4 ?_; (case k1 => k_asm); (case k2 => k_asm); (case k4 => assumption)); refine ⟨by k_mem, ?_⟩; intro h' tk' F' N'; (try dsimp only)))
  k_with "g11r7" => (
    (k_here; k_dflt (first
  | (refine' iter_oneUnr ?k1 ?k2 ?k3 ?k4 ?k5 ?_; (case k1 => exact rfl); (case k2 => k_asm); (case k3 => k_asm); (case k5 => assumption); (case k4 => k_mem); intro i' it' t' h' tk' l1 F' N'; (have l2 := l1); (try k_lt l2); (try dsimp only))
  | (refine' iter_emptyL ?k1 ?k2 ?k3 ?k4 ?_; (case k1 => exact rfl); (case k2 => k_asm); (case k3 => k_asm); (case k4 => k_mem); intro h' tk' F' N'; (try dsimp only))
  | (refine' iter_nilUnr ?k1 ?k2 ?k3 ?k4 ?_; (case k1 => exact rfl); (case k2 => k_asm); (case k3 => k_asm); (case k4 => k_mem); intro h' tk' F' N'; (try dsimp only)))))
  k_with "g11r8" => (
    (first | refine ite_yes (by with_reducible assumption) ?_ | refine ite_no (by with_reducible assumption) ?_))
  exact True.intro
local macro_rules | `(tactic| walk_at "call builtin:str.join") => `(tactic| k_extra "g11r0")
local macro_rules | `(tactic| walk_at "binaryOp Add str str") => `(tactic| k_extra "g11r1")
local macro_rules | `(tactic| walk_at "truthy ref") => `(tactic| k_extra "g11r2")
local macro_rules | `(tactic| walk_at "call type:set cons nil") => `(tactic| k_extra "g11r3")
local macro_rules | `(tactic| walk_at "compareOp In str ref") => `(tactic| k_extra "g11r4")
local macro_rules | `(tactic| walk_at "getItem ref str") => `(tactic| k_extra "g11r5")
local macro_rules | `(tactic| walk_at "UnrEnd") => `(tactic| k_extra "g11r6")
local macro_rules | `(tactic| walk_at "pyIter ref") => `(tactic| k_extra "g11r7")
local macro_rules | `(tactic| walk_at "ite") => `(tactic| k_extra "g11r8")
theorem hits_yes {ts as : List Str} {k : Int} (h : ts.take k.toNat = as.take k.toNat) : hits ts as k = 1 := if_pos h
theorem hits_no {ts as : List Str} {k : Int} (h : ¬ ts.take k.toNat = as.take k.toNat) : hits ts as k = 0 := if_neg h
theorem st_go {ts as : List Str} {d e : Int} {pre : List Int} {k : Int} (hd : d = (pre.map (hits ts as)).sum) (he : hits ts as k = e) : d + e = ((pre ++ [k]).map (hits ts as)).sum := by
  rw [List.map_append, List.sum_append, hd]
  simp [he]
section
variable {ts as : List Str} {d : Int} {pre : List Int} {k : Int} {n : Nat} {zm zj z : Str}
theorem st_eq (hd : d = (pre.map (hits ts as)).sum) (hgt : Labs ts) (hga : Labs as) (hla : as.length = ts.length) (hk : k = 1 + (pre.length : Int)) (hn : pre.length < ((ts.length : Int) + 1 - 1).toNat) (hm : zm = Txt.join (Str.ofString ".") as) (hj : zj = Txt.join (Str.ofString ".") (ts.take k.toNat)) (he : zm = zj) :
    d + 1 = ((pre ++ [k]).map (hits ts as)).sum :=
  st_go hd (hits_yes ((dot_hit hgt hga hla (by omega) (by omega) hm hj rfl).mp (.inl he)))
theorem st_sw (hd : d = (pre.map (hits ts as)).sum) (hgt : Labs ts) (hga : Labs as) (hla : as.length = ts.length) (hk : k = 1 + (pre.length : Int)) (hn : pre.length < ((ts.length : Int) + 1 - 1).toNat) (hm : zm = Txt.join (Str.ofString ".") as) (hj : zj = Txt.join (Str.ofString ".") (ts.take k.toNat)) (hz : z = zj ++ Str.ofString ".") (hs : Txt.startswith zm z = true) :
    d + 1 = ((pre ++ [k]).map (hits ts as)).sum :=
  st_go hd (hits_yes ((dot_hit hgt hga hla (by omega) (by omega) hm hj hz).mp (.inr hs)))
theorem st_no (hd : d = (pre.map (hits ts as)).sum) (hgt : Labs ts) (hga : Labs as) (hla : as.length = ts.length) (hk : k = 1 + (pre.length : Int)) (hn : pre.length < ((ts.length : Int) + 1 - 1).toNat) (hm : zm = Txt.join (Str.ofString ".") as) (hj : zj = Txt.join (Str.ofString ".") (ts.take k.toNat)) (hz : z = zj ++ Str.ofString ".") (hne : ¬ zm = zj) (hs : Txt.startswith zm z = false) :
    d + 0 = ((pre ++ [k]).map (hits ts as)).sum :=
  st_go hd (hits_no fun h => ((dot_hit hgt hga hla (by omega) (by omega) hm hj hz).mpr h).elim hne fun q => by rw [hs] at q; cases q)
end
theorem c_depth_even (w : World) (lt la : Addr) (ts as : List Str) (yt ya : List Value) (nt na : Nat) (ht : StrsAre yt ts) (ha : StrsAre ya as) (hgt : Labs ts) (hga : Labs as) (h2 : 2 ≤ ts.length) (hla : as.length = ts.length) (hpar : ((ts.length : Int).fmod 2 == 0) = true) :
    Ctr w 60 152 [.ref lt, .ref la] [(lt, W.listOf yt.toArray nt), (la, W.listOf ya.toArray na)] (fun _ => True) (RInt ((rangeKs 1 ts.length).map (hits ts as)).sum) := by
  unfold Ctr
  k_fill
  intro loose mean mg mb dp un gd cn cs a ccd cl outer A₀ base h₀ L m hp gens drawn tk os Q E hB hF hN hX hT hk hdp hun hpre hret
  have hft := hgt.few
  have hfa := hga.few
  have hft4 := hft.1
  have hft2 : 2 ≤ as.length := by omega
  refine wpAny_call ?_
  k_dflt cell_enter
  k_with "pyIter ref" => k_state (fun pre depth => depth = (pre.map (hits ts as)).sum) "depth"
  k_with "state" => (first | exact rfl | exact st_eq (by assumption) (by assumption) (by assumption) (by assumption) (by assumption) (by assumption) (zm := _) (by assumption) (by assumption) (by assumption) | exact st_sw (by assumption) (by assumption) (by assumption) (by assumption) (by assumption) (by assumption) (by assumption) (by assumption) (by assumption) (by assumption) | exact st_no (by assumption) (by assumption) (by assumption) (by assumption) (by assumption) (by assumption) (by assumption) (by assumption) (by assumption) (by assumption) (by assumption))
  k_steps
  all_goals refine ends (Ret := RInt ((rangeKs 1 ts.length).map (hits ts as)).sum) hret (by assumption) (by k_asm) (by k_asm) (List.forall_mem_cons.mpr ⟨by k_mem, List.forall_mem_cons.mpr ⟨by k_mem, List.forall_mem_nil _⟩⟩) ⟨_, congrArg (fun x => Value.int x _) ?_⟩
  all_goals (rename _ = (List.map (hits ts as) (rangeKs 1 _)).sum => hE9; rw [hE9, show ((ts.length : Int) + 1 - 1).toNat = ts.length by omega])
end
end
end
section
section
theorem strs_of_values : ∀ l : List (Str × Tok), StrsAre (strValues l) (l.map (·.1))
  | [] => .nil
  | (x, t) :: l => .cons x t (strs_of_values l)
section
variable {prog : Program} {w : World} {A : Around} {E : Value → Shared → Prop} {s : Shared} {h₀ : Heap} {L : Addr} {m : Str → Option Value} {news : List (Addr × Obj)} {x y : Str} {t u : Tok} {us : List Str} {Q : Value → Shared → Prop}
theorem split_us (hF : Fr h₀ L s.heap m) (hN : News h₀ L s.heap news) (hy : (y.length == 0) = false) (hsp : Txt.split x y = us) (hsz : x.length ≤ 1000)
    (h : ∀ D vs h' k, StrsAre vs us → Fr h₀ L h' m → News h₀ L h' ((D, W.listOf vs.toArray 0) :: news) → (∀ p ∈ news, p.1 < D) → Q (.ref D) { s with heap := h', toks := k }) :
    wpAny (model prog w) A (call (.builtin "str.split") [.str x t, .str y u]) Q E s :=
  splitN1 hF hN hy (fun l h' k hl F' N' => h _ (strValues l) h' k (by have := strs_of_values l; rw [hl, hsp] at this; exact this) F' N' fun p hp => Heap.lt_size (hN p hp).1) (by have : sizeLine = 16777216 := sizeLine_eq; omega)
end
theorem split_some (x y : Str) : Txt.split x y ≠ [] := by
  unfold Txt.split
  split
  · simp
  · split
    · simp
    · intro e
      have := congrArg List.length e
      rw [length_partsBetween] at this
      simp at this
/-- what is split is what was joined -/
theorem split_is {c : Nat} {x : Str} {us : List Str} (hne : us ≠ []) (hf : ∀ u ∈ us, c ∉ u.cps.toList) (hx : x.cps.toList = jl c (us.map (·.cps.toList))) : Txt.split x ⟨#[c]⟩ = us := by
  have hj := join_jl c (Txt.split x ⟨#[c]⟩)
  rw [StrLaws.join_split] at hj
  have hs : ∀ u ∈ (Txt.split x ⟨#[c]⟩).map (·.cps.toList), c ∉ u := by
    intro u hu
    obtain ⟨p, hp, rfl⟩ := List.mem_map.mp hu
    exact StrLaws.split_free x c p hp
  have hf' : ∀ u ∈ us.map (·.cps.toList), c ∉ u := by
    intro u hu
    obtain ⟨p, hp, rfl⟩ := List.mem_map.mp hu
    exact hf p hp
  have e : jl c ((Txt.split x ⟨#[c]⟩).map (·.cps.toList)) = jl c (us.map (·.cps.toList)) := by rw [← hj, hx]
  by_cases h0 : Txt.split x ⟨#[c]⟩ = []
  · exact absurd h0 (split_some x _)
  · have q1 := jl_pre (c := c) (us := (Txt.split x ⟨#[c]⟩).map (·.cps.toList)) (as := us.map (·.cps.toList)) (by simpa using h0) (by simpa using hne) hs hf' (.inl e.symm)
    have q2 := jl_pre (c := c) (us := us.map (·.cps.toList)) (as := (Txt.split x ⟨#[c]⟩).map (·.cps.toList)) (by simpa using hne) (by simpa using h0) hf' hs (.inl e)
    have l1 := congrArg List.length q1
    have l2 := congrArg List.length q2
    simp only [List.length_map, List.length_take] at l1 l2
    have le : (Txt.split x ⟨#[c]⟩).length = us.length := by omega
    rw [List.length_map, le, ← List.map_take, List.take_length] at q1
    exact map_inj q1
end
section
theorem peek_alloc {α : Type} {K : Frag} {M : Model} {A : Around} {E : Value → Shared → Prop} {Q : α → Shared → Prop} {s : Shared} {o : Obj} (X : K.In s.heap) :
    ∀ (t : Sem α) (g : Addr → Sem α), peekA K ⟨M.prog, M.w.params⟩ t = some (o, g) → wpAny M A (g s.heap.objs.size) Q E { s with heap := s.heap.push o } → wpAny M A t Q E s := by
  intro t
  induction t with
  | rule _ k ih => intro g e q Γ p hΓ; exact ih () g e q Γ p hΓ
  | point _ k ih => intro g e q Γ p hΓ; exact ih () g e q Γ p hΓ
  | ask k ih => intro g e q Γ p hΓ; exact ih _ g e q Γ p hΓ
  | load a _ k ih =>
    intro g e q Γ p hΓ
    simp only [peekA] at e
    split at e
    · rename_i ob ho; exact ⟨ob, X _ _ ho, ih ob g e q Γ p hΓ⟩
    · cases e
  | alloc ob k _ =>
    intro g e q
    obtain ⟨e1, e2⟩ := Prod.mk.inj (Option.some.inj (show some (ob, k) = some (o, g) from e))
    subst e1
    subst e2
    show wpAny M A (alloc ob >>= k) Q E s
    exact wpAny_bind (wpAny_alloc q)
  | _ => intro g e; cases e
variable {prog : Program} {w : World} {A A₀ : Around} {K : Frag} {L : Addr} {h₀ base hp : Heap} {gens : Array GenState} {drawn : Drawn} {tk : Nat} {os : OsState} {m mg mb : Str → Option Value} {p : Program} {loose : List Str} {mean : ExcName → Option Value}
  {env : Env} {outer : List Env} {R : Result → Shared → Prop} {name qual : Str} {params : Arguments} {body : List Stmt} {scope : Scope} {dV kV doc pm cdv ct oc : Value} {an od : Option Addr} {osl : Array (Option Value)} {f : Addr} {args : Args} {binds : Addr → Addr → List (Str × Value)} {o1 o2 : Obj}
  {g₁ : Addr → Sem (List (Str × Value))} {g₂ : Addr → Addr → Sem (List (Str × Value))}
theorem push_stays (h : Heap) (o : Obj) : h.StaysIn (h.push o) := fun b ob e => by
  have := Heap.lt_size e
  unfold Heap.get? Heap.push at *
  simp only [Array.getElem?_push] at *
  rw [if_neg (Nat.ne_of_lt this)]
  exact e
theorem hid_less {hp hp2 g : Heap} {news : List (Addr × Obj)} (hs : hp.StaysIn hp2) (H : Hid hp2 g news) : Hid hp g news :=
  ⟨fun h' st hn b o e => H.stays h' st hn b o (hs b o e), fun a hg hne => by
    cases q : hp.get? a with
    | none => rfl
    | some o => have := H.fresh a hg hne; rw [hs a o q] at this; cases this⟩
/-- the entry of a def with *args, **kwargs: two objects of its own -/
theorem in_both (B : Below A₀ base outer h₀) (F : Fr h₀ L hp m) (X₀ : K.In h₀) (T : Top p loose mean mg mb h₀) (hA : A.frames = some (env :: outer)) (hf : env.frame = some L) (hke : env.scope.kind = .function)
    (ho : K.lookup f = some ⟨oc, od, .func (fnOf name qual params body scope dV kV doc pm an cdv ct), osl⟩) (hcd : codeIn K cdv qual = true) (hroom : A.depth < recursionLimit)
    (hp1 : peekA K ⟨prog, w.params⟩ (bindArgs (fnOf name qual params body scope dV kV doc pm an cdv ct) args) = some (o1, g₁))
    (hp2 : ∀ C, peekA K ⟨prog, w.params⟩ (g₁ C) = some (o2, g₂ C)) (hk2 : ∀ C D, g₂ C D = pure (binds C D)) (hfree1 : o1.isFreed = false) (hfree2 : o2.isFreed = false)
    (hloc : ∀ C D, ∀ y ∈ binds C D, scope.names.lookup y.1 = some .local)
    (h : ∀ C D g L' h₁ tk', C < D → (D == sysModules) = false → Hid hp g [(D, o2), (C, o1)] → h₀.StaysIn g → Fr g L' h₁ (fun y => (binds C D).reverse.lookup y) → News g L' h₁ [(D, o2), (C, o1)] → Below A base (env :: outer) g → K.In g → Top p loose mean mg mb g →
      wpAny (model prog w) (A.deeper (envOf qual scope L' f cdv)) (execs body (envOf qual scope L' f cdv))
        (fun fl s' => CEnd R (match fl with | .ret v => v | _ => .none) s')
        (fun e s' => wpAny (model prog w) (A.deeper (envOf qual scope L' f cdv)) (leaving (envOf qual scope L' f cdv) e) (fun _ s'' => R (.error e) s'') (fun e' s'' => R (.error e') s'') s')
        ⟨h₁, gens, drawn, tk', os⟩)
    (hco : scope.isCoroutine = false) (hgen : scope.isGenerator = false) (hk : scope.kind = .function) (hcell : ∀ x ∈ scope.names, x.2 ≠ .cell) : codeAny (model prog w) A (.call (.ref f) args) R ⟨hp, gens, drawn, tk, os⟩ := by
  have F1 := F.push o1
  have N1 := News.push F News.nil o1 hfree1
  have F2 := F1.push o2
  have N2 := News.push F1 N1 o2 hfree2
  have hs2 : hp.StaysIn ((hp.push o1).push o2) := fun b o e => push_stays _ o2 b o (push_stays _ o1 b o e)
  obtain ⟨FG, BG, st, lv⟩ := groundX (s := ⟨(hp.push o1).push o2, gens, drawn, tk, os⟩) (R := R) B F2 N2 hA hf hke
  have X := X₀.keeps F.keep
  refine codeAny_call_function hroom (X _ _ ho) rfl hco hgen rfl (codeRec_of X hcd) ?_
  refine peek_alloc X _ g₁ hp1 ?_
  refine peek_alloc (s := ⟨hp.push o1, gens, drawn, tk, os⟩) (X₀.keeps F1.keep) _ (g₂ hp.objs.size) (hp2 _) ?_
  rw [hk2]
  refine wpAny_pure ?_
  have lim : ((hp.push o1).push o2).NoLimit := T.nolimit.keeps F2.keep
  refine wpAny_newFunctionEnv hcell (hloc _ _) (fun h' hns hsb => ⟨lim.fresh _ hsb, codeAny_func ?_⟩) hk
  have hk' : ((hp.push o1).push o2).StaysIn h' := fun b o e => hsb.extBut b o (Nat.ne_of_lt (Heap.lt_size e)) (Heap.get?_push_of_some _ e)
  have hC : hp.objs.size < (hp.push o1).objs.size := by simp [Heap.push]
  exact h hp.objs.size (hp.push o1).objs.size _ ((hp.push o1).push o2).objs.size h' _ hC (F1.notModules (modules_low T.nolimit)) (hid_less hs2 (hid_of N2)) st ⟨hns, fun b o e => hk' b o (of_hideAll _ e), Nat.le_of_eq (hideAll_size _ _)⟩
    (fun p hp => ⟨hk' _ _ (N2 p hp).1, Nat.ne_of_lt (Heap.lt_size (N2 p hp).1), hideAll_none _ (List.mem_map_of_mem hp)⟩) BG (X₀.keeps st) (T.keeps st)
theorem truthy_nokw {A : Around} {E : Value → Shared → Prop} {s : Shared} {d : Addr} {full : List (Addr × Obj)} {Q : Bool → Shared → Prop} (N : News h₀ L s.heap full) (hm : (d, dictOf [] 0) ∈ full) (lo : (d == sysModules) = false) (h : Q false { s with toks := s.toks + 1 + 1 }) : wpAny (model prog w) A (truthy (.ref d)) Q E s :=
  truthy_tab (knd := strKind prog w) (enc := PyData.str) (D := []) (TabAt.ofNews N hm lo (kp_isDict (ex := []) 0 0 List.nodup_nil) .nil) (by decide) h
end
end
section
local macro_rules | `(tactic| walk_at "mine idle") => `(tactic| fail "idle")
theorem ly15 : True := by
  k_with_none
  w_top off
  k_with "hd0" => (
    ktr_room)
  k_with "hd1" => (
    first
  | (refine' in_plain ?k1 ?k2 ?k4 ?k3 ?k5 ?kA ?kF ?kK ?k6 ?k7 ?k8 ?k9 ?kB ?_ ?c2 ?c3 ?c4 ?c5; (case kA => exact rfl); (case kF => exact rfl); (case kK => assumption); (case k1 => k_asm); (case k2 => k_asm); (case k3 => k_asm); (case k4 => assumption); (case k5 => k_asm); (case k6 => k_is); (case k7 => k_is); (case k8 => ktr_room); (case k9 => exact BindsTo.of_eq rfl); (case c5 => decide); (case kB => exact locs rfl); (case c2 => exact rfl); (case c3 => exact rfl); (case c4 => exact rfl); k_whole; intro g' L' h' hHid hSt F' N' B' X' T' l1; (try k_lt l1); (try dsimp only); (try k_lift B'); (try k_fold))
  | (refine' in_cells ?k1 ?k2 ?k4 ?k3 ?k5 ?kA ?kF ?kK ?k6 ?k7 ?k8 ?k9 ?kB ?kD ?_ ?c2 ?c3 ?c4; (case kA => exact rfl); (case kF => exact rfl); (case kK => assumption); (case k1 => k_asm); (case k2 => k_asm); (case k3 => k_asm); (case k4 => assumption); (case k5 => k_asm); (case k6 => k_is); (case k7 => k_is); (case k8 => ktr_room); (case k9 => exact BindsTo.of_eq rfl); (case kB => exact rfl); (case kD => decide +kernel); (case c2 => exact rfl); (case c3 => exact rfl); (case c4 => exact rfl); k_whole; intro g' L' h' tk' cells' hHid hSt F' N' Y' B' X' T' l1; (try k_lt l1); k_cells Y'; (try simp only [List.cons_append, List.nil_append] at N'); (try dsimp only); (try k_lift B'); (try k_fold)))
  k_with "hd2" => (
    (refine mem_of ?_; with_reducible assumption))
  k_with "hd3" => (
    first | with_reducible assumption | exact all_lt_ne (by with_reducible assumption) | (refine' all_ne_cons ?a ?b; (case a => k_ne); (case b => k_all)))
  k_with "hd4" => (
    first | with_reducible assumption | exact ne_of_ne' (by with_reducible assumption) | (refine' ne_off ?h ?m; (case h => with_reducible assumption); (case m => k_mem)) | (refine' ne_off' ?h ?m; (case h => with_reducible assumption); (case m => k_mem)) | (refine' ne_offlt ?h ?m; (case h => with_reducible assumption); (case m => k_mem)) | (refine' ne_offlt' ?h ?m; (case h => with_reducible assumption); (case m => k_mem)) | (refine neN ?_; dsimp only; first | with_reducible assumption | exact ne_of_ne' (by with_reducible assumption) | (refine' ne_off ?h ?m; (case h => with_reducible assumption); (case m => k_mem)) | (refine' ne_off' ?h ?m; (case h => with_reducible assumption); (case m => k_mem)) | (refine' ne_offlt ?h ?m; (case h => with_reducible assumption); (case m => k_mem)) | (refine' ne_offlt' ?h ?m; (case h => with_reducible assumption); (case m => k_mem)) | omega) | (refine neN ?_; omega))
  exact True.intro
section
section
variable {prog : Program} {w : World} {A : Around} {E : Value → Shared → Prop} {s : Shared} {x y : Str} {t u : Tok}
theorem truthy_lab {Q : Bool → Shared → Prop} (h1 : 1 ≤ x.length) (h2 : x.length ≤ 40) (h : Q true { s with toks := s.toks + 1 + 1 }) : wpAny (model prog w) A (truthy (.str x t)) Q E s := by
  refine P.truthy_str (by omega) ?_
  have : ((x.length : Int) != 0) = true := by simp; omega
  rw [this]; exact h
theorem eq_no {Q : Value → Shared → Prop} (hne : x ≠ y) (h : Q (.bool false) s) : wpAny (model prog w) A (compareOp .Eq (.str x t) (.str y u)) Q E s := by
  refine PyProof.Rows.eq_str ?_
  rw [beq_eq_false_iff_ne.mpr hne]; exact h
theorem ne_yes {Q : Value → Shared → Prop} (hne : x ≠ y) (h : Q (.bool true) s) : wpAny (model prog w) A (compareOp .NotEq (.str x t) (.str y u)) Q E s := by
  refine PyProof.Rows.ne_str ?_
  have : (x != y) = true := bne_iff_ne.mpr hne
  rw [this]; exact h
theorem add_short {Q : Value → Shared → Prop} (hl : (x ++ y).length ≤ 40) (h : ∀ t' tk, Q (.str (x ++ y) t') { s with toks := tk }) : wpAny (model prog w) A (binaryOp .Add (.str x t) (.str y u)) Q E s := by
  refine PyProof.Rows.add_str (fun t' tk => h t' tk) ?_
  have : sizeLine = 16777216 := sizeLine_eq
  rw [Str.length_append] at hl
  omega
end
theorem ly13 : True := by
  k_with "g13r0" => (
    (k_here; k_dflt (refine' add_short ?k1 ?_; (case k1 => assumption); intro t' tk'; (try dsimp only))))
  k_with "g13r1" => (
    (k_here; k_dflt (refine' truthy_lab ?k1 ?k2 ?_; (case k1 => assumption); (case k2 => assumption); (try dsimp only))))
  k_with "g13r2" => (
    (k_here; k_dflt (refine' eq_no ?k1 ?_; (case k1 => assumption); (try dsimp only))))
  k_with "g13r3" => (
    (k_here; k_dflt (refine' ne_yes ?k1 ?_; (case k1 => assumption); (try dsimp only))))
  exact True.intro
local macro_rules | `(tactic| walk_at "binaryOp Add str str") => `(tactic| k_extra "g13r0")
local macro_rules | `(tactic| walk_at "truthy str") => `(tactic| k_extra "g13r1")
local macro_rules | `(tactic| walk_at "compareOp Eq str str") => `(tactic| k_extra "g13r2")
local macro_rules | `(tactic| walk_at "compareOp NotEq str str") => `(tactic| k_extra "g13r3")
section
variable {prog : Program} {w : World} {A : Around} {E : Value → Shared → Prop} {s : Shared} {env : Env} {h₀ : Heap} {x : Str} {body : List Stmt} {Q : Flow → Shared → Prop}
theorem set_twice {m : Str → Option Value} {x : Str} {c v : Option Value} : (fun y => if y = x then v else (fun y => if y = x then c else m y) y) = fun y => if y = x then v else m y := by
  funext y
  by_cases h : y = x
  · simp only [if_pos h]
  · simp only [if_neg h]
theorem set_same {m : Str → Option Value} {x : Str} : (fun y => if y = x then m x else m y) = m := by
  funext y
  by_cases h : y = x
  · rw [if_pos h, h]
  · rw [if_neg h]
/-- a for over a list of the ledger, its turns told by what is left of it -/
theorem list_turns {ax : Addr} {lo : Obj} {vs : List Value} {n : Nat} {m₀ : Str → Option Value} {news : List (Addr × Obj)} (J : List Value → List (Addr × Obj) → Prop)
    (hh : A.handled = none) (F : Fr h₀ env.locals s.heap m₀) (N : News h₀ env.locals s.heap news) (hc : lo.cls = .type "list") (hd : lo.data = .seq vs.toArray n) (hJ : ∀ r n', J r n' → (ax, lo) ∈ n') (h0 : J vs news)
    (turn : ∀ I v r news₁ it h tk, (∀ p ∈ news, p.1 < I) → J (v :: r) news₁ → Fr h₀ env.locals h (fun y => if y = x then some v else m₀ y) → News h₀ env.locals h ((I, it) :: news₁) →
      wpAny (model prog w) A (execs body env) (UnrPost h₀ env.locals { s with heap := h, toks := tk } I it (fun m' n' => m' = (fun y => if y = x then some v else m₀ y) ∧ J r n') Q) E { s with heap := h, toks := tk })
    (done : ∀ c h tk news', J [] news' → Fr h₀ env.locals h (fun y => if y = x then c else m₀ y) → News h₀ env.locals h news' → Q .next { s with heap := h, toks := tk }) :
    wpAny (model prog w) A (pyIter (.ref ax)) (fun it s₂ => LoopAtV prog w A h₀ env x body Q E it s₂) E s := by
  refine iter_listUnr hh F N (hJ _ _ h0) hc hd fun I l1 => ?_
  have claim : ∀ (r : List Value) (c : Option Value) (n' : List (Addr × Obj)), J r n' → ListRest prog w A E h₀ env x body Q s I (ax, lo) r (fun y => if y = x then c else m₀ y) n' := by
    intro r
    induction r with
    | nil => exact fun c n' hj => ListRest.zero fun h tk F' N' => done c h tk n' hj F' N'
    | cons v r ih =>
      refine fun c n' hj => ListRest.succ fun it h tk _ F' N' => ?_
      rw [set_twice] at F'
      refine wpAny_mono (turn I v r n' it h tk l1 hj F' N') (fun f s' p => ?_) fun _ _ e => e
      have up : UnrEnd h₀ env.locals { s with heap := h, toks := tk } I it (fun m' n' => m' = (fun y => if y = x then some v else m₀ y) ∧ J r n') s' →
          UnrEnd h₀ env.locals { s with heap := h, toks := tk } I it (fun m' n' => (ax, lo) ∈ n' ∧ ListRest prog w A E h₀ env x body Q s I (ax, lo) r m' n') s' := by
        rintro ⟨h', tk', m', n2, e, F2, N2, o2, rfl, hj2⟩
        exact ⟨h', tk', _, n2, e, F2, N2, o2, hJ _ _ hj2, ih _ _ hj2⟩
      cases f with
      | ret v => exact p
      | brk => exact p
      | next => exact up p
      | cont => exact up p
  have := claim vs (m₀ x) news h0
  rwa [set_same] at this
theorem strs_concat {vs : List Value} {ns : List Str} (h : StrsAre vs ns) (a : Str) (t : Tok) : StrsAre (vs.concat (.str a t)) (ns ++ [a]) := by
  rw [List.concat_eq_append]
  induction h with
  | nil => exact .cons a t .nil
  | cons y u _ ih => exact .cons y u ih
theorem np_loop {lN D : Addr} {vs : List Value} {ts : List Str} {m₀ : Str → Option Value}
    (hh : A.handled = none) (F : Fr h₀ env.locals s.heap m₀) (N : News h₀ env.locals s.heap [(lN, W.listOf #[] 0), (D, W.listOf vs.toArray 0)]) (hS : StrsAre vs (Str.ofString "q" :: Str.ofString ".." :: (ts ++ [Str.ofString "."]))) (hf : Few ts) (hts : ∀ x ∈ ts, 1 ≤ x.length ∧ x.length ≤ 40 ∧ x ≠ Str.ofString "." ∧ x ≠ Str.ofString "..")
    (tq : ∀ I t it h tk, @Ne Nat lN I → @Ne Nat D I → Fr h₀ env.locals h (fun y => if y = x then some (.str (Str.ofString "q") t) else m₀ y) → News h₀ env.locals h [(I, it), (lN, W.listOf #[] 0), (D, W.listOf vs.toArray 0)] →
      wpAny (model prog w) A (execs body env) (UnrPost h₀ env.locals { s with heap := h, toks := tk } I it (fun m' n' => m' = (fun y => if y = x then some (.str (Str.ofString "q") t) else m₀ y) ∧ ∃ u k, n' = [(lN, W.listOf #[.str (Str.ofString "q") u] k), (D, W.listOf vs.toArray 0)]) Q) E { s with heap := h, toks := tk })
    (td : ∀ I t u k it h tk, @Ne Nat lN I → @Ne Nat D I → Fr h₀ env.locals h (fun y => if y = x then some (.str (Str.ofString "..") t) else m₀ y) → News h₀ env.locals h [(I, it), (lN, W.listOf #[.str (Str.ofString "q") u] k), (D, W.listOf vs.toArray 0)] →
      wpAny (model prog w) A (execs body env) (UnrPost h₀ env.locals { s with heap := h, toks := tk } I it (fun m' n' => m' = (fun y => if y = x then some (.str (Str.ofString "..") t) else m₀ y) ∧ ∃ k, n' = [(lN, W.listOf #[] k), (D, W.listOf vs.toArray 0)]) Q) E { s with heap := h, toks := tk })
    (tl : ∀ I a t yN k it h tk, 1 ≤ a.length → a.length ≤ 40 → a ≠ Str.ofString "." → a ≠ Str.ofString ".." → (List.toArray yN).size ≤ sizeLine → @Ne Nat lN I → @Ne Nat D I → Fr h₀ env.locals h (fun y => if y = x then some (.str a t) else m₀ y) → News h₀ env.locals h [(I, it), (lN, W.listOf (List.toArray yN) k), (D, W.listOf vs.toArray 0)] →
      wpAny (model prog w) A (execs body env) (UnrPost h₀ env.locals { s with heap := h, toks := tk } I it (fun m' n' => m' = (fun y => if y = x then some (.str a t) else m₀ y) ∧ ∃ u k, n' = [(lN, W.listOf (List.toArray (yN.concat (.str a u))) k), (D, W.listOf vs.toArray 0)]) Q) E { s with heap := h, toks := tk })
    (tp : ∀ I t yN k it h tk, @Ne Nat lN I → @Ne Nat D I → Fr h₀ env.locals h (fun y => if y = x then some (.str (Str.ofString ".") t) else m₀ y) → News h₀ env.locals h [(I, it), (lN, W.listOf (List.toArray yN) k), (D, W.listOf vs.toArray 0)] →
      wpAny (model prog w) A (execs body env) (UnrPost h₀ env.locals { s with heap := h, toks := tk } I it (fun m' n' => m' = (fun y => if y = x then some (.str (Str.ofString ".") t) else m₀ y) ∧ n' = [(lN, W.listOf (List.toArray yN) k), (D, W.listOf vs.toArray 0)]) Q) E { s with heap := h, toks := tk })
    (done : ∀ c h tk yN k, StrsAre yN ts → Fr h₀ env.locals h (fun y => if y = x then c else m₀ y) → News h₀ env.locals h [(lN, W.listOf (List.toArray yN) k), (D, W.listOf vs.toArray 0)] → Q .next { s with heap := h, toks := tk }) :
    wpAny (model prog w) A (pyIter (.ref D)) (fun it s₂ => LoopAtV prog w A h₀ env x body Q E it s₂) E s := by
  refine list_turns (J := fun r n' => ∃ us acc yN k, n' = [(lN, W.listOf (List.toArray yN) k), (D, W.listOf vs.toArray 0)] ∧ StrsAre r us ∧ StrsAre yN acc ∧
      ((us = Str.ofString "q" :: Str.ofString ".." :: (ts ++ [Str.ofString "."]) ∧ acc = [] ∧ k = 0) ∨ (us = Str.ofString ".." :: (ts ++ [Str.ofString "."]) ∧ acc = [Str.ofString "q"]) ∨ (∃ bs, ts = acc ++ bs ∧ us = bs ++ [Str.ofString "."]) ∨ (us = [] ∧ acc = ts)))
    hh F N rfl rfl (fun r n' ⟨_, _, _, _, e, _⟩ => by rw [e]; exact .tail _ (.head _)) ⟨_, [], [], 0, rfl, hS, .nil, .inl ⟨rfl, rfl, rfl⟩⟩ ?_ ?_
  · rintro I v r news₁ it h tk l1 ⟨us, acc, yN, k, rfl, hr, hy, st⟩ F' N'
    have n1 : @Ne Nat lN I := Nat.ne_of_lt (l1 _ (.head _))
    have n2 : @Ne Nat D I := Nat.ne_of_lt (l1 _ (.tail _ (.head _)))
    have up : ∀ {P P' : (Str → Option Value) → List (Addr × Obj) → Prop} {f : Flow} {s' : Shared}, (∀ m' n', P m' n' → P' m' n') → UnrPost h₀ env.locals { s with heap := h, toks := tk } I it P Q f s' → UnrPost h₀ env.locals { s with heap := h, toks := tk } I it P' Q f s' := by
      intro P P' f s' hp p
      have u : UnrEnd h₀ env.locals { s with heap := h, toks := tk } I it P s' → UnrEnd h₀ env.locals { s with heap := h, toks := tk } I it P' s' := by
        rintro ⟨h', tk', m', n2, e, F2, N2, o2, q⟩
        exact ⟨h', tk', m', n2, e, F2, N2, o2, hp _ _ q⟩
      cases f with
      | ret v => exact p
      | brk => exact p
      | next => exact u p
      | cont => exact u p
    rcases st with ⟨rfl, rfl, rfl⟩ | ⟨rfl, rfl⟩ | ⟨bs, hb, rfl⟩ | ⟨rfl, rfl⟩
    · cases hy
      cases hr with
      | cons y t hr =>
        refine wpAny_mono (tq I t it h tk n1 n2 F' N') (fun f s' p => up ?_ p) fun _ _ e => e
        rintro m' n' ⟨em, u, k, rfl⟩
        exact ⟨em, _, _, _, k, rfl, hr, .cons _ u .nil, .inr (.inl ⟨rfl, rfl⟩)⟩
    · cases hy with
      | cons y u hy =>
        cases hy
        cases hr with
        | cons y t hr =>
          refine wpAny_mono (td I t u k it h tk n1 n2 F' N') (fun f s' p => up ?_ p) fun _ _ e => e
          rintro m' n' ⟨em, k, rfl⟩
          exact ⟨em, _, [], [], k, rfl, hr, .nil, .inr (.inr (.inl ⟨ts, rfl, rfl⟩))⟩
    · cases bs with
      | nil =>
        have hr : StrsAre (v :: r) [Str.ofString "."] := hr
        cases hr with
        | cons y t hr =>
          cases hr
          refine wpAny_mono (tp I t yN k it h tk n1 n2 F' N') (fun f s' p => up ?_ p) fun _ _ e => e
          rintro m' n' ⟨em, rfl⟩
          exact ⟨em, [], _, yN, k, rfl, .nil, hy, .inr (.inr (.inr ⟨rfl, by rw [hb, List.append_nil]⟩))⟩
      | cons b bs =>
        have hr : StrsAre (v :: r) (b :: (bs ++ [Str.ofString "."])) := hr
        cases hr with
        | cons y t hr =>
          have hsz : (List.toArray yN).size ≤ sizeLine := by
            have h1 := congrArg List.length hb
            rw [List.length_append] at h1
            have h2 := hf.1
            have h3 := sizeLine_eq
            rw [List.size_toArray, hy.length]
            omega
          obtain ⟨q1, q2, q3, q4⟩ := hts b (by rw [hb]; simp)
          refine wpAny_mono (tl I b t yN k it h tk q1 q2 q3 q4 hsz n1 n2 F' N') (fun f s' p => up ?_ p) fun _ _ e => e
          rintro m' n' ⟨em, u, k, rfl⟩
          exact ⟨em, _, acc ++ [b], _, k, rfl, hr, strs_concat hy b u, .inr (.inr (.inl ⟨bs, by rw [hb, List.append_assoc]; rfl, rfl⟩))⟩
    · cases hr
  · rintro c h tk n' ⟨us, acc, yN, k, rfl, hr, hy, st⟩ F' N'
    cases hr
    rcases st with ⟨h, _⟩ | ⟨h, _⟩ | ⟨bs, _, h⟩ | ⟨_, rfl⟩
    · cases h
    · cases h
    · exact absurd h (by cases bs <;> simp)
    · exact done c h tk yN k hy F' N'
end
theorem ly14 : True := by
  k_with "g13r4" => (
    (k_here; k_dflt (refine' split_us ?k1 ?k2 ?k3 ?k4 ?k5 ?_; (case k1 => k_asm); (case k2 => k_asm); (case k3 => decide +kernel); (case k4 => assumption); (case k5 => omega)); intro D' us' h' tk' hS' F' N' l1; (try dsimp only)))
  k_with "g13r5" => (
    (k_here; (with_reducible show wpAny _ _ (call (Value.builtin _) [Value.ref _, _]) _ _ _); k_dflt (refine' append_K ?k1 ?k2 ?k3 ?_ ?z; (case k1 => k_asm); (case k2 => k_asm); (case k3 => k_upd); (case z => first | assumption | exact Nat.le_of_ble_eq_true rfl)); intro h' F' N'; (try dsimp only)))
  k_with "g13r6" => (
    (k_here; k_dflt (refine' join_all ?k1 ?k2 ?k3 ?k5 ?k6 ?_; (case k1 => k_asm); (case k2 => k_mem); (case k3 => assumption); (case k5 => assumption); (case k6 => decide); intro z9 t' tk' he9 hl9; subst he9; (try dsimp only))))
  k_with "g13r7" => (
    (k_here; k_dflt (refine' np_loop ?k1 ?k2 ?k3 ?k4 ?k5 ?k11 ?_ ?_ ?_ ?_ ?_; (case k1 => exact rfl); (case k2 => k_asm); (case k3 => exact kst_newsOf (by k_asm) (sub_cons (by k_mem) (sub_cons (by k_mem) (List.forall_mem_nil _)))); (case k4 => assumption); (case k5 => assumption); (case k11 => assumption)); all_goals intros))
  k_with "g13r8" => (
    (k_dflt ((first | refine' UnrEnd.intro ?F ?N _ ?sub ?off ⟨rfl, rfl⟩ | refine' UnrEnd.intro ?F ?N _ ?sub ?off ⟨rfl, _, rfl⟩ | refine' UnrEnd.intro ?F ?N _ ?sub ?off ⟨rfl, _, _, rfl⟩); (case F => k_asm); (case N => k_asm); (case sub => exact sub_cons (by k_mem) (sub_cons (by k_mem) (sub_cons (by k_mem) (List.forall_mem_nil _)))); (case off => exact all_ne_cons (by assumption) (all_ne_cons (by assumption) (List.forall_mem_nil _))))))
  exact True.intro
local macro_rules | `(tactic| walk_at "call builtin:str.split") => `(tactic| k_extra "g13r4")
local macro_rules | `(tactic| walk_at "call builtin:list.append") => `(tactic| k_extra "g13r5")
local macro_rules | `(tactic| walk_at "call builtin:str.join") => `(tactic| k_extra "g13r6")
local macro_rules | `(tactic| walk_at "pyIter ref") => `(tactic| k_extra "g13r7")
local macro_rules | `(tactic| walk_at "UnrEnd") => `(tactic| k_extra "g13r8")
theorem np (w : World) (ts : List Str) (z : Str) (t : Tok) (hf : Few ts) (hts : ∀ x ∈ ts, 1 ≤ x.length ∧ x.length ≤ 40 ∧ x ≠ Str.ofString "." ∧ x ≠ Str.ofString "..") (hp : 1 ≤ z.length) (hq : z.length ≤ 40) (hs1 : (Txt.slice z none (some 1) != Str.ofString "/") = false) (hs2 : (Txt.slice z (some 1) (some 2) != Str.ofString "/") = true)
    (hsp : Txt.split (Txt.slice z (some 1) none) (Str.ofString "/") = Str.ofString "q" :: Str.ofString ".." :: (ts ++ [Str.ofString "."])) (ht1 : 1 ≤ (Str.ofString "/" ++ Txt.join (Str.ofString "/") ts).length) (ht2 : (Str.ofString "/" ++ Txt.join (Str.ofString "/") ts).length ≤ 40) :
    Ctr w 20 77 [.str z t] [] (fun _ => True) (RStr (Str.ofString "/" ++ Txt.join (Str.ofString "/") ts)) := by
  unfold Ctr
  k_fill
  intro loose mean mg mb dp un gd cn cs a ccd cl outer A₀ base h₀ L m hp gens drawn tk os Q E hB hF hN hX hT hk hdp hun hpre hret
  refine wpAny_call ?_
  k_dflt cell_enter
  k_steps
  all_goals exact ends hret (by assumption) (by k_asm) (by k_asm) (by intro _ h9; cases h9) ⟨_, rfl⟩
end
end
section
section
theorem lab_ne_dot {x : Str} (h : Lab x) : x ≠ Str.ofString "." := by
  rintro rfl
  exact (h.2.2 46 (by decide +kernel)).1 rfl
theorem lab_ne_dots {x : Str} (h : Lab x) : x ≠ Str.ofString ".." := by
  rintro rfl
  exact (h.2.2 46 (by decide +kernel)).1 rfl
theorem lab_free {x : Str} (h : Lab x) : 47 ∉ x.cps.toList := fun hm => (h.2.2 47 hm).2 rfl
structure NF (z : Str) (ts : List Str) : Prop where
  hp : 1 ≤ z.length
  hq : z.length ≤ 40
  hs1 : (Txt.slice z none (some 1) != Str.ofString "/") = false
  hs2 : (Txt.slice z (some 1) (some 2) != Str.ofString "/") = true
  hsp : Txt.split (Txt.slice z (some 1) none) (Str.ofString "/") = Str.ofString "q" :: Str.ofString ".." :: (ts ++ [Str.ofString "."])
  ht1 : 1 ≤ (Str.ofString "/" ++ Txt.join (Str.ofString "/") ts).length
  ht2 : (Str.ofString "/" ++ Txt.join (Str.ofString "/") ts).length ≤ 40
theorem jl_end {c : Nat} {d : List Nat} : ∀ {l : List (List Nat)}, l ≠ [] → jl c (l ++ [d]) = jl c l ++ c :: d
  | [], h => absurd rfl h
  | [x], _ => rfl
  | x :: y :: r, _ => by
    show x ++ c :: jl c ((y :: r) ++ [d]) = x ++ c :: jl c (y :: r) ++ c :: d
    rw [jl_end (l := y :: r) (by simp)]
    simp
theorem nfacts {z : Str} {ts : List Str} (hz : z = Str.ofString "/q/../" ++ Txt.join (Str.ofString "/") ts ++ Str.ofString "/.") (hg : Labs ts) (h1 : ts ≠ []) : NF z ts := by
  have hj : (Txt.join (Str.ofString "/") ts).length ≤ 16 := glue_len hg.few (by decide +kernel)
  have hl : z.length = 8 + (Txt.join (Str.ofString "/") ts).length := by
    rw [hz, Str.length_append, Str.length_append, show (Str.ofString "/q/../").length = 6 by decide +kernel, show (Str.ofString "/.").length = 2 by decide +kernel]; omega
  have hc : z.cps.toList = 47 :: 113 :: 47 :: 46 :: 46 :: 47 :: (jl 47 (ts.map (·.cps.toList)) ++ [47, 46]) := by
    have := glue_jl 47 ts
    rw [← slash_is] at this
    rw [hz, Str.cps_append, Str.cps_append, Array.toList_append, Array.toList_append, this, show (Str.ofString "/q/../").cps.toList = [47, 113, 47, 46, 46, 47] by decide +kernel, show (Str.ofString "/.").cps.toList = [47, 46] by decide +kernel]
    rfl
  have hs : (Str.ofString "/").length = 1 := by decide +kernel
  refine ⟨by omega, by omega, ?_, ?_, ?_, by rw [Str.length_append]; omega, by rw [Str.length_append]; omega⟩
  · have e := eq_of_beq (slice_closes_toL (x := z) (j := 1) (by decide) (by omega))
    have e2 : Txt.slice z none (some 1) = ⟨#[47]⟩ := by rw [e, hc]; rfl
    rw [e2]
    decide +kernel
  · have e := eq_of_beq (slice_closesL (x := z) (i := 1) (j := 2) (by decide) (by decide) (by omega))
    have e2 : Txt.slice z (some 1) (some 2) = ⟨#[113]⟩ := by rw [e, hc]; rfl
    rw [e2]
    decide +kernel
  · have e := slice_from_eq (x := z) (i := 1) (b := z.length) (by decide) (by omega) rfl
    have hlen : z.length = z.cps.toList.length := by show z.cps.size = _; simp
    have e2 : (Txt.slice z (some 1) none).cps.toList = 113 :: 47 :: 46 :: 46 :: 47 :: (jl 47 (ts.map (·.cps.toList)) ++ [47, 46]) := by
      rw [e]
      show List.take _ (List.drop 1 z.cps.toList) = _
      rw [List.take_of_length_le (by rw [List.length_drop]; omega), hc]
      rfl
    rw [slash_is]
    refine split_is (by simp) ?_ ?_
    · intro u hu
      simp only [List.mem_cons, List.mem_append, List.not_mem_nil, or_false] at hu
      rcases hu with rfl | rfl | hu | rfl
      · decide +kernel
      · decide +kernel
      · exact lab_free (hg.2 u hu)
      · decide +kernel
    · rw [e2]
      have hq : (Str.ofString "q").cps.toList = [113] := by decide +kernel
      have hd : (Str.ofString "..").cps.toList = [46, 46] := by decide +kernel
      have ho : (Str.ofString ".").cps.toList = [46] := by decide +kernel
      simp only [List.map_cons, List.map_append, List.map_nil, hq, hd, ho]
      rw [jl_two (by simp), jl_two (by simp), jl_end (by simpa using h1)]
      rfl
end
end
section
theorem ly17 : True := by
  k_with_none
  w_top off
  k_with "hd0" => (
    ktr_room)
  k_with "hd1" => (
    first
  | (refine' in_plain ?k1 ?k2 ?k4 ?k3 ?k5 ?kA ?kF ?kK ?k6 ?k7 ?k8 ?k9 ?kB ?_ ?c2 ?c3 ?c4 ?c5; (case kA => exact rfl); (case kF => exact rfl); (case kK => assumption); (case k1 => k_asm); (case k2 => k_asm); (case k3 => k_asm); (case k4 => assumption); (case k5 => k_asm); (case k6 => k_is); (case k7 => k_is); (case k8 => ktr_room); (case k9 => exact BindsTo.of_eq rfl); (case c5 => decide); (case kB => exact locs rfl); (case c2 => exact rfl); (case c3 => exact rfl); (case c4 => exact rfl); k_whole; intro g' L' h' hHid hSt F' N' B' X' T' l1; (try k_lt l1); (try dsimp only); (try k_lift B'); (try k_fold))
  | (refine' in_cells ?k1 ?k2 ?k4 ?k3 ?k5 ?kA ?kF ?kK ?k6 ?k7 ?k8 ?k9 ?kB ?kD ?_ ?c2 ?c3 ?c4; (case kA => exact rfl); (case kF => exact rfl); (case kK => assumption); (case k1 => k_asm); (case k2 => k_asm); (case k3 => k_asm); (case k4 => assumption); (case k5 => k_asm); (case k6 => k_is); (case k7 => k_is); (case k8 => ktr_room); (case k9 => exact BindsTo.of_eq rfl); (case kB => exact rfl); (case kD => decide +kernel); (case c2 => exact rfl); (case c3 => exact rfl); (case c4 => exact rfl); k_whole; intro g' L' h' tk' cells' hHid hSt F' N' Y' B' X' T' l1; (try k_lt l1); k_cells Y'; (try simp only [List.cons_append, List.nil_append] at N'); (try dsimp only); (try k_lift B'); (try k_fold)))
  k_with "hd2" => (
    (refine mem_of ?_; with_reducible assumption))
  k_with "hd3" => (
    first | with_reducible assumption | exact all_lt_ne (by with_reducible assumption) | (refine' all_ne_cons ?a ?b; (case a => k_ne); (case b => k_all)))
  k_with "hd4" => (
    first | with_reducible assumption | exact ne_of_ne' (by with_reducible assumption) | (refine' ne_off ?h ?m; (case h => with_reducible assumption); (case m => k_mem)) | (refine' ne_off' ?h ?m; (case h => with_reducible assumption); (case m => k_mem)) | (refine' ne_offlt ?h ?m; (case h => with_reducible assumption); (case m => k_mem)) | (refine' ne_offlt' ?h ?m; (case h => with_reducible assumption); (case m => k_mem)) | (refine neN ?_; dsimp only; first | with_reducible assumption | exact ne_of_ne' (by with_reducible assumption) | (refine' ne_off ?h ?m; (case h => with_reducible assumption); (case m => k_mem)) | (refine' ne_off' ?h ?m; (case h => with_reducible assumption); (case m => k_mem)) | (refine' ne_offlt ?h ?m; (case h => with_reducible assumption); (case m => k_mem)) | (refine' ne_offlt' ?h ?m; (case h => with_reducible assumption); (case m => k_mem)) | omega) | (refine neN ?_; omega))
  exact True.intro
section
theorem ly16 : True := by
  k_with "g15r0" => (
    (k_here; k_dflt (refine' truthy_nokw ?k1 ?k2 ?k3 ?_; (case k1 => k_asm); (case k2 => k_mem); (case k3 => assumption)); (try dsimp only)))
  k_with "g15r1" => (
    (k_here; (with_reducible show wpAny _ _ (call (Value.ref 77) [_] _) _ _ _); rename ∀ t : Tok, Ctr _ _ 77 _ _ _ _ => hC9; k_dflt (refine' use_str (hC9 _) ?k1 ?k2 ?k3 ?k4 ?k5 ?k6 ?k7 ?k8 ?k9 ?kp ?_; (case k1 => k_asm); (case k2 => k_asm); (case k3 => k_asm); (case k4 => k_asm); (case k5 => k_asm); (case k6 => first | exact rfl | assumption); (case k7 => ktr_room); (case k8 => ktr_units); (case k9 => (intro _ h9; cases h9)); (case kp => trivial); intro t' h' tk' F' N'; (try dsimp only); (try k_fold))))
  exact True.intro
local macro_rules | `(tactic| walk_at "truthy ref") => `(tactic| k_extra "g15r0")
local macro_rules | `(tactic| walk_at "call ref") => `(tactic| k_extra "g15r1")
theorem norm_of (w : World) (z y : Str) (t : Tok) (hC : ∀ t, Ctr w 20 77 [.str z t] [] (fun _ => True) (RStr y)) : Ctr w 40 84 [.str z t] [] (fun _ => True) (RStr y) := by
  unfold Ctr
  k_fill
  intro loose mean mg mb dp un gd cn cs a ccd cl outer A₀ base h₀ L m hp gens drawn tk os Q E hB hF hN hX hT hk hdp hun hpre hret
  refine wpAny_call ?_
  refine' in_both ?k1 ?k2 ?k3 ?k5 ?kA ?kF ?kK ?k6 ?k7 ?k8 ?p1 ?p2 ?p3 ?f1 ?f2 ?p4 ?_ ?c2 ?c3 ?c4 ?c5
  (case kA => exact rfl); (case kF => exact rfl); (case kK => assumption); (case k1 => k_asm); (case k2 => k_asm); (case k3 => k_asm); (case k5 => k_asm); (case k6 => k_is); (case k7 => k_is); (case k8 => ktr_room)
  (case p1 => exact rfl)
  (case p2 => exact fun _ => rfl)
  (case p3 => exact fun _ _ => rfl)
  (case f1 => exact rfl)
  (case f2 => exact rfl)
  (case p4 => exact fun _ _ => locs rfl)
  (case c2 => exact rfl); (case c3 => exact rfl); (case c4 => exact rfl); (case c5 => decide)
  k_whole; intro C' D' g' L' h' tk' l1 lo' hHid hSt F' N' B' X' T'; (try k_lt l1); (try dsimp only); (try k_lift B'); (try k_fold)
  k_steps
  all_goals exact ends hret (by assumption) (by k_asm) (by k_asm) (List.forall_mem_cons.mpr ⟨by k_mem, List.forall_mem_cons.mpr ⟨by k_mem, List.forall_mem_nil _⟩⟩) ⟨_, rfl⟩
theorem c_normpath (w : World) (ts : List Str) (z : Str) (t : Tok) (hz : z = Str.ofString "/q/../" ++ Txt.join (Str.ofString "/") ts ++ Str.ofString "/.") (hg : Labs ts) (h1 : 1 ≤ ts.length) (h3 : ts.length ≤ 3) :
    Ctr w 40 84 [.str z t] [] (fun _ => True) (RStr (Str.ofString "/" ++ Txt.join (Str.ofString "/") ts)) := by
  refine norm_of w z _ t fun t => ?_
  have hne : ts ≠ [] := by rintro rfl; simp at h1
  obtain ⟨hp, hq, hs1, hs2, hsp, ht1, ht2⟩ := nfacts hz hg hne
  exact np w ts z t hg.few (fun x hx => ⟨(hg.2 x hx).1, by have := (hg.2 x hx).2.1; omega, lab_ne_dot (hg.2 x hx), lab_ne_dots (hg.2 x hx)⟩) hp hq hs1 hs2 hsp ht1 ht2
end
end
section
theorem ly22 : True := by
  k_with_none
  w_top off
  k_with "hd0" => (
    ktr_room)
  k_with "hd1" => (
    first
  | (refine' in_plain ?k1 ?k2 ?k4 ?k3 ?k5 ?kA ?kF ?kK ?k6 ?k7 ?k8 ?k9 ?kB ?_ ?c2 ?c3 ?c4 ?c5; (case kA => exact rfl); (case kF => exact rfl); (case kK => assumption); (case k1 => k_asm); (case k2 => k_asm); (case k3 => k_asm); (case k4 => assumption); (case k5 => k_asm); (case k6 => k_is); (case k7 => k_is); (case k8 => ktr_room); (case k9 => exact BindsTo.of_eq rfl); (case c5 => decide); (case kB => exact locs rfl); (case c2 => exact rfl); (case c3 => exact rfl); (case c4 => exact rfl); k_whole; intro g' L' h' hHid hSt F' N' B' X' T' l1; (try k_lt l1); (try dsimp only); (try k_lift B'); (try k_fold))
  | (refine' in_cells ?k1 ?k2 ?k4 ?k3 ?k5 ?kA ?kF ?kK ?k6 ?k7 ?k8 ?k9 ?kB ?kD ?_ ?c2 ?c3 ?c4; (case kA => exact rfl); (case kF => exact rfl); (case kK => assumption); (case k1 => k_asm); (case k2 => k_asm); (case k3 => k_asm); (case k4 => assumption); (case k5 => k_asm); (case k6 => k_is); (case k7 => k_is); (case k8 => ktr_room); (case k9 => exact BindsTo.of_eq rfl); (case kB => exact rfl); (case kD => decide +kernel); (case c2 => exact rfl); (case c3 => exact rfl); (case c4 => exact rfl); k_whole; intro g' L' h' tk' cells' hHid hSt F' N' Y' B' X' T' l1; (try k_lt l1); k_cells Y'; (try simp only [List.cons_append, List.nil_append] at N'); (try dsimp only); (try k_lift B'); (try k_fold)))
  k_with "hd2" => (
    (refine mem_of ?_; with_reducible assumption))
  k_with "hd3" => (
    first | with_reducible assumption | exact all_lt_ne (by with_reducible assumption) | (refine' all_ne_cons ?a ?b; (case a => k_ne); (case b => k_all)))
  k_with "hd4" => (
    first | with_reducible assumption | exact ne_of_ne' (by with_reducible assumption) | (refine' ne_off ?h ?m; (case h => with_reducible assumption); (case m => k_mem)) | (refine' ne_off' ?h ?m; (case h => with_reducible assumption); (case m => k_mem)) | (refine' ne_offlt ?h ?m; (case h => with_reducible assumption); (case m => k_mem)) | (refine' ne_offlt' ?h ?m; (case h => with_reducible assumption); (case m => k_mem)) | (refine neN ?_; dsimp only; first | with_reducible assumption | exact ne_of_ne' (by with_reducible assumption) | (refine' ne_off ?h ?m; (case h => with_reducible assumption); (case m => k_mem)) | (refine' ne_off' ?h ?m; (case h => with_reducible assumption); (case m => k_mem)) | (refine' ne_offlt ?h ?m; (case h => with_reducible assumption); (case m => k_mem)) | (refine' ne_offlt' ?h ?m; (case h => with_reducible assumption); (case m => k_mem)) | omega) | (refine neN ?_; omega))
  exact True.intro
section
theorem c_normpath3 (w : World) {ts : List Str} {k : Int} {z z1 z0 : Str} (t : Tok) (h3 : z = z1 ++ Str.ofString "/.") (h2 : z1 = Str.ofString "/q/../" ++ z0) (h1 : z0 = Txt.join (Str.ofString "/") (ts.take k.toNat)) (hg : Labs ts) {pre : List Int} (hk : k = 1 + (pre.length : Int)) (hn : pre.length < ((ts.length : Int) + 1 - 1).toNat) (h4 : ts.length ≤ 3) :
    Ctr w 40 84 [.str z t] [] (fun _ => True) (RStr (Str.ofString "/" ++ Txt.join (Str.ofString "/") (ts.take k.toNat))) :=
  c_normpath w _ z t (by rw [h3, h2, h1]) (hg.take _) (by rw [List.length_take]; omega) (by rw [List.length_take]; omega)
section
theorem ly18 : True := by
  k_with "g16r0" => (
    (k_here; k_dflt (first
  | refine' join_upto ?k1 ?k2 ?k3 ?k4 ?k5 ?k6 ?_; (case k1 => k_asm); (case k2 => k_mem); (case k3 => assumption); (case k4 => omega); (case k5 => assumption); (case k6 => decide)
  | refine' join_all ?k1 ?k2 ?k3 ?k5 ?k6 ?_; (case k1 => k_asm); (case k2 => k_mem); (case k3 => assumption); (case k5 => assumption); (case k6 => decide)); intro z9 t' tk' he9 hl9; (try dsimp only)))
  k_with "g16r1" => (
    (k_here; k_dflt (refine' add_len ?k1 ?k2 ?k3 ?_; (case k1 => first | assumption | exact Nat.le_refl _); (case k2 => first | assumption | exact Nat.le_refl _); (case k3 => decide)); intro z9 t' tk' he9 hl9; (try dsimp only)))
  k_with "g16r2" => (
    (k_here; k_dflt (first
  | refine' truthy_one ?k1 ?k2 ?_; (case k1 => k_asm); (case k2 => k_mem)
  | refine' truthy_nil ?k1 ?k2 ?_; (case k1 => k_asm); (case k2 => k_mem)); (try dsimp only)))
  k_with "g16r3" => (
    (k_here; k_dflt (refine' set_one_K ?k1 ?k2 ?k3 ?k4 ?_; (case k1 => k_asm); (case k2 => k_asm); (case k3 => exact rfl); (case k4 => k_mem)); intro d' h' tk' o' F' N' hO' l1; (try k_lt l1); (try dsimp only)))
  k_with "g16r4" => (
    (k_here; k_dflt (first
  | (refine' in_new ?k1 ?k2 ?k3 ?_; (case k1 => k_tabat); (case k2 => exact rfl); (case k3 => first | decide | exact ne_string (by assumption) (by omega)))
  | (refine' in_put ?k1 ?k2 ?k3 ?_; (case k1 => k_tabat); (case k2 => exact rfl); (case k3 => first | decide | exact ne_string (by assumption) (by omega)))
  | (refine' in_one ?k1 ?k2 ?k3 ?_; (case k1 => k_asm); (case k3 => assumption); (case k2 => k_mem))); (try dsimp only)))
  k_with "g16r5" => (
    (k_here; k_dflt (refine' get_put ?k1 ?k2 ?k3 ?_; (case k1 => k_tabat); (case k2 => exact rfl); (case k3 => first | decide | exact ne_string (by assumption) (by omega))); intro t'; (try dsimp only)))
  k_with "g16r6" => (
    (k_dflt (refine' unr_end ?k1 ?k2 ?k4 ?_; (case k1 => k_asm); (case k2 => k_asm); (case k4 => assumption)); refine ⟨by k_mem, ?_⟩; intro h' tk' F' N'; (try dsimp only)))
  k_with "g16r7" => (
    (k_here; k_dflt (first
  | (refine' iter_oneUnr ?k1 ?k2 ?k3 ?k4 ?k5 ?_; (case k1 => exact rfl); (case k2 => k_asm); (case k3 => k_asm); (case k5 => assumption); (case k4 => k_mem); intro i' it' t' h' tk' l1 F' N'; (have l2 := l1); (try k_lt l2); (try dsimp only))
  | (refine' iter_emptyL ?k1 ?k2 ?k3 ?k4 ?_; (case k1 => exact rfl); (case k2 => k_asm); (case k3 => k_asm); (case k4 => k_mem); intro h' tk' F' N'; (try dsimp only))
  | (refine' iter_nilUnr ?k1 ?k2 ?k3 ?k4 ?_; (case k1 => exact rfl); (case k2 => k_asm); (case k3 => k_asm); (case k4 => k_mem); intro h' tk' F' N'; (try dsimp only)))))
  k_with "g16r8" => (
    (first | refine ite_yes (by with_reducible assumption) ?_ | refine ite_no (by with_reducible assumption) ?_))
  exact True.intro
local macro_rules | `(tactic| walk_at "call builtin:str.join") => `(tactic| k_extra "g16r0")
local macro_rules | `(tactic| walk_at "binaryOp Add str str") => `(tactic| k_extra "g16r1")
local macro_rules | `(tactic| walk_at "truthy ref") => `(tactic| k_extra "g16r2")
local macro_rules | `(tactic| walk_at "call type:set cons nil") => `(tactic| k_extra "g16r3")
local macro_rules | `(tactic| walk_at "compareOp In str ref") => `(tactic| k_extra "g16r4")
local macro_rules | `(tactic| walk_at "getItem ref str") => `(tactic| k_extra "g16r5")
local macro_rules | `(tactic| walk_at "UnrEnd") => `(tactic| k_extra "g16r6")
local macro_rules | `(tactic| walk_at "pyIter ref") => `(tactic| k_extra "g16r7")
local macro_rules | `(tactic| walk_at "ite") => `(tactic| k_extra "g16r8")
section
variable {w : World} {rm : Nat} {f : Addr} {vs : List Value} {news full : List (Addr × Obj)} {Pre : Heap → Prop} {loose : List Str} {mean : ExcName → Option Value} {mg mb : Str → Option Value} {cn : Str} {cs : Scope} {a : Addr} {ccd : Value} {cl : List (Str × Addr)} {outer : List Env}
  {A A₀ : Around} {base h₀ : Heap} {L : Addr} {m : Str → Option Value} {s : Shared} {Q E : Value → Shared → Prop}
theorem use_strA {x : Str} (C : Ctr w rm f vs news Pre (RStr x)) (hh : A.handled = none) (hA : A.frames = some (envX cn cs L a ccd cl :: outer)) (B : Below A₀ base outer h₀) (F : Fr h₀ L s.heap m) (N : News h₀ L s.heap full) (X : (hd01.heap_39 w.params).In h₀) (T : Top Mine.hdq loose mean mg mb h₀) (hk : cs.kind = .function)
    (hd : A.depth + rm < recursionLimit) (hu : A.units + 8 * rm < cLine) (hs : ∀ p ∈ news, p ∈ full) (hp : Pre h₀) (h : ∀ t h' tk', Fr h₀ L h' m → News h₀ L h' full → Q (.str x t) { s with heap := h', toks := tk' }) :
    wpAny (model Challenge.rw_pw0004_01.prog w) A (call (.ref f) vs) Q E s := by
  obtain ⟨ha, de, fr, gu, un⟩ := A
  subst hh
  subst hA
  exact use_str C B F N X T hk hd hu hs hp h
end
theorem comp_end {h₀ : Heap} {L I C D : Addr} {m : Str → Option Value} {s₁ : Shared} {oI oC oD : Obj} {S : List (Addr × Obj) → Prop} {rest : Value → List (Addr × Obj) → Prop} {y : Value} {h' : Heap} {tk : Nat} {news' : List (Addr × Obj)}
    (F : Fr h₀ L h' m) (N : News h₀ L h' ((I, oI) :: (C, oC) :: (D, oD) :: news')) (off : LCg.Off3 I C D news') (hS : S news') (r : rest y news') : LCg.CompEnd h₀ L m s₁ I oI C oC D oD S rest y { s₁ with heap := h', toks := tk } :=
  LCg.CompEnd.intro F N news' (fun _ h => h) off hS r
theorem ly19 : True := by
  k_with "g16r9" => (
    (k_dflt (refine' comp_end ?k1 ?k2 ?k3 ?k4 ?_; (case k1 => assumption); (case k2 => assumption); (case k3 => assumption); (case k4 => lcg_src))))
  exact True.intro
local macro_rules | `(tactic| walk_at "CompEnd") => `(tactic| k_extra "g16r9")
theorem iter_oneL {prog : Program} {w : World} {A : Around} {E : Value → Shared → Prop} {s : Shared} {env : Env} {h₀ : Heap} {x : Str} {body : List Stmt} {Q : Flow → Shared → Prop} {D : Addr} {v : Value} {m₀ : Str → Option Value} {news : List (Addr × Obj)}
    (hh : A.handled = none) (F : Fr h₀ env.locals s.heap m₀) (N : News h₀ env.locals s.heap news) (hm : (D, LCg.lst [v]) ∈ news)
    (turn : ∀ (I : Addr) (it : Obj) h tk, (∀ p ∈ news, p.1 < I) → Fr h₀ env.locals h (fun z => if z = x then some v else m₀ z) → News h₀ env.locals h ((I, it) :: news) →
      wpAny (model prog w) A (execs body env) (UnrPost h₀ env.locals { s with heap := h, toks := tk } I it (fun m' n' => (D, LCg.lst [v]) ∈ n' ∧ ∀ h tk, Fr h₀ env.locals h m' → News h₀ env.locals h n' → Q .next { s with heap := h, toks := tk }) Q) E { s with heap := h, toks := tk }) :
    wpAny (model prog w) A (pyIter (.ref D)) (fun it s₂ => LoopAtV prog w A h₀ env x body Q E it s₂) E s :=
  iter_listUnr (vs := [v]) hh F N hm rfl rfl fun I hI => ListRest.succ fun it h tk _ F' N' => turn I it h tk hI F' N'
theorem ly20 : True := by
  k_with "g16r10" => (
    (k_here; k_dflt (refine' iter_oneL ?k1 ?k2 ?k3 ?k4 ?_; (case k1 => exact rfl); (case k2 => k_asm); (case k3 => k_asm); (case k4 => k_mem); intro i' it' h' tk' l1 F' N'; (have l2 := l1); (try k_lt l2); (try dsimp only))))
  exact True.intro
local macro_rules | `(tactic| walk_at "pyIter ref") => `(tactic| k_extra "g16r10")
theorem use_norm {w : World} {full : List (Addr × Obj)} {loose : List Str} {mean : ExcName → Option Value} {mg mb : Str → Option Value} {cn : Str} {cs : Scope} {a : Addr} {ccd : Value} {cl : List (Str × Addr)} {outer : List Env}
    {A A₀ : Around} {base h₀ : Heap} {L : Addr} {m : Str → Option Value} {s : Shared} {Q E : Value → Shared → Prop} {ts : List Str} {k : Int} {z z1 z0 : Str} {t : Tok} {pre : List Int} (h3 : z = z1 ++ Str.ofString "/.") (h2 : z1 = Str.ofString "/q/../" ++ z0) (h1 : z0 = Txt.join (Str.ofString "/") (ts.take k.toNat)) (hg : Labs ts) (hk1 : k = 1 + (pre.length : Int)) (hn : pre.length < ((ts.length : Int) + 1 - 1).toNat) (h4 : ts.length ≤ 3)
    (hh : A.handled = none) (hA : A.frames = some (envX cn cs L a ccd cl :: outer)) (B : Below A₀ base outer h₀) (F : Fr h₀ L s.heap m) (N : News h₀ L s.heap full) (X : (hd01.heap_39 w.params).In h₀) (T : Top Mine.hdq loose mean mg mb h₀) (hk : cs.kind = .function)
    (hd : A.depth + 40 < recursionLimit) (hu : A.units + 8 * 40 < cLine) (h : ∀ y t h' tk', y = Str.ofString "/" ++ Txt.join (Str.ofString "/") (ts.take k.toNat) → y.length ≤ 17 → Fr h₀ L h' m → News h₀ L h' full → Q (.str y t) { s with heap := h', toks := tk' }) :
    wpAny (model Challenge.rw_pw0004_01.prog w) A (call (.ref 84) [.str z t]) Q E s := by
  refine use_strA (c_normpath3 w t h3 h2 h1 hg hk1 hn h4) hh hA B F N X T hk hd hu (fun _ h => nomatch h) trivial fun t h' tk' F' N' => h _ t h' tk' rfl ?_ F' N'
  have := glue_len (x := Str.ofString "/") (hg.take k.toNat).few (by decide +kernel)
  rw [Str.length_append, show (Str.ofString "/").length = 1 by decide +kernel]
  omega
theorem ly21 : True := by
  k_with "g16r11" => (
    (k_here; (with_reducible show wpAny _ _ (call (Value.ref 84) [_] _) _ _ _); k_dflt (refine' use_norm ?p1 ?p2 ?p3 ?p4 ?p5 ?p6 ?p7 ?kh ?kA ?k1 ?k2 ?k3 ?k4 ?k5 ?k6 ?k7 ?k8 ?_; (case kh => exact rfl); (case kA => exact rfl); (case p1 => assumption); (case p2 => assumption); (case p3 => assumption); (case p4 => assumption); (case p5 => assumption); (case p6 => assumption); (case p7 => assumption); (case k1 => k_asm); (case k2 => k_asm); (case k3 => k_asm); (case k4 => k_asm); (case k5 => k_asm); (case k6 => first | exact rfl | assumption); (case k7 => (simp only [depth_under_make, depth_deeper, ktrTop]; omega)); (case k8 => (simp only [units_under_make, units_deeper, ktrTop]; omega)); intro y9 t' h' tk' he9 hl9 F' N'; (try dsimp only); (try k_fold))))
  exact True.intro
local macro_rules | `(tactic| walk_at "call ref") => `(tactic| k_extra "g16r11")
section
variable {ts as : List Str} {d : Int} {pre : List Int} {k : Int} {y z : Str}
theorem so_yes (hd : d = (pre.map (hits ts as)).sum) (hgt : Labs ts) (hga : Labs as) (hla : as.length = ts.length) (hk : k = 1 + (pre.length : Int)) (hn : pre.length < ((ts.length : Int) + 1 - 1).toNat) (hy : y = Str.ofString "/" ++ Txt.join (Str.ofString "/") (ts.take k.toNat)) (hz : z = Txt.join (Str.ofString "/") as)
    (hs : Txt.startswith (Str.ofString "/" ++ z ++ Str.ofString "/m.py") (y ++ Str.ofString "/") = true) : d + 1 = ((pre ++ [k]).map (hits ts as)).sum :=
  st_go hd (hits_yes ((slash_hit (zf := Str.ofString "/" ++ z ++ Str.ofString "/m.py") hgt hga hla (by omega) (by omega) (by rw [hz]) hy rfl).mp hs))
theorem so_no (hd : d = (pre.map (hits ts as)).sum) (hgt : Labs ts) (hga : Labs as) (hla : as.length = ts.length) (hk : k = 1 + (pre.length : Int)) (hn : pre.length < ((ts.length : Int) + 1 - 1).toNat) (hy : y = Str.ofString "/" ++ Txt.join (Str.ofString "/") (ts.take k.toNat)) (hz : z = Txt.join (Str.ofString "/") as)
    (hs : Txt.startswith (Str.ofString "/" ++ z ++ Str.ofString "/m.py") (y ++ Str.ofString "/") = false) : d + 0 = ((pre ++ [k]).map (hits ts as)).sum :=
  st_go hd (hits_no fun q => by have := (slash_hit (zf := Str.ofString "/" ++ z ++ Str.ofString "/m.py") hgt hga hla (by omega) (by omega) (by rw [hz]) hy rfl).mpr q; rw [hs] at this; cases this)
end
theorem c_depth_odd (w : World) (lt la : Addr) (ts as : List Str) (yt ya : List Value) (nt na : Nat) (ht : StrsAre yt ts) (ha : StrsAre ya as) (hgt : Labs ts) (hga : Labs as) (h1 : 1 ≤ ts.length) (h3 : ts.length ≤ 3) (hla : as.length = ts.length) (hpar : ((ts.length : Int).fmod 2 == 0) = false) :
    Ctr w 100 152 [.ref lt, .ref la] [(lt, W.listOf yt.toArray nt), (la, W.listOf ya.toArray na)] (fun _ => True) (RInt ((rangeKs 1 ts.length).map (hits ts as)).sum) := by
  unfold Ctr
  k_fill
  intro loose mean mg mb dp un gd cn cs a ccd cl outer A₀ base h₀ L m hp gens drawn tk os Q E hB hF hN hX hT hk hdp hun hpre hret
  have hft := hgt.few
  have hfa := hga.few
  have hft4 := hft.1
  have hft2 : 1 ≤ as.length := by omega
  refine wpAny_call ?_
  k_dflt cell_enter
  k_with "pyIter ref" => k_state (fun pre depth => depth = (pre.map (hits ts as)).sum) "depth"
  k_with "state" => (first | exact rfl | exact so_yes (by assumption) (by assumption) (by assumption) (by assumption) (by assumption) (by assumption) (by assumption) (by assumption) (by assumption) | exact so_no (by assumption) (by assumption) (by assumption) (by assumption) (by assumption) (by assumption) (by assumption) (by assumption) (by assumption))
  k_steps
  all_goals refine ends (Ret := RInt ((rangeKs 1 ts.length).map (hits ts as)).sum) hret (by assumption) (by k_asm) (by k_asm) (List.forall_mem_cons.mpr ⟨by k_mem, List.forall_mem_cons.mpr ⟨by k_mem, List.forall_mem_nil _⟩⟩) ⟨_, congrArg (fun x => Value.int x _) ?_⟩
  all_goals (rename _ = (List.map (hits ts as) (rangeKs 1 _)).sum => hE9; rw [hE9, show ((ts.length : Int) + 1 - 1).toNat = ts.length by omega])
end
end
end
section
section
theorem Ctr.room {w : World} {rm rm' : Nat} {f : Addr} {vs : List Value} {news : List (Addr × Obj)} {Pre : Heap → Prop} {Ret : Heap → Value → Heap → Prop} (hle : rm ≤ rm') (C : Ctr w rm f vs news Pre Ret) : Ctr w rm' f vs news Pre Ret :=
  fun loose mean mg mb dp un gd cn cs a ccd cl outer A₀ base h₀ L m hp gens drawn tk os Q E hB hF hN hX hT hk hdp hun hpre hret =>
    C loose mean mg mb dp un gd cn cs a ccd cl outer A₀ base h₀ L m hp gens drawn tk os Q E hB hF hN hX hT hk (by omega) (by omega) hpre hret
def dsum (ts as : List Str) : Int := ((rangeKs 1 ts.length).map (hits ts as)).sum
theorem c_depth (w : World) (lt la : Addr) (ts as : List Str) (yt ya : List Value) (nt na : Nat) (ht : StrsAre yt ts) (ha : StrsAre ya as) (hgt : Labs ts) (hga : Labs as) (h1 : 1 ≤ ts.length) (hla : as.length = ts.length) :
    Ctr w 100 152 [.ref lt, .ref la] [(lt, W.listOf yt.toArray nt), (la, W.listOf ya.toArray na)] (fun _ => True) (RInt (dsum ts as)) := by
  have h4 := hgt.1
  cases hp : ((ts.length : Int).fmod 2 == 0) with
  | true =>
    have h2 : 2 ≤ ts.length := by
      have hp := eq_of_beq hp
      rw [Int.fmod_eq_emod_of_nonneg _ (by decide)] at hp
      omega
    exact (c_depth_even w lt la ts as yt ya nt na ht ha hgt hga h2 hla hp).room (by decide)
  | false =>
    have h3 : ts.length ≤ 3 := by
      have hp := ne_of_beq_false hp
      rw [Int.fmod_eq_emod_of_nonneg _ (by decide)] at hp
      omega
    exact c_depth_odd w lt la ts as yt ya nt na ht ha hgt hga h1 h3 hla hp
def labs (n z : Int) : List Str := (rangeKs 1 z.toNat).map fun k => lab (code n k)
theorem labs_length (n z : Int) : (labs n z).length = z.toNat := by simp [labs, rangeKs_length]
theorem lab_lab {c : Int} (h : c % 16 = 1) : Lab (lab c) := by
  have h7 : ∀ r : Nat, r < 128 → r % 16 = 1 → Lab (lab7 r) ∧ (lab7 r).length ≤ 2 := by
    intro r hr h1
    have : ∀ r : Fin 128, r.val % 16 = 1 → (1 ≤ (lab7 (r.val : Int)).length ∧ (lab7 (r.val : Int)).length ≤ 2 ∧ ∀ c ∈ (lab7 (r.val : Int)).cps.toList, c ≠ 46 ∧ c ≠ 47) := by decide +kernel
    obtain ⟨a, b, c⟩ := this ⟨r, hr⟩ h1
    exact ⟨⟨a, Nat.le_succ_of_le b, c⟩, b⟩
  have h0 : (0 : Int) ≤ c % 128 := by omega
  have e : c % 128 = ((c % 128).toNat : Int) := by omega
  obtain ⟨l, l2⟩ := h7 (c % 128).toNat (by omega) (by omega)
  rw [← e] at l l2
  unfold lab
  split
  · refine ⟨?_, ?_, ?_⟩
    · rw [Str.length_append, show (Str.ofString "!").length = 1 by decide +kernel]; omega
    · rw [Str.length_append, show (Str.ofString "!").length = 1 by decide +kernel]; omega
    · intro d hd
      rw [Str.cps_append, Array.toList_append, List.mem_append] at hd
      rcases hd with hd | hd
      · rw [show (Str.ofString "!").cps.toList = [33] by decide +kernel] at hd
        rw [List.mem_singleton.mp hd]; decide
      · exact l.2.2 d hd
  · exact l
theorem labs_labs (n : Int) {z : Int} (h4 : z ≤ 4) : Labs (labs n z) := by
  refine ⟨by rw [labs_length]; omega, fun x hx => ?_⟩
  obtain ⟨k, hk, rfl⟩ := List.mem_map.mp hx
  obtain ⟨i, hi, rfl⟩ := List.mem_map.mp hk
  have := List.mem_range.mp hi
  exact lab_lab (code_mod (by omega) (by omega))
def plc : List Int := [0, 0, 1, 1, 2, 2, 2, 2, 3, 3, 3, 3, 3, 3, 3, 3]
/-- the row's place that y is told against -/
def low (y : Int) : Int := y - pows.getD y.toNat 0
def depthF (row : List Int) (y : Int) : Int := dsum (labs (row.getD (low y).toNat 0) (plc.getD y.toNat 0 + 1)) (labs (row.getD y.toNat 0) (plc.getD y.toNat 0 + 1))
end
end
section
section
/-- the statements of law, read off the head's heap -/
noncomputable def lawBody (w : World) : List Stmt := by
  refine (fun (_ : (hd01.heap_39 w.params).lookup 157 = some ⟨?oc, ?od, .func (fnOf ?name ?qual ?params ?body ?scope ?dV ?kV ?doc ?pm ?an ?cdv ?ct), ?osl⟩) => ?body) ?h
  case h => exact rfl
noncomputable def lawScope (w : World) : Scope := by
  refine (fun (_ : (hd01.heap_39 w.params).lookup 157 = some ⟨?oc, ?od, .func (fnOf ?name ?qual ?params ?body ?scope ?dV ?kV ?doc ?pm ?an ?cdv ?ct), ?osl⟩) => ?scope) ?h
  case h => exact rfl
theorem body_len (w : World) : (lawBody w).length = 17 := rfl
end
end
section
section
open LCg
/-- a step of a turn: the frame and the ledger stand as they stood -/
def TurnF (h₀ : Heap) (L : Addr) (m : Str → Option Value) (s : Shared) (full : List (Addr × Obj)) (rest : Prop) (s' : Shared) : Prop :=
  ∃ h' tk', s' = { s with heap := h', toks := tk' } ∧ Fr h₀ L h' m ∧ News h₀ L h' full ∧ rest
theorem TurnF.intro {h₀ : Heap} {L : Addr} {m : Str → Option Value} {s : Shared} {full all : List (Addr × Obj)} {rest : Prop} {h' : Heap} {tk' : Nat} (F : Fr h₀ L h' m) (N : News h₀ L h' all) (sub : ∀ p ∈ full, p ∈ all) (r : rest) : TurnF h₀ L m s full rest { s with heap := h', toks := tk' } :=
  ⟨h', tk', rfl, F, fun p hp => N p (sub p hp), r⟩
theorem rangeKs_snoc (a : Int) (i : Nat) : rangeKs a (i + 1) = rangeKs a i ++ [a + (i : Int)] := by simp [rangeKs, List.range_succ]
theorem ints_snoc {vs : List Value} {ns : List Int} (h : IntsAre vs ns) (k : Int) (t : Tok) : IntsAre (vs ++ [.int k t]) (ns ++ [k]) := by
  induction h with
  | nil => exact .cons k t .nil
  | cons a b _ ih => exact .cons a b ih
variable {prog : Program} {w : World} {A : Around} {E : Value → Shared → Prop} {s : Shared} {env : Env} {h₀ : Heap} {L : Addr} {m : Str → Option Value}
theorem block_F {elt iter c : Expr} {x : Str} {px : Pos} {scope : Scope} {cl : List (Str × Addr)} {pos : Pos} {s₂ : Shared} {I : Addr} {a : Int} {n : Nat} {news : List (Addr × Obj)} {cond : Int → Bool} {vf : Int → Int} {RR : Value → Addr → Result → Shared → Prop}
    (hh : A.handled = none) (hsz : n ≤ sizeLine) (hcell : ∀ y ∈ scope.names, y.2 ≠ .cell) (hkind : scope.kind = .function) (hx : scope.names.lookup x = some .local)
    (hst : IsRangeIter s₂.heap I (a + (0 : Nat) * 1) ((n : Int) - (0 : Nat)) 1) (hIlt : I < s₂.heap.objs.size) (F : Fr h₀ L s₂.heap m) (N : News h₀ L s₂.heap news) (hIL : L ≠ I) (hI₀ : h₀.get? I = none) (off : ∀ p ∈ news, p.1 ≠ I)
    (testT : ∀ (k : Int) t I oI C oC D m₂ ys h tk (E' : Value → Shared → Prop), a ≤ k → k < a + (n : Int) → NsObj oC m₂ → m₂ x = some (.int k t) → Fr h₀ L h m → News h₀ L h ((I, oI) :: (C, oC) :: (D, lst ys) :: news) → Off3 I C D news → ((@Ne Nat I C) ∧ (@Ne Nat I D) ∧ (@Ne Nat C D)) →
      wpAny (model prog w) A (isTrue c (compEnvC scope cl C env) (eval c (compEnvC scope cl C env))) (fun b => TurnF h₀ L m { s₂ with heap := h, toks := tk } ((I, oI) :: (C, oC) :: (D, lst ys) :: news) (b = cond k)) E' { s₂ with heap := h, toks := tk })
    (eltT : ∀ (k : Int) t I oI C oC D m₂ ys h tk (E' : Value → Shared → Prop), a ≤ k → k < a + (n : Int) → cond k = true → NsObj oC m₂ → m₂ x = some (.int k t) → Fr h₀ L h m → News h₀ L h ((I, oI) :: (C, oC) :: (D, lst ys) :: news) → Off3 I C D news → ((@Ne Nat I C) ∧ (@Ne Nat I D) ∧ (@Ne Nat C D)) →
      wpAny (model prog w) A (eval elt (compEnvC scope cl C env)) (fun y => TurnF h₀ L m { s₂ with heap := h, toks := tk } ((I, oI) :: (C, oC) :: (D, lst ys) :: news) (∃ t, y = .int (vf k) t)) E' { s₂ with heap := h, toks := tk })
    (hRR : ∀ D C h tk m' ys, Fr h₀ L h m → News h₀ L h ((D, lst ys) :: news) → Off1 D news → h.Ns C m' → h₀.get? C = none → h₀.get? D = none → C ≠ L → D ≠ L → C ≠ D → (∀ p ∈ news, p.1 ≠ C) → IntsAre ys (((rangeKs a n).filter cond).map vf) → RR (.ref D) C (.ok .next) { s₂ with heap := h, toks := tk }) :
    wpAny (model prog w) A (newList []) (fun acc s₃ => wpAny (model prog w) A (newFunctionEnv scope env.globals cl [] env.qual none .none (some env)) (fun cenv s₄ =>
      codeAny (model prog w) A (.compStart (.ListComp elt [⟨.Name x px, iter, [c], 0⟩] scope pos) 0 (.ref I) acc { cenv with scope := relabel scope env }) (RR acc cenv.locals) s₄) E s₃) E s₂ := by
  have W := range_walks (prog := prog) (w := w) (A := A) (I := I) hh a n
  refine wpAny_newObj_type (wpAny_newFunctionEnv hcell (by intro y hy; simp at hy) (fun h₁ hns₁ hsb₁ => ?_) hkind)
  dsimp only at hns₁ hsb₁ ⊢
  generalize hH2 : s₂.heap.push { cls := .type "list", dict := none, data := .seq ([] : List Value).toArray } = H2 at hns₁ hsb₁ ⊢
  have hC : H2.objs.size = s₂.heap.objs.size + 1 := by rw [← hH2, Heap.size_push]
  have below : ∀ b, b < s₂.heap.objs.size → b ≠ H2.objs.size ∧ b ≠ s₂.heap.objs.size := fun b hb => ⟨by rw [hC]; exact Nat.ne_of_lt (Nat.lt_succ_of_lt hb), Nat.ne_of_lt hb⟩
  have hDC : s₂.heap.objs.size ≠ H2.objs.size := by rw [hC]; exact Nat.ne_of_lt (Nat.lt_succ_self _)
  have old : ∀ b o, s₂.heap.get? b = some o → h₁.get? b = some o := fun b o e => hsb₁.extBut b o (below b (Heap.lt_size e)).1 (Heap.get?_push_of_some _ (hH2 ▸ Heap.get?_push_of_some _ e))
  have hacc : h₁.get? s₂.heap.objs.size = some (lst []) := hsb₁.extBut _ _ hDC (Heap.get?_push_of_some _ (hH2 ▸ Heap.get?_push_size _ rfl))
  have nf : ∀ b, s₂.heap.objs.size ≤ b → h₀.get? b = none := fun b hb => by
    cases e : h₀.get? b with
    | none => rfl
    | some o' => exact absurd (Heap.lt_size (F.keep b o' e)) (Nat.not_lt.mpr hb)
  have hD₀ : h₀.get? s₂.heap.objs.size = none := nf _ (Nat.le_refl _)
  have hC₀ : h₀.get? H2.objs.size = none := nf _ (by rw [hC]; exact Nat.le_succ _)
  have hDL : s₂.heap.objs.size ≠ L := Ne.symm (below L F.ns.lt).2
  have hCL : H2.objs.size ≠ L := Ne.symm (below L F.ns.lt).1
  have hCI : I ≠ H2.objs.size := (below I hIlt).1
  have hDI : I ≠ s₂.heap.objs.size := (below I hIlt).2
  have offAll : ∀ p ∈ news, p.1 ≠ I ∧ p.1 ≠ H2.objs.size ∧ p.1 ≠ s₂.heap.objs.size := fun p hp => ⟨off p hp, (below _ (Heap.lt_size (N p hp).1)).1, (below _ (Heap.lt_size (N p hp).1)).2⟩
  have off3 := Off3.of offAll
  have loop : ∀ s₃ : Shared, s₃ = { s₂ with heap := h₁, toks := s₂.toks + ([] : List (Str × Value)).length } →
      codeAny (model prog w) A (.compLoop (.ListComp elt [⟨.Name x px, iter, [c], 0⟩] scope pos) 0 (.ref I) (.ref s₂.heap.objs.size) (compEnvC scope cl H2.objs.size env))
        (RR (.ref s₂.heap.objs.size) H2.objs.size) s₃ := by
    rintro s₃ rfl
    refine codeAny_compLoop_tests
      (fun k s' => ∃ h' tk i ys m', s' = { s₂ with heap := h', toks := tk } ∧ i ≤ n ∧ k = n + 1 - i ∧ ys.length ≤ i ∧ IntsAre ys (((rangeKs a i).filter cond).map vf) ∧ IsRangeIter h' I (a + (i : Nat) * 1) ((n : Int) - (i : Nat)) 1 ∧ Fr h₀ L h' m ∧ h'.Ns H2.objs.size m' ∧ News h₀ L h' ((s₂.heap.objs.size, lst ys) :: news)) ?_ (n + 1)
      ⟨h₁, _, 0, [], _, rfl, Nat.zero_le _, rfl, Nat.le_refl _, .nil, W.frame _ _ _ hst fun b _ o e => old b o e, F.keeps old, hns₁, fun p hp => ?_⟩
    · rintro k s' ⟨h', tk, i, ys, m', rfl, hi, rfl, hyl, hint, hst', F', hn', N'⟩
      have ND' : News h₀ L h' news := fun p hp => N' p (List.mem_cons_of_mem _ hp)
      by_cases hlt : i < n
      · refine W.item i _ _ _ hlt hst' fun v h₂ tk₂ hPv hst₂ hk₂ => ?_
        obtain ⟨t, rfl⟩ := hPv
        refine wpAny_assign_Name (wpAny_storeName_local (lookup_relabel_local hx) (hn'.at' fun o e => hk₂ _ o (by simpa using Ne.symm hCI) e) (fun h₃ hn₃ hs₃ => ?_) (by simp [compEnvC, relabel, hkind]))
        have hst₃ : IsRangeIter h₃ I (a + ((i + 1 : Nat) : Int) * 1) ((n : Int) - ((i + 1 : Nat) : Int)) 1 := W.frame _ _ _ hst₂ fun b hb o e => hs₃.extBut b o (fun q => hCI (by rw [← List.mem_singleton.mp hb]; exact q)) e
        obtain ⟨oC, heC, hoC⟩ := ns_obj hn₃
        have F₃ : Fr h₀ L h₃ m := (fr_but F' hk₂ hIL hI₀).change hs₃ hCL hC₀
        have heI : h₃.get? I = some _ := hst₃
        have N₂ : News h₀ L h₂ ((s₂.heap.objs.size, lst ys) :: news) := news_but N' hk₂ fun p hp => by
          rcases List.mem_cons.mp hp with rfl | hp
          · exact Ne.symm hDI
          · exact (offAll p hp).1
        have N₃ : News h₀ L h₃ ((I, _) :: (H2.objs.size, oC) :: (s₂.heap.objs.size, lst ys) :: news) := fun p hp => by
          rcases List.mem_cons.mp hp with rfl | hp
          · exact ⟨heI, Ne.symm hIL, hI₀⟩
          · rcases List.mem_cons.mp hp with rfl | hp
            · exact ⟨heC, hCL, hC₀⟩
            · have z := N₂ p hp
              refine ⟨hs₃.extBut _ _ ?_ z.1, z.2⟩
              rcases List.mem_cons.mp hp with rfl | hp
              · exact hDC
              · exact (offAll p hp).2.1
        have hne : ((@Ne Nat I H2.objs.size) ∧ (@Ne Nat I s₂.heap.objs.size) ∧ (@Ne Nat H2.objs.size s₂.heap.objs.size)) := ⟨hCI, hDI, Ne.symm hDC⟩
        have b1 : a ≤ a + (i : Int) := by omega
        have b2 : a + (i : Int) < a + (n : Int) := by omega
        refine wpAny_tests_one (wpAny_mono (testT (a + (i : Int)) t I _ H2.objs.size oC s₂.heap.objs.size _ ys h₃ _ _ b1 b2 hoC (by simp) F₃ N₃ off3 hne) (fun b s₄ h₄ => ?_) fun _ _ e => e)
        obtain ⟨h₄, tk₄, rfl, F₄, N₄, rfl⟩ := h₄
        have zI := (N₄ _ List.mem_cons_self).1
        have hst₄ : IsRangeIter h₄ I (a + ((i + 1 : Nat) : Int) * 1) ((n : Int) - ((i + 1 : Nat) : Int)) 1 := zI
        have zC := (N₄ _ (List.mem_cons_of_mem _ List.mem_cons_self)).1
        cases hc : cond (a + (i : Int)) with
        | false =>
          rw [if_neg Bool.false_ne_true]
          refine ⟨n + 1 - (i + 1), by omega, h₄, tk₄, i + 1, ys, _, rfl, hlt, rfl, by omega, ?_, hst₄, F₄, hoC.ns zC, fun p hp => N₄ p (List.mem_cons_of_mem _ (List.mem_cons_of_mem _ hp))⟩
          rw [rangeKs_snoc, List.filter_append, List.filter_cons, hc]
          simpa using hint
        | true =>
          rw [if_pos rfl]
          refine wpAny_mono (eltT (a + (i : Int)) t I _ H2.objs.size oC s₂.heap.objs.size _ ys h₄ tk₄ _ b1 b2 hc hoC (by simp) F₄ N₄ off3 hne) (fun y s₅ h₅ => ?_) fun _ _ e => e
          obtain ⟨h₅, tk₅, rfl, F₅, N₅, ty, rfl⟩ := h₅
          have hst₅ : IsRangeIter h₅ I (a + ((i + 1 : Nat) : Int) * 1) ((n : Int) - ((i + 1 : Nat) : Int)) 1 := (N₅ _ List.mem_cons_self).1
          have zC₅ := (N₅ _ (List.mem_cons_of_mem _ List.mem_cons_self)).1
          have zD₅ := (N₅ _ (List.mem_cons_of_mem _ (List.mem_cons_of_mem _ List.mem_cons_self))).1
          refine append_at (hsz := by show ys.toArray.size ≤ sizeLine; rw [List.size_toArray]; exact Nat.le_trans (Nat.le_trans hyl hi) hsz) zD₅ fun h₆ hs₆ hD₆ => ?_
          refine ⟨n + 1 - (i + 1), by omega, h₆, tk₅, i + 1, ys ++ [.int (vf (a + (i : Int))) ty], _, rfl, hlt, rfl, by rw [List.length_append, List.length_singleton]; omega, ?_, W.frame _ _ _ hst₅ fun b hb o e => hs₆.extBut b o (fun q => hDI (by rw [← List.mem_singleton.mp hb]; exact q)) e, F₅.change hs₆ hDL hD₀,
            (hoC.ns zC₅).sameBut hs₆ (Ne.symm hDC), fun p hp => ?_⟩
          · rw [rangeKs_snoc, List.filter_append, List.filter_cons, hc]
            simpa using ints_snoc hint (vf (a + (i : Int))) ty
          · rcases List.mem_cons.mp hp with rfl | hp
            · exact ⟨hD₆.trans (congrArg some (lst_snoc ys _)), hDL, hD₀⟩
            · have z := N₅ p (List.mem_cons_of_mem _ (List.mem_cons_of_mem _ (List.mem_cons_of_mem _ hp)))
              exact ⟨hs₆.extBut _ _ (offAll p hp).2.2 z.1, z.2⟩
      · obtain rfl : i = n := Nat.le_antisymm hi (Nat.not_lt.mp hlt)
        refine W.done _ _ _ hst' fun h₂ tk₂ hk₂ => ?_
        exact hRR _ _ h₂ tk₂ _ ys (fr_but F' hk₂ hIL hI₀) (news_but N' hk₂ fun p hp => by
          rcases List.mem_cons.mp hp with rfl | hp
          · exact Ne.symm hDI
          · exact (offAll p hp).1) off3.one (hn'.at' fun o e => hk₂ _ o (by simpa using Ne.symm hCI) e) hC₀ hD₀ hCL hDL (Ne.symm hDC) (fun p hp => (offAll p hp).2.1) hint
    · rcases List.mem_cons.mp hp with rfl | hp
      · exact ⟨hacc, hDL, hD₀⟩
      · exact ⟨old _ _ (N p hp).1, (N p hp).2⟩
  exact codeAny_compStart_list (loop _ rfl) (W.self 0 _ _ _ (W.frame _ _ _ hst fun b _ o e => old b o e) (loop _ rfl))
end
end
section
section
open LCg
/-- what is said of a comprehension with a test: whose, which, what -/
structure SpecF (x : Str) (cond : Int → Bool) (vf : Int → Int) : Prop where
  ok : True
def TestsF (prog : Program) (w : World) (A : Around) (h₀ : Heap) (L : Addr) (m : Str → Option Value) (env : Env) (c : Expr) (x : Str) (scope : Scope) (cl : List (Str × Addr)) (s₂ : Shared) (a : Int) (n : Nat) (news : List (Addr × Obj)) (cond : Int → Bool) : Prop :=
  ∀ (k : Int) t I oI C oC D m₂ ys h tk (E' : Value → Shared → Prop), a ≤ k → k < a + (n : Int) → NsObj oC m₂ → m₂ x = some (.int k t) → Fr h₀ L h m → News h₀ L h ((I, oI) :: (C, oC) :: (D, lst ys) :: news) → Off3 I C D news → ((@Ne Nat I C) ∧ (@Ne Nat I D) ∧ (@Ne Nat C D)) →
      wpAny (model prog w) A (isTrue c (compEnvC scope cl C env) (eval c (compEnvC scope cl C env))) (fun b => TurnF h₀ L m { s₂ with heap := h, toks := tk } ((I, oI) :: (C, oC) :: (D, lst ys) :: news) (b = cond k)) E' { s₂ with heap := h, toks := tk }
def EltsF (prog : Program) (w : World) (A : Around) (h₀ : Heap) (L : Addr) (m : Str → Option Value) (env : Env) (elt : Expr) (x : Str) (scope : Scope) (cl : List (Str × Addr)) (s₂ : Shared) (a : Int) (n : Nat) (news : List (Addr × Obj)) (cond : Int → Bool) (vf : Int → Int) : Prop :=
  ∀ (k : Int) t I oI C oC D m₂ ys h tk (E' : Value → Shared → Prop), a ≤ k → k < a + (n : Int) → cond k = true → NsObj oC m₂ → m₂ x = some (.int k t) → Fr h₀ L h m → News h₀ L h ((I, oI) :: (C, oC) :: (D, lst ys) :: news) → Off3 I C D news → ((@Ne Nat I C) ∧ (@Ne Nat I D) ∧ (@Ne Nat C D)) →
      wpAny (model prog w) A (eval elt (compEnvC scope cl C env)) (fun y => TurnF h₀ L m { s₂ with heap := h, toks := tk } ((I, oI) :: (C, oC) :: (D, lst ys) :: news) (∃ t, y = .int (vf k) t)) E' { s₂ with heap := h, toks := tk }
def SrcF (prog : Program) (w : World) (A : Around) (h₀ : Heap) (L : Addr) (m : Str → Option Value) (env : Env) (elt c : Expr) (x : Str) (scope : Scope) (cl : List (Str × Addr)) (cond : Int → Bool) (vf : Int → Int) (Fin : Addr → Shared → Prop) (m' : Addr → Str → Option Value) (xv : Value) (s₁ : Shared) : Prop :=
  ∃ r a b t u v n news, xv = .ref r ∧ A.handled = none ∧ Fr h₀ L s₁.heap m ∧ News h₀ L s₁.heap news ∧ IsRange s₁.heap r a b 1 t u v ∧ Builtin.Range.small a b 1 = true ∧ Builtin.Range.rangeSize a b 1 = ((n : Nat) : Int) ∧ n ≤ sizeLine ∧
    (∀ g, TestsF prog w A h₀ L m env c x scope cl { s₁ with heap := g } a n news cond) ∧ (∀ g, EltsF prog w A h₀ L m env elt x scope cl { s₁ with heap := g } a n news cond vf) ∧
    ∀ D ys h tk, Fr h₀ L h (m' D) → News h₀ L h ((D, lst ys) :: news) → Off1 D news → IntsAre ys (((rangeKs a n).filter cond).map vf) → Fin D { s₁ with heap := h, toks := tk }
section
variable {prog : Program} {w : World} {A : Around} {E : Value → Shared → Prop} {s : Shared} {env : Env} {h₀ : Heap} {L : Addr} {m : Str → Option Value}
theorem SrcF.range {elt c : Expr} {x : Str} {scope : Scope} {cl : List (Str × Addr)} {cond : Int → Bool} {vf : Int → Int} {Fin : Addr → Shared → Prop} {m' : Addr → Str → Option Value} {r : Addr} {a b : Int} {t u v : Tok} {n : Nat} {news : List (Addr × Obj)} {s₁ : Shared}
    (hh : A.handled = none) (F : Fr h₀ L s₁.heap m) (N : News h₀ L s₁.heap news) (hr : IsRange s₁.heap r a b 1 t u v) (hsm : Builtin.Range.small a b 1 = true) (hn : Builtin.Range.rangeSize a b 1 = ((n : Nat) : Int)) (hsz : decide (n ≤ 1000) = true)
    (ht : ∀ g, TestsF prog w A h₀ L m env c x scope cl { s₁ with heap := g } a n news cond) (he : ∀ g, EltsF prog w A h₀ L m env elt x scope cl { s₁ with heap := g } a n news cond vf)
    (hf : ∀ D ys h tk, Fr h₀ L h (m' D) → News h₀ L h ((D, lst ys) :: news) → Off1 D news → IntsAre ys (((rangeKs a n).filter cond).map vf) → Fin D { s₁ with heap := h, toks := tk }) :
    SrcF prog w A h₀ L m env elt c x scope cl cond vf Fin m' (.ref r) s₁ :=
  ⟨r, a, b, t, u, v, n, news, rfl, hh, F, N, hr, hsm, hn, by have := of_decide_eq_true hsz; have := sizeLine_eq; omega, ht, he, hf⟩
theorem ListComp_F {elt iter c : Expr} {x : Str} {px : Pos} {scope : Scope} {cl : List (Str × Addr)} {pos : Pos} {Q : Value → Shared → Prop} {cond : Int → Bool} {vf : Int → Int} (F₀ : Fr h₀ L s.heap m) (_hS : SpecF x cond vf)
    (hclos : closureFor scope env = pure cl) (hcell : ∀ y ∈ scope.names, y.2 ≠ .cell) (hkind : scope.kind = .function)
    (hnames : ∀ y ∈ scope.names, y.2 = .local → scope.names.lookup y.1 = some .local) (hx : scope.names.lookup x = some .local)
    (h : wpAny (model prog w) A (eval iter env) (SrcF prog w A h₀ L m env elt c x scope cl cond vf (fun D s' => Q (.ref D) s') fun _ => m) E s)
    (hs : ∀ x, foldedSetIterable iter env x = pure x := by intro _; rfl) :
    wpAny (model prog w) A (eval (.ListComp elt [⟨.Name x px, iter, [c], 0⟩] scope pos) env) Q E s := by
  rw [eval_ListComp]
  refine wpAny_comprehension_free (use := none) rfl hs hclos hkind hnames (wpAny_mono h (fun xv s₁ h₁ => ?_) fun _ _ e => e)
  obtain ⟨r, a, b, t, u, v, n, news, rfl, hh, F, N, hr, hsm, hn, hsz, hT, hE, hF⟩ := h₁
  refine wpAny_pyIter_range hr hsm ?_
  refine block_F (cond := cond) (vf := vf) hh hsz hcell hkind hx (by show IsRangeIter _ _ _ _ _; rw [hn]; simpa using Heap.get?_push_size _ rfl) (by show s₁.heap.objs.size < (s₁.heap.push _).objs.size; rw [Heap.size_push]; exact Nat.lt_succ_self _)
    (F.keeps fun _ _ e => Heap.get?_push_of_some _ e) (N.grown fun _ _ e => Heap.get?_push_of_some _ e) (Nat.ne_of_lt F.ns.lt) (next_is_new F) (fun p hp => Nat.ne_of_lt (Heap.lt_size (N p hp).1)) (hT _) (hE _) ?_
  intro D C h tk m' ys F' N' o1 hn hC₀ hD₀ hCL hDL hCD offC hi
  refine ⟨m', hn, fun h'' hs'' => hF D ys h'' tk (F'.change hs'' hCL hC₀) (fun p hp => ?_) o1 hi⟩
  refine ⟨hs''.extBut _ _ ?_ (N' p hp).1, (N' p hp).2⟩
  rcases List.mem_cons.mp hp with rfl | hp
  · exact Ne.symm hCD
  · exact offC p hp
theorem Assign_F {elt iter c : Expr} {x y : Str} {px py : Pos} {scope : Scope} {cl : List (Str × Addr)} {pos spos : Pos} {Q : Flow → Shared → Prop} {cond : Int → Bool} {vf : Int → Int} (F₀ : Fr h₀ L s.heap m) (hLe : env.locals = L) (_hS : SpecF y cond vf)
    (hsw : swapsWith (.ListComp elt [⟨.Name x px, iter, [c], 0⟩] scope pos) (some (.Name y py)) spos.line env = pure true)
    (hclos : closureFor scope env = pure cl) (hcell : ∀ z ∈ scope.names, z.2 ≠ .cell) (hkind : scope.kind = .function)
    (hnames : ∀ z ∈ scope.names, z.2 = .local → scope.names.lookup z.1 = some .local) (hx : scope.names.lookup x = some .local)
    (hy : env.kindOf y = some .local) (hp : (env.scope.kind == .class || (env.scope.kind == .module && env.locals != env.globals)) = false)
    (h : wpAny (model prog w) A (eval iter env) (SrcF prog w A h₀ L m env elt c x scope cl cond vf (fun _ s' => Q .next s') fun D z => if z = y then some (.ref D) else m z) E s)
    (hs : ∀ x, foldedSetIterable iter env x = pure x := by intro _; rfl) :
    wpAny (model prog w) A (exec (.Assign [.Name y py] (.ListComp elt [⟨.Name x px, iter, [c], 0⟩] scope pos) spos) env) Q E s := by
  subst hLe
  rw [exec_Assign_Name_used _ _ _ _ hsw]
  refine wpAny_bind (wpAny_standAt (wpAny_bind ?_))
  show wpAny _ A (do let _ ← comprehension (.ListComp elt [⟨.Name x px, iter, [c], 0⟩] scope pos) scope env _ (newList []) false (eval iter env) (some (assign (.Name y py) env))) _ _ s
  refine wpAny_bind (wpAny_mono (wpAny_comprehension_free (use := some (assign (.Name y py) env)) (Q := fun _ s' => Q .next s') rfl hs hclos hkind hnames
    (wpAny_mono h (fun xv s₁ h₁ => ?_) fun _ _ e => e)) (fun _ s' hq => wpAny_pure (wpAny_pure hq)) fun _ _ e => e)
  obtain ⟨r, a, b, t, u, v, n, news, rfl, hh, F, N, hr, hsm, hn, hsz, hT, hE, hF⟩ := h₁
  refine wpAny_pyIter_range hr hsm ?_
  refine block_F (cond := cond) (vf := vf) hh hsz hcell hkind hx (by show IsRangeIter _ _ _ _ _; rw [hn]; simpa using Heap.get?_push_size _ rfl) (by show s₁.heap.objs.size < (s₁.heap.push _).objs.size; rw [Heap.size_push]; exact Nat.lt_succ_self _)
    (F.keeps fun _ _ e => Heap.get?_push_of_some _ e) (N.grown fun _ _ e => Heap.get?_push_of_some _ e) (Nat.ne_of_lt F.ns.lt) (next_is_new F) (fun p hp => Nat.ne_of_lt (Heap.lt_size (N p hp).1)) (hT _) (hE _) ?_
  intro D C h' tk m' ys F' N' o1 hn hC₀ hD₀ hCL hDL hCD offC hi
  show wpAny _ A (assign (.Name y py) env (.ref D)) _ _ _
  refine wpAny_assign_Name (wpAny_storeName_local hy F'.ns (fun h₂ hn₂ hs₂ => ?_) hp)
  have hL₀ : h₀.get? env.locals = none := Heap.get?_none_of_le F'.above
  have F₂ : Fr h₀ env.locals h₂ (fun z => if z = y then some (.ref D) else m z) := ⟨hn₂, fun b o e => hs₂.extBut b o (fun q => by rw [q, hL₀] at e; cases e) (F'.keep b o e), F'.above⟩
  refine ⟨m', hn.sameBut hs₂ hCL, fun h'' hs'' => hF D ys h'' _ (F₂.change hs'' hCL hC₀) (fun p hp => ?_) o1 hi⟩
  have z : h₂.get? p.1 = some p.2 := hs₂.extBut _ _ (N' p hp).2.1 (N' p hp).1
  refine ⟨hs''.extBut _ _ ?_ z, (N' p hp).2⟩
  rcases List.mem_cons.mp hp with rfl | hp
  · exact Ne.symm hCD
  · exact offC p hp
end
end
end
section
section
open LCg
variable {prog : Program} {w : World} {A : Around} {E : Value → Shared → Prop} {s : Shared} {env : Env} {h₀ : Heap} {L : Addr} {m : Str → Option Value}
theorem newEnv_one {scope : Scope} {globals : Addr} {cl : List (Str × Addr)} {qual : Str} {Q : Env → Shared → Prop} {x n0 n2 n3 : Str} (hn : scope.names = [(n0, .local), (x, .cell), (n2, .globalImplicit), (n3, .globalImplicit)])
    (h : Q (newEnv scope s.heap.objs.size globals ((x, s.heap.objs.size + 1) :: cl) qual none .none (some env) builtinsNs) { s with heap := (s.heap.push { cls := .type "dict", data := .dict #[] }).push { cls := .type "cell", data := .cell none } }) :
    wpAny (model prog w) A (newFunctionEnv scope globals cl [] qual none .none (some env)) Q E s := by
  simp only [newFunctionEnv, Option.isSome_some, if_true]
  refine wpAny_bind (wpAny_alloc ?_)
  rw [hn]
  have e1 : (NameKind.local == NameKind.cell) = false := rfl
  have e2 : (NameKind.globalImplicit == NameKind.cell) = false := rfl
  have e3 : (NameKind.cell == NameKind.cell) = true := rfl
  simp only [List.forIn_cons, List.forIn_nil, e1, e2, e3, Bool.false_eq_true, if_false, if_true, bind_assoc, pure_bind]
  refine wpAny_bind (wpAny_alloc ?_)
  refine wpAny_pure ?_
  have hs : (s.heap.push { cls := .type "dict", data := .dict #[] }).objs.size = s.heap.objs.size + 1 := Heap.size_push ..
  rw [hs]
  exact h
theorem block_C {elt iter : Expr} {x : Str} {px : Pos} {scope : Scope} {cl : List (Str × Addr)} {pos : Pos} {s₂ : Shared} {I ax : Addr} {its : Array Value} {ns : List Int} {oa : Obj} {na : Nat} {news : List (Addr × Obj)} {vf : Int → Int} {RR : Value → Addr → Result → Shared → Prop} {n0 n2 n3 : Str}
    (hh : A.handled = none) (hi : IntsAre its.toList ns) (hsz : ns.length ≤ sizeLine) (hnames : scope.names = [(n0, .local), (x, .cell), (n2, .globalImplicit), (n3, .globalImplicit)]) (hx0 : (x == n0) = false) (hkind : scope.kind = .function)
    (hst : s₂.heap.IsListIter I ax 0) (hma : (ax, oa) ∈ news) (hoa : oa.cls = .type "list" ∧ oa.data = .seq its na) (hIlt : I < s₂.heap.objs.size) (F : Fr h₀ L s₂.heap m) (N : News h₀ L s₂.heap news) (hIL : L ≠ I) (hI₀ : h₀.get? I = none) (off : ∀ p ∈ news, p.1 ≠ I)
    (eltT : ∀ (k : Int) t I oI C oC D c oc ys h tk (E' : Value → Shared → Prop), k ∈ ns → oc.data = .cell (some (.int k t)) → NsObj oC (fun _ => none) → Fr h₀ L h m → News h₀ L h ((I, oI) :: (C, oC) :: (D, lst ys) :: (c, oc) :: news) → Off3 I C D ((c, oc) :: news) → ((@Ne Nat I C) ∧ (@Ne Nat I D) ∧ (@Ne Nat C D)) →
      wpAny (model prog w) A (eval elt (compEnvC scope ((x, c) :: cl) C env)) (fun y => TurnF h₀ L m { s₂ with heap := h, toks := tk } ((I, oI) :: (C, oC) :: (D, lst ys) :: (c, oc) :: news) (∃ t, y = .int (vf k) t)) E' { s₂ with heap := h, toks := tk })
    (hRR : ∀ D C h tk m' ys, Fr h₀ L h m → News h₀ L h ((D, lst ys) :: news) → Off1 D news → h.Ns C m' → h₀.get? C = none → h₀.get? D = none → C ≠ L → D ≠ L → C ≠ D → (∀ p ∈ news, p.1 ≠ C) → IntsAre ys (ns.map vf) → RR (.ref D) C (.ok .next) { s₂ with heap := h, toks := tk }) :
    wpAny (model prog w) A (newList []) (fun acc s₃ => wpAny (model prog w) A (newFunctionEnv scope env.globals cl [] env.qual none .none (some env)) (fun cenv s₄ =>
      codeAny (model prog w) A (.compStart (.ListComp elt [⟨.Name x px, iter, [], 0⟩] scope pos) 0 (.ref I) acc { cenv with scope := relabel scope env }) (RR acc cenv.locals) s₄) E s₃) E s₂ := by
  have hlen : its.size = ns.length := by rw [← hi.length]; simp
  have hIax : ax ≠ I := off _ hma
  have W := Walks.list (prog := prog) (w := w) (A := A) hh I ax hIax its
  have hkx : (compEnvC scope cl L env).kindOf x = some .cell := by
    show (relabel scope env).names.lookup x = some .cell
    unfold relabel
    rw [hnames]
    simp only [List.map_cons, List.lookup_cons]
    have e1 : (NameKind.local == NameKind.free) = false := rfl
    have e2 : (NameKind.cell == NameKind.free) = false := rfl
    simp [e1, e2, hx0, List.lookup_cons]
  refine wpAny_newObj_type (newEnv_one hnames ?_)
  dsimp only
  generalize hH2 : s₂.heap.push { cls := .type "list", dict := none, data := .seq ([] : List Value).toArray } = H2
  have hC : H2.objs.size = s₂.heap.objs.size + 1 := by rw [← hH2, Heap.size_push]
  generalize hH3 : H2.push { cls := .type "dict", data := .dict #[] } = H3
  have hC3 : H3.objs.size = s₂.heap.objs.size + 1 + 1 := by rw [← hH3, Heap.size_push, hC]
  generalize hH4 : H3.push { cls := .type "cell", data := .cell none } = H4
  rw [hC]
  have nD : ∀ b, b < s₂.heap.objs.size → b ≠ s₂.heap.objs.size ∧ b ≠ s₂.heap.objs.size + 1 ∧ b ≠ s₂.heap.objs.size + 1 + 1 := fun b hb => ⟨Nat.ne_of_lt hb, Nat.ne_of_lt (Nat.lt_succ_of_lt hb), Nat.ne_of_lt (Nat.lt_succ_of_lt (Nat.lt_succ_of_lt hb))⟩
  generalize hDe : s₂.heap.objs.size = D at *
  have hCD : D + 1 ≠ D := Nat.succ_ne_self D
  have hcD : D + 1 + 1 ≠ D := by omega
  have hcC : D + 1 + 1 ≠ D + 1 := by omega
  have old : ∀ b o, s₂.heap.get? b = some o → H4.get? b = some o := fun b o e => hH4 ▸ Heap.get?_push_of_some _ (hH3 ▸ Heap.get?_push_of_some _ (hH2 ▸ Heap.get?_push_of_some _ e))
  have hacc : H4.get? D = some (lst []) := hH4 ▸ Heap.get?_push_of_some _ (hH3 ▸ Heap.get?_push_of_some _ (hH2 ▸ hDe ▸ Heap.get?_push_size _ rfl))
  have hdict : H4.get? (D + 1) = some { cls := .type "dict", data := .dict #[] } := hH4 ▸ Heap.get?_push_of_some _ (hH3 ▸ hC ▸ Heap.get?_push_size _ rfl)
  have hcell : H4.get? (D + 1 + 1) = some { cls := .type "cell", data := .cell none } := hH4 ▸ hC3 ▸ Heap.get?_push_size _ rfl
  have nf : ∀ b, D ≤ b → h₀.get? b = none := fun b hb => by
    cases e : h₀.get? b with
    | none => rfl
    | some o' => have := Heap.lt_size (F.keep b o' e); rw [hDe] at this; exact absurd this (Nat.not_lt.mpr hb)
  have hLD : L < D := hDe ▸ F.ns.lt
  have n1 : @Ne Nat D L := Nat.ne_of_gt hLD
  have n2 : @Ne Nat (D + 1) L := Nat.ne_of_gt (Nat.lt_succ_of_lt hLD)
  have n3 : @Ne Nat (D + 1 + 1) L := Nat.ne_of_gt (Nat.lt_succ_of_lt (Nat.lt_succ_of_lt hLD))
  have f1 : h₀.get? (D + 1) = none := nf _ (Nat.le_succ D)
  have f2 : h₀.get? (D + 1 + 1) = none := nf _ (Nat.le_add_right D 2)
  have offAll : ∀ p ∈ news, p.1 ≠ I ∧ p.1 ≠ D + 1 ∧ p.1 ≠ D ∧ p.1 ≠ D + 1 + 1 := fun p hp => by
    have hl : p.1 < D := hDe ▸ Heap.lt_size (N p hp).1
    exact ⟨off p hp, (nD _ hl).2.1, (nD _ hl).1, (nD _ hl).2.2⟩
  have hsl : ∀ (h' : Heap) full, News h₀ L h' full → (∀ p ∈ news, p ∈ full) → h'.IsList ax its := fun h' full N' sub => ⟨oa, (N' _ (sub _ hma)).1, hoa.1, na, hoa.2⟩
  have loop : ∀ s₃ : Shared, s₃ = { s₂ with heap := H4 } →
      codeAny (model prog w) A (.compLoop (.ListComp elt [⟨.Name x px, iter, [], 0⟩] scope pos) 0 (.ref I) (.ref D) (compEnvC scope ((x, D + 1 + 1) :: cl) (D + 1) env)) (RR (.ref D) (D + 1)) s₃ := by
    rintro s₃ rfl
    refine codeAny_compLoop_tests
      (fun k s' => ∃ h' tk i ys oC oc v, s' = { s₂ with heap := h', toks := tk } ∧ i ≤ ns.length ∧ k = ns.length + 1 - i ∧ ys.length = i ∧ IntsAre ys ((ns.take i).map vf) ∧ h'.IsListIter I ax i ∧ NsObj oC (fun _ => none) ∧ oc.data = .cell v ∧ Fr h₀ L h' m ∧ News h₀ L h' ((D + 1, oC) :: (D, lst ys) :: (D + 1 + 1, oc) :: news)) ?_ (ns.length + 1)
      ⟨H4, _, 0, [], { cls := .type "dict", data := .dict #[] }, { cls := .type "cell", data := .cell none }, none, rfl, Nat.zero_le _, rfl, rfl, .nil, hst.at fun o e => old I o e, ⟨#[], 0, rfl, ⟨fun _ h => (nomatch h), fun _ => rfl⟩⟩, rfl, F.keeps old, fun p hp => ?_⟩
    · rintro k s' ⟨h', tk, i, ys, oC, oc, v₀, rfl, hi', rfl, hyl, hint, hit, hoC, hoc, F', N'⟩
      by_cases hlt : i < ns.length
      · have hlt' : i < its.size := by rw [hlen]; exact hlt
        obtain ⟨t, hxi⟩ := ints_at hi (i := i) (n := ns[i]) (by simp [hlt])
        have hxa : its[i]? = some (.int ns[i] t) := by simpa using hxi
        refine W.item i _ _ _ hlt' ⟨hit, hsl _ _ N' (fun p hp => List.mem_cons_of_mem _ (List.mem_cons_of_mem _ (List.mem_cons_of_mem _ hp)))⟩ fun v h₂ tk₂ hPv hst₂ hk₂ => ?_
        have hv : v = .int ns[i] t := by have q : its[i]? = some v := hPv; rw [hxa] at q; exact (Option.some.inj q).symm
        subst hv
        have keep₂ : ∀ b o, b ≠ I → h'.get? b = some o → h₂.get? b = some o := fun b o hb e => hk₂ b o (by simpa using hb) e
        have F₂ : Fr h₀ L h₂ m := fr_but F' hk₂ hIL hI₀
        have N₂ : News h₀ L h₂ ((D + 1, oC) :: (D, lst ys) :: (D + 1 + 1, oc) :: news) := news_but N' hk₂ fun p hp => by
          have hID := nD I hIlt
          rcases List.mem_cons.mp hp with rfl | hp
          · exact Ne.symm hID.2.1
          · rcases List.mem_cons.mp hp with rfl | hp
            · exact Ne.symm hID.1
            · rcases List.mem_cons.mp hp with rfl | hp
              · exact Ne.symm hID.2.2
              · exact off p hp
        have z₂ := N₂ (D + 1 + 1, oc) (List.mem_cons_of_mem _ (List.mem_cons_of_mem _ List.mem_cons_self))
        refine wpAny_assign_Name (wpAny_storeName_cell (c := D + 1 + 1) (by simp [compEnvC, relabel, hkind]) hkx (by simp [compEnvC]) ⟨oc, z₂.1, hoc⟩ fun h₃ hv₃ hs₃ => ?_)
        obtain ⟨oc', hoc', hdc'⟩ := hv₃
        have hID := nD I hIlt
        obtain ⟨oI, heI, hoI⟩ := hst₂.1
        have heI₃ : h₃.get? I = some oI := hs₃.extBut _ _ hID.2.2 heI
        have F₃ : Fr h₀ L h₃ m := F₂.change hs₃ n3 f2
        have N₃ : News h₀ L h₃ ((I, oI) :: (D + 1, oC) :: (D, lst ys) :: (D + 1 + 1, oc') :: news) := fun p hp => by
          rcases List.mem_cons.mp hp with rfl | hp
          · exact ⟨heI₃, Ne.symm hIL, hI₀⟩
          · rcases List.mem_cons.mp hp with rfl | hp
            · have z := N₂ _ List.mem_cons_self
              exact ⟨hs₃.extBut _ _ (Ne.symm hcC) z.1, z.2⟩
            · rcases List.mem_cons.mp hp with rfl | hp
              · have z := N₂ _ (List.mem_cons_of_mem _ List.mem_cons_self)
                exact ⟨hs₃.extBut _ _ (Ne.symm hcD) z.1, z.2⟩
              · rcases List.mem_cons.mp hp with rfl | hp
                · exact ⟨hoc', z₂.2⟩
                · have z := N₂ p (List.mem_cons_of_mem _ (List.mem_cons_of_mem _ (List.mem_cons_of_mem _ hp)))
                  exact ⟨hs₃.extBut _ _ (offAll p hp).2.2.2 z.1, z.2⟩
        have off3 : Off3 I (D + 1) D ((D + 1 + 1, oc') :: news) := ⟨⟨Ne.symm hID.2.2, hcC, hcD⟩, Off3.of fun p hp => ⟨(offAll p hp).1, (offAll p hp).2.1, (offAll p hp).2.2.1⟩⟩
        refine wpAny_tests_nil ?_
        simp only [if_true]
        refine wpAny_mono (eltT ns[i] t I oI (D + 1) oC D (D + 1 + 1) oc' ys h₃ _ _ (List.getElem_mem _) hdc' hoC F₃ N₃ off3 ⟨hID.2.1, hID.1, hCD⟩) (fun y s₄ h₄ => ?_) fun _ _ e => e
        obtain ⟨h₄, tk₄, rfl, F₄, N₄, ty, rfl⟩ := h₄
        have zI := (N₄ _ List.mem_cons_self).1
        have zC := (N₄ _ (List.mem_cons_of_mem _ List.mem_cons_self)).1
        have zD := (N₄ _ (List.mem_cons_of_mem _ (List.mem_cons_of_mem _ List.mem_cons_self))).1
        have zc := N₄ _ (List.mem_cons_of_mem _ (List.mem_cons_of_mem _ (List.mem_cons_of_mem _ List.mem_cons_self)))
        refine append_at (hsz := by show ys.toArray.size ≤ sizeLine; rw [List.size_toArray, hyl]; exact Nat.le_trans hi' hsz) zD fun h₅ hs₅ hD₅ => ?_
        refine ⟨ns.length + 1 - (i + 1), by omega, h₅, tk₄, i + 1, ys ++ [.int (vf ns[i]) ty], oC, oc', _, rfl, hlt, rfl, by rw [List.length_append, List.length_singleton, hyl], ?_, ⟨oI, hs₅.extBut _ _ hID.1 zI, hoI⟩, hoC, hdc', F₄.change hs₅ n1 (nf _ (Nat.le_refl _)), fun p hp => ?_⟩
        · rw [List.take_succ_eq_append_getElem hlt, List.map_append]
          exact ints_snoc hint (vf ns[i]) ty
        · rcases List.mem_cons.mp hp with rfl | hp
          · have z := N₄ _ (List.mem_cons_of_mem _ List.mem_cons_self)
            exact ⟨hs₅.extBut _ _ hCD z.1, z.2⟩
          · rcases List.mem_cons.mp hp with rfl | hp
            · have z := N₄ _ (List.mem_cons_of_mem _ (List.mem_cons_of_mem _ List.mem_cons_self))
              exact ⟨hD₅.trans (congrArg some (lst_snoc ys _)), z.2⟩
            · rcases List.mem_cons.mp hp with rfl | hp
              · exact ⟨hs₅.extBut _ _ hcD zc.1, zc.2⟩
              · have z := N₄ p (List.mem_cons_of_mem _ (List.mem_cons_of_mem _ (List.mem_cons_of_mem _ (List.mem_cons_of_mem _ hp))))
                exact ⟨hs₅.extBut _ _ (offAll p hp).2.2.1 z.1, z.2⟩
      · obtain rfl : i = ns.length := Nat.le_antisymm hi' (Nat.not_lt.mp hlt)
        rw [List.take_length] at hint
        have hst' : h'.IsListIter I ax its.size ∧ h'.IsList ax its := ⟨by rw [hlen]; exact hit, hsl _ _ N' (fun p hp => List.mem_cons_of_mem _ (List.mem_cons_of_mem _ (List.mem_cons_of_mem _ hp)))⟩
        refine W.done _ _ _ hst' fun h₂ tk₂ hk₂ => ?_
        have hID := nD I hIlt
        have zC := (N' _ List.mem_cons_self).1
        refine hRR _ _ h₂ tk₂ (fun _ => none) ys (fr_but F' hk₂ hIL hI₀) (fun p hp => ?_) (Off3.one (I := I) (C := D + 1) (Off3.of fun p hp => ⟨(offAll p hp).1, (offAll p hp).2.1, (offAll p hp).2.2.1⟩)) (hoC.ns (hk₂ _ _ (by simpa using Ne.symm hID.2.1) zC)) f1 (nf _ (Nat.le_refl _)) n2 n1 hCD (fun p hp => (offAll p hp).2.1) hint
        have z := N' p (by
          rcases List.mem_cons.mp hp with rfl | hp
          · exact List.mem_cons_of_mem _ List.mem_cons_self
          · exact List.mem_cons_of_mem _ (List.mem_cons_of_mem _ (List.mem_cons_of_mem _ hp)))
        refine ⟨hk₂ _ _ ?_ z.1, z.2⟩
        rcases List.mem_cons.mp hp with rfl | hp
        · simpa using Ne.symm hID.1
        · simpa using off p hp
    · rcases List.mem_cons.mp hp with rfl | hp
      · exact ⟨hdict, n2, f1⟩
      · rcases List.mem_cons.mp hp with rfl | hp
        · exact ⟨hacc, n1, nf _ (Nat.le_refl _)⟩
        · rcases List.mem_cons.mp hp with rfl | hp
          · exact ⟨hcell, n3, f2⟩
          · exact ⟨old _ _ (N p hp).1, (N p hp).2⟩
  exact codeAny_compStart_list (loop _ rfl) (W.self 0 _ _ _ ⟨hst.at fun o e => old I o e, ⟨oa, old _ _ (N _ hma).1, hoa.1, na, hoa.2⟩⟩ (loop _ rfl))
end
end
section
section
open LCg
structure SpecC (x : Str) (vf : Int → Int) : Prop where
  ok : True
def EltsC (prog : Program) (w : World) (A : Around) (h₀ : Heap) (L : Addr) (m : Str → Option Value) (env : Env) (elt : Expr) (x : Str) (scope : Scope) (cl : List (Str × Addr)) (s₂ : Shared) (ns : List Int) (news : List (Addr × Obj)) (vf : Int → Int) : Prop :=
  ∀ (k : Int) t I oI C oC D c oc ys h tk (E' : Value → Shared → Prop), k ∈ ns → oc.data = .cell (some (.int k t)) → NsObj oC (fun _ => none) → Fr h₀ L h m → News h₀ L h ((I, oI) :: (C, oC) :: (D, lst ys) :: (c, oc) :: news) → Off3 I C D ((c, oc) :: news) → ((@Ne Nat I C) ∧ (@Ne Nat I D) ∧ (@Ne Nat C D)) →
      wpAny (model prog w) A (eval elt (compEnvC scope ((x, c) :: cl) C env)) (fun y => TurnF h₀ L m { s₂ with heap := h, toks := tk } ((I, oI) :: (C, oC) :: (D, lst ys) :: (c, oc) :: news) (∃ t, y = .int (vf k) t)) E' { s₂ with heap := h, toks := tk }
def SrcC (prog : Program) (w : World) (A : Around) (h₀ : Heap) (L : Addr) (m : Str → Option Value) (env : Env) (elt : Expr) (x : Str) (scope : Scope) (cl : List (Str × Addr)) (vf : Int → Int) (Fin : Addr → Shared → Prop) (m' : Addr → Str → Option Value) (xv : Value) (s₁ : Shared) : Prop :=
  ∃ ax vs ns na news, xv = .ref ax ∧ A.handled = none ∧ Fr h₀ L s₁.heap m ∧ News h₀ L s₁.heap news ∧ (ax, W.listOf (List.toArray vs) na) ∈ news ∧ IntsAre vs ns ∧ ns.length ≤ sizeLine ∧
    (∀ g, EltsC prog w A h₀ L m env elt x scope cl { s₁ with heap := g } ns news vf) ∧
    ∀ D ys h tk, Fr h₀ L h (m' D) → News h₀ L h ((D, lst ys) :: news) → Off1 D news → IntsAre ys (ns.map vf) → Fin D { s₁ with heap := h, toks := tk }
section
variable {prog : Program} {w : World} {A : Around} {E : Value → Shared → Prop} {s : Shared} {env : Env} {h₀ : Heap} {L : Addr} {m : Str → Option Value}
theorem SrcC.intro {elt : Expr} {x : Str} {scope : Scope} {cl : List (Str × Addr)} {vf : Int → Int} {Fin : Addr → Shared → Prop} {m' : Addr → Str → Option Value} {ax : Addr} {vs : List Value} {ns : List Int} {na : Nat} {news : List (Addr × Obj)} {s₁ : Shared}
    (hh : A.handled = none) (F : Fr h₀ L s₁.heap m) (N : News h₀ L s₁.heap news) (hm : (ax, W.listOf vs.toArray na) ∈ news) (hi : IntsAre vs ns) (hsz : ns.length ≤ 1000)
    (he : ∀ g, EltsC prog w A h₀ L m env elt x scope cl { s₁ with heap := g } ns news vf)
    (hf : ∀ D ys h tk, Fr h₀ L h (m' D) → News h₀ L h ((D, lst ys) :: news) → Off1 D news → IntsAre ys (ns.map vf) → Fin D { s₁ with heap := h, toks := tk }) :
    SrcC prog w A h₀ L m env elt x scope cl vf Fin m' (.ref ax) s₁ :=
  ⟨ax, vs, ns, na, news, rfl, hh, F, N, hm, hi, by have := sizeLine_eq; omega, he, hf⟩
theorem Assign_C {elt iter : Expr} {x y : Str} {px py : Pos} {scope : Scope} {cl : List (Str × Addr)} {pos spos : Pos} {Q : Flow → Shared → Prop} {vf : Int → Int} {n0 n2 n3 : Str} (F₀ : Fr h₀ L s.heap m) (hLe : env.locals = L) (_hS : SpecC y vf)
    (hsw : swapsWith (.ListComp elt [⟨.Name x px, iter, [], 0⟩] scope pos) (some (.Name y py)) spos.line env = pure true)
    (hclos : closureFor scope env = pure cl) (hns : scope.names = [(n0, .local), (x, .cell), (n2, .globalImplicit), (n3, .globalImplicit)]) (hx0 : (x == n0) = false) (hkind : scope.kind = .function)
    (hnames : ∀ z ∈ scope.names, z.2 = .local → scope.names.lookup z.1 = some .local)
    (hy : env.kindOf y = some .local) (hp : (env.scope.kind == .class || (env.scope.kind == .module && env.locals != env.globals)) = false)
    (h : wpAny (model prog w) A (eval iter env) (SrcC prog w A h₀ L m env elt x scope cl vf (fun _ s' => Q .next s') fun D z => if z = y then some (.ref D) else m z) E s)
    (hs : ∀ x, foldedSetIterable iter env x = pure x := by intro _; rfl) :
    wpAny (model prog w) A (exec (.Assign [.Name y py] (.ListComp elt [⟨.Name x px, iter, [], 0⟩] scope pos) spos) env) Q E s := by
  subst hLe
  rw [exec_Assign_Name_used _ _ _ _ hsw]
  refine wpAny_bind (wpAny_standAt (wpAny_bind ?_))
  show wpAny _ A (do let _ ← comprehension (.ListComp elt [⟨.Name x px, iter, [], 0⟩] scope pos) scope env _ (newList []) false (eval iter env) (some (assign (.Name y py) env))) _ _ s
  refine wpAny_bind (wpAny_mono (wpAny_comprehension_free (use := some (assign (.Name y py) env)) (Q := fun _ s' => Q .next s') rfl hs hclos hkind hnames
    (wpAny_mono h (fun xv s₁ h₁ => ?_) fun _ _ e => e)) (fun _ s' hq => wpAny_pure (wpAny_pure hq)) fun _ _ e => e)
  obtain ⟨ax, vs, ns, na, news, rfl, hh, F, N, hm, hi, hsz, hE, hF⟩ := h₁
  have hl : s₁.heap.IsList ax vs.toArray := ⟨_, (N _ hm).1, rfl, na, rfl⟩
  refine wpAny_pyIter_list hl ?_
  have up : ∀ b o, s₁.heap.get? b = some o → (s₁.heap.push { cls := .type "list_iterator", data := .fields #[.ref ax, .int 0 0] }).get? b = some o := fun b o e => Heap.get?_push_of_some _ e
  refine block_C (vf := vf) (ns := ns) (its := vs.toArray) hh (by simpa using hi) hsz hns hx0 hkind ⟨_, Heap.get?_push_size _ rfl, rfl, rfl⟩ hm ⟨rfl, rfl⟩ (by show s₁.heap.objs.size < (s₁.heap.push _).objs.size; rw [Heap.size_push]; exact Nat.lt_succ_self _)
    (F.keeps up) (N.grown up) (Nat.ne_of_lt F.ns.lt) (next_is_new F) (fun p hp => Nat.ne_of_lt (Heap.lt_size (N p hp).1)) (hE _) ?_
  intro D C h' tk m' ys F' N' o1 hn hC₀ hD₀ hCL hDL hCD offC hi
  show wpAny _ A (assign (.Name y py) env (.ref D)) _ _ _
  refine wpAny_assign_Name (wpAny_storeName_local hy F'.ns (fun h₂ hn₂ hs₂ => ?_) hp)
  have hL₀ : h₀.get? env.locals = none := Heap.get?_none_of_le F'.above
  have F₂ : Fr h₀ env.locals h₂ (fun z => if z = y then some (.ref D) else m z) := ⟨hn₂, fun b o e => hs₂.extBut b o (fun q => by rw [q, hL₀] at e; cases e) (F'.keep b o e), F'.above⟩
  refine ⟨m', hn.sameBut hs₂ hCL, fun h'' hs'' => hF D ys h'' _ (F₂.change hs'' hCL hC₀) (fun p hp => ?_) o1 hi⟩
  have z : h₂.get? p.1 = some p.2 := hs₂.extBut _ _ (N' p hp).2.1 (N' p hp).1
  refine ⟨hs''.extBut _ _ ?_ z, (N' p hp).2⟩
  rcases List.mem_cons.mp hp with rfl | hp
  · exact Ne.symm hCD
  · exact offC p hp
end
end
end
section
section
variable {prog : Program} {w : World} {A : Around} {E : Value → Shared → Prop} {s : Shared} {a k : Int} {t u : Tok} {Q : Value → Shared → Prop}
theorem pows_ne {k : Int} (h0 : 0 ≤ k) (h : k < 16) : pows.getD k.toNat 0 ≠ 0 := by
  have : ∀ j : Nat, j < 16 → pows.getD j 0 ≠ 0 := by decide
  exact this k.toNat (by omega)
theorem pows_small {k : Int} : -9 < pows.getD k.toNat 0 ∧ pows.getD k.toNat 0 < 9 := by
  have h16 : ∀ j : Nat, j < 16 → -9 < pows.getD j 0 ∧ pows.getD j 0 < 9 := by decide
  by_cases h : k.toNat < 16
  · exact h16 _ h
  · have : pows.getD k.toNat 0 = 0 := by rw [List.getD_eq_getElem?_getD, List.getElem?_eq_none (by show 16 ≤ _; omega)]; rfl
    rw [this]; decide
theorem mod_pow {lo : Int} {n : Nat} (h0 : lo ≤ k) (h1 : k < lo + (n : Int)) (hd : decide (0 ≤ lo ∧ lo + (n : Int) ≤ 16) = true) (h : Q (.int (a.fmod (pows.getD k.toNat 0)) s.toks) { s with toks := s.toks + 1 }) : wpAny (model prog w) A (binaryOp .Mod (.int a t) (.int (pows.getD k.toNat 0) u)) Q E s :=
  have hd := of_decide_eq_true hd
  mod_int' (pows_ne (by omega) (by omega)) h
theorem div_pow {lo : Int} {n : Nat} (h0 : lo ≤ k) (h1 : k < lo + (n : Int)) (hd : decide (0 ≤ lo ∧ lo + (n : Int) ≤ 16) = true) (h : Q (.int (a.fdiv (pows.getD k.toNat 0)) s.toks) { s with toks := s.toks + 1 }) : wpAny (model prog w) A (binaryOp .FloorDiv (.int a t) (.int (pows.getD k.toNat 0) u)) Q E s :=
  have hd := of_decide_eq_true hd
  floordiv_int (pows_ne (by omega) (by omega)) h (Or.inl (PyProof.noPylong_small (by have := @pows_small k; omega)))
theorem bool_end {b : Bool} {P : Prop} (h : b = true ↔ P) [Decidable P] : b = decide P := by
  cases hb : b with
  | true => exact (decide_eq_true (h.mp hb)).symm
  | false => exact (decide_eq_false fun p => by rw [hb] at h; exact absurd (h.mpr p) Bool.false_ne_true).symm
end
theorem le_sixteen {k : Nat} {xs : List Int} (h : xs.length = 16) (hk : decide (k ≤ 16) = true) : k ≤ xs.length := by rw [h]; exact of_decide_eq_true hk
theorem ne_of_ne {a b : Nat} (h : @Ne Nat a b) : @Ne Nat b a := Ne.symm h
section
variable {prog : Program} {w : World} {A : Around} {E : Value → Shared → Prop} {s : Shared} {h₀ : Heap} {L l : Addr} {full : List (Addr × Obj)} {ys : List Value} {xs : List Int} {n : Nat} {a k : Int} {t u : Tok} {Q : Value → Shared → Prop}
theorem len_ints (N : News h₀ L s.heap full) (hm : (l, W.listOf ys.toArray n) ∈ full) (hi : IntsAre ys xs) (hb : xs.length ≤ 1000) (h : ∀ t tk, Q (.int xs.length t) { s with toks := tk }) : wpAny (model prog w) A (call (.builtin "len") [.ref l]) Q E s := by
  have hs : ys.toArray.size = xs.length := by rw [List.size_toArray, hi.length]
  refine PyProof.Rows.len_list (items := ys.toArray) ⟨_, (N _ hm).1, rfl, n, rfl⟩ (by rw [hs]; omega) ?_
  rw [hs]
  exact h _ _
theorem add_lists9 {m : Str → Option Value} {la lb : Addr} {zs : List Value} {ws : List Int} {n2 : Nat} (F : Fr h₀ L s.heap m) (N : News h₀ L s.heap full) (ha : (la, W.listOf ys.toArray n) ∈ full) (hb : (lb, W.listOf zs.toArray n2) ∈ full) (hi : IntsAre ys xs) (hj : IntsAre zs ws) (h1 : decide (xs.length ≤ 1000) = true) (h2 : ws.length ≤ 1000)
    (h : ∀ D us h', Fr h₀ L h' m → News h₀ L h' ((D, W.listOf (List.toArray us) 0) :: full) → (∀ p ∈ full, p.1 < D) → IntsAre us (xs ++ ws) → Q (.ref D) { s with heap := h' }) : wpAny (model prog w) A (binaryOp .Add (.ref la) (.ref lb)) Q E s := by
  have h1 := of_decide_eq_true h1
  exact kmk_add_ints F N ⟨_, (N _ ha).1, rfl, n, rfl⟩ ⟨_, (N _ hb).1, rfl, n2, rfl⟩ hi hj h (by have := sizeLine_eq; omega)
theorem filt_len {a : Int} {n : Nat} {c : Int → Bool} {f : Int → Int} (hn : decide (n ≤ 1000) = true) : (((rangeKs a n).filter c).map f).length ≤ 1000 := by
  have hn := of_decide_eq_true hn
  rw [List.length_map]
  have := List.length_filter_le c (rangeKs a n)
  rw [rangeKs_length] at this
  omega
theorem mod_two (h : Q (.int (a.fmod (2 ^ k.toNat)) s.toks) { s with toks := s.toks + 1 }) : wpAny (model prog w) A (binaryOp .Mod (.int a t) (.int (2 ^ k.toNat) u)) Q E s :=
  mod_int' (by have := kbt_pos k.toNat; omega) h
theorem pow2_up {lo : Int} {n : Nat} (h0 : lo ≤ k) (h1 : k < lo + (n : Int)) (hd : decide (0 ≤ lo ∧ lo + (n : Int) ≤ 1000) = true) (h : Q (.int (2 ^ k.toNat) s.toks) { s with toks := s.toks + 1 }) : wpAny (model prog w) A (binaryOp .Pow (.int 2 t) (.int k u)) Q E s :=
  have hd := of_decide_eq_true hd
  pow_int_small (by omega) (by omega) (by decide) h
end
def twoC (k : Int) : Int := ((((rangeKs 1 3).filter fun i => k.fmod (2 ^ i.toNat) == 0).map fun i => i).length : Nat)
theorem and_yes {p : Prop} [Decidable p] {b : Bool} (h : p) : b = (decide p && b) := by rw [decide_eq_true h]; rfl
theorem and_no {p : Prop} [Decidable p] {b : Bool} (h : ¬ p) : false = (decide p && b) := by rw [decide_eq_false h]; rfl
theorem and_yes' {a b : Bool} (h : a = true) : b = (a && b) := by rw [h]; rfl
theorem and_no' {a b : Bool} (h : a = false) : false = (a && b) := by rw [h]; rfl
theorem and5 {p : Prop} [Decidable p] {a b : Int} (h : p) (h2 : a = b) : true = (decide p && a == b) := by rw [decide_eq_true h, beq_iff_eq.mpr h2]; rfl
theorem and6 {p : Prop} [Decidable p] {a b : Int} (h : p) (h2 : a ≠ b) : false = (decide p && a == b) := by rw [decide_eq_true h, beq_eq_false_iff_ne.mpr h2]; rfl
theorem c_ctrl_chr (w : World) (x : Int) (t : Tok) : Ctr w 10 42 [.str ⟨#[(Int.fmod x 55296).toNat]⟩ t] [] (fun _ => True) (RStr ⟨#[(x % 32).toNat]⟩) := by
  have h1 : Int.fmod x 55296 = x % 55296 := Int.fmod_eq_emod_of_nonneg x (by decide)
  have h2 : ((x % 55296).toNat : Int) = x % 55296 := Int.toNat_of_nonneg (by omega)
  have := c_ctrl_str w (Int.fmod x 55296).toNat t
  rw [h1, h2, show x % 55296 % 32 = x % 32 by omega] at this
  rwa [h1]
theorem mul2_ok {a : Int} : IntMulOk 2 a := IntMulOk.of_left (by decide)
theorem sort_cs {prog : Program} {w : World} {A : Around} {E : Value → Shared → Prop} {s : Shared} {h₀ : Heap} {L l : Addr} {m : Str → Option Value} {full : List (Addr × Obj)} {ys : List Value} {cs : List Int} {n : Nat} {Q : Value → Shared → Prop}
    (F : Fr h₀ L s.heap m) (N : News h₀ L s.heap full) (hm : (l, W.listOf ys.toArray n) ∈ full) (hi : IntsAre ys cs) (hk : cs.length = 16)
    (h : ∀ D vs' ns' e h', Fr h₀ L h' m → News h₀ L h' ((D, W.listOf (List.toArray vs') e) :: full) → (∀ p ∈ full, p.1 < D) → IntsAre vs' ns' → ns'.Perm cs → ns'.Pairwise (· ≤ ·) → Q (.ref D) { s with heap := h' }) : wpAny (model prog w) A (call (.builtin "sorted") [.ref l]) Q E s := by
  have hl : ys.length = 16 := by rw [hi.length, hk]
  refine sorted_N F N ⟨_, (N _ hm).1, rfl, n, rfl⟩ hi (by omega) fun h' vs' ns' e F' N' hI' hp hs => ?_
  exact h _ vs' ns' e h' F' N' (fun p hp => Nat.lt_succ_of_lt (Heap.lt_size (N p hp).1)) hI' hp hs
/-- what stands around a call of law -/
abbrev lawTop (dp un : Nat) (gd : Option (List Code)) (fr : List Env) : Around := { handled := none, depth := dp, frames := some fr, guards := gd, units := un }
theorem Fr_two {g h : Heap} {L : Addr} {m : Str → Option Value} {x y : Str} {v u : Option Value} (F : Fr g L h m) (hx : m x = v) (hy : m y = u) : Fr g L h (fun z => if z = x then v else if z = y then u else m z) := by
  have e : (fun z => if z = x then v else if z = y then u else m z) = m := by
    funext z
    by_cases h1 : z = x
    · rw [if_pos h1, h1, hx]
    · by_cases h2 : z = y
      · rw [if_neg h1, if_pos h2, h2, hy]
      · rw [if_neg h1, if_neg h2]
  rw [e]; exact F
theorem ends_true {R : Result → Shared → Prop} {g h' : Heap} {L : Addr} {m' : Str → Option Value} {b : Bool} {gens : Array GenState} {drawn : Drawn} {tk' : Nat} {os : OsState} (hQ : ∀ h' tk' m', Fr g L h' m' → R (.ok (.ret (.bool true))) ⟨h', gens, drawn, tk', os⟩) (F : Fr g L h' m') (hb : b = true) :
    CEnd R (.bool b) ⟨h', gens, drawn, tk', os⟩ := by rw [hb]; exact hQ h' tk' m' F
section
variable {n a b c d : Int} {sg : Bool}
theorem beq_beq {x y u v : Int} (h : x = y ↔ u = v) : ((x == y) == (u == v)) = true := by
  rw [beq_iff_eq]
  apply Bool.eq_iff_iff.mpr
  rw [beq_iff_eq, beq_iff_eq]
  exact h
theorem w_end4 (hf : sg = true → (n = 16 ↔ (a = 1 ∧ b = 1 ∧ c = 0 ∧ d = 0))) (ha : a = 1) (hb : b = 1) (hc : c = 0) (hs : sg = true) : ((n == 16) == (d == 0)) = true :=
  beq_beq ⟨fun h => ((hf hs).mp h).2.2.2, fun h => (hf hs).mpr ⟨ha, hb, hc, h⟩⟩
theorem w_end3 (hf : sg = true → (n = 16 ↔ (a = 1 ∧ b = 1 ∧ c = 0 ∧ d = 0))) (hc : c ≠ 0) (hs : sg = true) : ((n == 16) == (c == 0)) = true :=
  beq_beq ⟨fun h => ((hf hs).mp h).2.2.1, fun h => absurd h hc⟩
theorem w_end2 (hf : sg = true → (n = 16 ↔ (a = 1 ∧ b = 1 ∧ c = 0 ∧ d = 0))) (hb : b ≠ 1) (hs : sg = true) : ((n == 16) == (b == 1)) = true :=
  beq_beq ⟨fun h => ((hf hs).mp h).2.1, fun h => absurd h hb⟩
theorem w_end1 (hf : sg = true → (n = 16 ↔ (a = 1 ∧ b = 1 ∧ c = 0 ∧ d = 0))) (ha : a ≠ 1) (hs : sg = true) : ((n == 16) == (a == 1)) = true :=
  beq_beq ⟨fun h => ((hf hs).mp h).1, fun h => absurd h ha⟩
theorem w_end0 (hs : sg = false) : (!sg) = true := by rw [hs]; rfl
end
section
variable {l : List (Addr × Obj)} {p : Addr × Obj} {a d : Addr} {o : Obj}
theorem of_mem (h : List.Mem p l) : p ∈ l := h
theorem cell_ne (k : Nat) {a : Nat} : @Ne Nat a (a + (k + 1)) := Nat.ne_of_lt (Nat.lt_add_of_pos_right (Nat.succ_pos k))
theorem raw1 {D : Addr} : ∀ {l : List (Addr × Obj)}, PyProof.Rows.LCg.Off1 D l → ∀ p ∈ l, p.1 ≠ D
  | [], _, _, h => nomatch h
  | _ :: _, x, p, h => by
    rcases List.mem_cons.mp h with rfl | h
    · exact x.1
    · exact raw1 x.2 p h
theorem off_tail {q : Addr × Obj} (h : ∀ p ∈ q :: l, p.1 ≠ d) : ∀ p ∈ l, p.1 ≠ d := fun p hp => h p (.tail _ hp)
theorem news_rot {g h : Heap} {L : Addr} {a b c d : Addr × Obj} {r : List (Addr × Obj)} (N : News g L h (a :: b :: c :: d :: r)) : News g L h (b :: c :: d :: a :: r) := fun p hp => by
  refine N p ?_
  simp only [List.mem_cons] at hp ⊢
  rcases hp with h | h | h | h | h
  · exact .inr (.inl h)
  · exact .inr (.inr (.inl h))
  · exact .inr (.inr (.inr (.inl h)))
  · exact .inl h
  · exact .inr (.inr (.inr (.inr h)))
theorem news_par {g h : Heap} {L : Addr} {a b c d e f : Addr × Obj} {r : List (Addr × Obj)} (N : News g L h (d :: e :: f :: a :: b :: c :: r)) : News g L h (a :: c :: d :: b :: r) := fun p hp => by
  refine N p ?_
  simp only [List.mem_cons] at hp ⊢
  rcases hp with h | h | h | h | h
  · exact .inr (.inr (.inr (.inl h)))
  · exact .inr (.inr (.inr (.inr (.inr (.inl h)))))
  · exact .inl h
  · exact .inr (.inr (.inr (.inr (.inl h))))
  · exact .inr (.inr (.inr (.inr (.inr (.inr h)))))
end
end
section
def atF (cs : List Int) : Nat → Int
  | 0 => 0
  | n + 1 => (cs.getD (atF cs n).toNat 0).fdiv 2
abbrev KZ (row : List Int) : List Int := (rangeKs 0 16).map fun k' => if k'.fmod 2 = 0 then 2 * row.getD k'.toNat 0 % 32 else (((2 * row.getD k'.toNat 0 % 32).toNat : Nat) : Int)
abbrev EV : List Int := (rangeKs 0 16).map fun k => 2 * k
abbrev SL (ps : List Int) : List Int := ((rangeKs 2 7).filter fun k => (ps.getD k.toNat 0).fmod 2 == 1).map fun k => k
abbrev WH (ws ps : List Int) : Prop := ((ws.getD (Int.toNat 0) 0).fmod 2 = 1 ∧ (ws.getD (Int.toNat 1) 0).fmod 4 = 1 ∧ (ps.getD (Int.toNat 3) 0).fmod 4 = 0 ∧ (ps.getD (Int.toNat 7) 0).fmod 4 = 0)
abbrev PS (ws : List Int) : List Int := (rangeKs 0 9).map fun k => (ws.getD k.toNat 0).fdiv (pows.getD k.toNat 0)
abbrev NoF (ws : List Int) : Prop := ∀ k : Int, 1 ≤ k → k < 9 → (ws.getD k.toNat 0).fmod (pows.getD k.toNat 0) = 0
theorem ring0 {x : Int} (h : x ≠ 1) {P : Prop} : (x == 1) = true → P := fun h9 => absurd (eq_of_beq h9) h
section
/-- the sum of products, to the shorter list's end -/
def dot : List Int → List Int → Int
  | c :: cs, x :: xs => c * x + dot cs xs
  | _, _ => 0
theorem dot_nil (p : List Int) : dot p [] = 0 := by cases p <;> rfl
theorem dot_add : ∀ {v p q : List Int}, v.length ≤ p.length → v.length ≤ q.length → dot (List.zipWith (· + ·) p q) v = dot p v + dot q v
  | [], p, q, _, _ => by rw [dot_nil, dot_nil, dot_nil]; rfl
  | x :: v, a :: p, b :: q, hp, hq => by
    show (a + b) * x + dot (List.zipWith (· + ·) p q) v = a * x + dot p v + (b * x + dot q v)
    rw [dot_add (Nat.le_of_succ_le_succ hp) (Nat.le_of_succ_le_succ hq), Int.add_mul]
    omega
theorem dot_neg : ∀ (p v : List Int), dot (p.map fun c => -c) v = -dot p v
  | [], _ => rfl
  | _ :: _, [] => rfl
  | a :: p, x :: v => by
    show -a * x + dot (p.map fun c => -c) v = -(a * x + dot p v)
    rw [dot_neg p v, Int.neg_mul]
    omega
theorem dot_scale : ∀ (c p v : List Int), dot c (List.zipWith (· * ·) p v) = dot (List.zipWith (· * ·) c p) v
  | [], p, v => by cases p <;> rfl
  | _ :: _, [], v => rfl
  | _ :: _, _ :: _, [] => rfl
  | a :: c, b :: p, x :: v => by
    show a * (b * x) + dot c (List.zipWith (· * ·) p v) = a * b * x + dot (List.zipWith (· * ·) c p) v
    rw [dot_scale c p v, Int.mul_assoc]
theorem dot_smul (M : Int) : ∀ p v : List Int, dot (p.map fun c => M * c) v = M * dot p v
  | [], _ => (Int.mul_zero M).symm
  | _ :: _, [] => (Int.mul_zero M).symm
  | a :: p, x :: v => by
    show M * a * x + dot (p.map fun c => M * c) v = M * (a * x + dot p v)
    rw [dot_smul M p v, Int.mul_add, Int.mul_assoc]
theorem dot_mod (M : Int) : ∀ p v : List Int, dot p v % M = dot (p.map fun c => c % M) v % M
  | [], _ => rfl
  | _ :: _, [] => rfl
  | a :: p, x :: v => by
    show (a * x + dot p v) % M = (a % M * x + dot (p.map fun c => c % M) v) % M
    rw [Int.add_emod, dot_mod M p v, Int.mul_emod, Int.add_emod (a % M * x), Int.mul_emod (a % M) x, Int.emod_emod]
theorem dot_modr (M : Int) : ∀ p v : List Int, dot p v % M = dot p (v.map fun x => x % M) % M
  | [], _ => rfl
  | _ :: _, [] => rfl
  | a :: p, x :: v => by
    show (a * x + dot p v) % M = (a * (x % M) + dot p (v.map fun x => x % M)) % M
    rw [Int.add_emod, dot_modr M p v, Int.mul_emod, Int.add_emod (a * (x % M)), Int.mul_emod a (x % M), Int.emod_emod]
/-- a sum over those that a test lets pass, as a sum of products -/
theorem dot_filter (P : Int → Bool) (f : Int → Int) : ∀ l : List Int, ((l.filter P).map f).sum = dot (l.map fun k => if P k then 1 else 0) (l.map f)
  | [] => rfl
  | a :: l => by
    show _ = (if P a = true then (1 : Int) else 0) * f a + dot (l.map fun k => if P k then 1 else 0) (l.map f)
    rw [← dot_filter P f l, List.filter_cons]
    cases h : P a with
    | true => simp
    | false => simp
/-- Pascal's row, nine places wide -/
def pas : Nat → List Int
  | 0 => [1, 0, 0, 0, 0, 0, 0, 0, 0]
  | n + 1 => List.zipWith (· + ·) (pas n) (0 :: pas n)
theorem pas_length : ∀ n, (pas n).length = 9
  | 0 => rfl
  | n + 1 => by simp [pas, pas_length n]
theorem stepW_get {xs : List Int} (h : xs.length = 9) (k : Nat) : (stepW xs).getD k 0 = xs.getD k 0 + xs.getD (k + 1) 0 := by
  match xs, h with
  | [_, _, _, _, _, _, _, _, b8], _ =>
    match k with
    | 0 => rfl | 1 => rfl | 2 => rfl | 3 => rfl | 4 => rfl | 5 => rfl | 6 => rfl | 7 => rfl
    | 8 => exact (Int.add_zero b8).symm
    | k + 9 => rfl
theorem turnW_length {ws : List Int} (h : ws.length = 9) : ∀ n, (turnW n ws).length = 9
  | 0 => h
  | _ + 1 => stepW_length _
theorem dot_shift (p v : List Int) : dot (0 :: p) v = dot p v.tail := by
  cases v with
  | nil => rw [dot_nil]; exact (dot_nil p).symm
  | cons x v => show 0 * x + dot p v = dot p v; omega
theorem dot_one : ∀ v : List Int, dot [1, 0, 0, 0, 0, 0, 0, 0, 0] v = v.getD 0 0
  | [] => rfl
  | x :: v => by
    have h : ∀ (p v : List Int), (∀ c ∈ p, c = 0) → dot p v = 0 := by
      intro p
      induction p with
      | nil => intro _ _; rfl
      | cons c p ih =>
        intro v hc
        cases v with
        | nil => rfl
        | cons y v =>
          show c * y + dot p v = 0
          rw [hc c (.head _), ih v fun d hd => hc d (.tail _ hd)]; omega
    show 1 * x + dot [0, 0, 0, 0, 0, 0, 0, 0] v = x
    rw [h _ v (by decide)]; omega
theorem turn_dot {ws : List Int} (h : ws.length = 9) : ∀ n k, (turnW n ws).getD k 0 = dot (pas n) (ws.drop k)
  | 0, k => by
    rw [show pas 0 = [1, 0, 0, 0, 0, 0, 0, 0, 0] from rfl, dot_one]
    simp [turnW]
  | n + 1, k => by
    have hl : (ws.drop k).length ≤ 9 := by rw [List.length_drop, h]; omega
    show (stepW (turnW n ws)).getD k 0 = dot (List.zipWith (· + ·) (pas n) (0 :: pas n)) (ws.drop k)
    rw [stepW_get (turnW_length h n), turn_dot h n k, turn_dot h n (k + 1), dot_add (by rw [pas_length]; exact hl) (by rw [List.length_cons, pas_length]; omega), dot_shift, List.tail_drop]
theorem row_dot {ws : List Int} (h : ws.length = 9) {y : Nat} (hy : y < 16) : (rowOf ws).getD y 0 = dot (pas y) ws := by
  have e : (rowOf ws).getD y 0 = (turnW y ws).getD 0 0 := by
    simp [rowOf, List.getD, hy]
  rw [e, turn_dot h y 0, List.drop_zero]
/-- the place of a number's greatest power; the number without it -/
def pl (y : Nat) : Nat := [0, 0, 1, 1, 2, 2, 2, 2, 3, 3, 3, 3, 3, 3, 3, 3].getD y 0
def lowN (y : Nat) : Nat := y - 2 ^ pl y
def dif (y : Nat) : List Int := List.zipWith (· + ·) (pas y) ((pas (lowN y)).map fun c => -c)
theorem row_dif {ws : List Int} (h : ws.length = 9) {y : Nat} (hy : y < 16) : (rowOf ws).getD y 0 - (rowOf ws).getD (lowN y) 0 = dot (dif y) ws := by
  rw [row_dot h hy, row_dot h (y := lowN y) (Nat.lt_of_le_of_lt (Nat.sub_le _ _) hy), dif, dot_add (by rw [pas_length, h]; exact Nat.le_refl _) (by rw [List.length_map, pas_length, h]; exact Nat.le_refl _), dot_neg]
  omega
end
section
theorem lab_red (c : Int) : lab c = lab (((c % 256).toNat : Nat) : Int) := by
  have h : (((c % 256).toNat : Nat) : Int) = c % 256 := Int.toNat_of_nonneg (Int.emod_nonneg _ (by decide))
  rw [h]
  unfold lab
  rw [Int.emod_emod, Int.emod_emod_of_dvd c (show (128 : Int) ∣ 256 by decide)]
theorem lab_fin : ∀ i j : Fin 16, lab (((16 * i.val + 1 : Nat) : Nat) : Int) = lab (((16 * j.val + 1 : Nat) : Nat) : Int) → i = j := by decide +kernel
theorem lab_inj {c d : Int} (hc : c % 16 = 1) (hd : d % 16 = 1) : lab c = lab d ↔ c % 256 = d % 256 := by
  constructor
  · intro h
    rw [lab_red c, lab_red d] at h
    have e : ∀ x : Int, x % 16 = 1 → (x % 256).toNat = 16 * ((x % 256).toNat / 16) + 1 ∧ (x % 256).toNat / 16 < 16 := fun x hx => by omega
    have := congrArg Fin.val (lab_fin ⟨(c % 256).toNat / 16, (e c hc).2⟩ ⟨(d % 256).toNat / 16, (e d hd).2⟩ (by
      show lab (((16 * ((c % 256).toNat / 16) + 1 : Nat) : Nat) : Int) = lab (((16 * ((d % 256).toNat / 16) + 1 : Nat) : Nat) : Int)
      rw [← (e c hc).1, ← (e d hd).1]; exact h))
    have h2 : (c % 256).toNat = (d % 256).toNat := by
      rw [(e c hc).1, (e d hd).1]
      exact congrArg (fun k => 16 * k + 1) this
    have := congrArg (fun k : Nat => (k : Int)) h2
    rwa [Int.toNat_of_nonneg (Int.emod_nonneg _ (by decide)), Int.toNat_of_nonneg (Int.emod_nonneg _ (by decide))] at this
  · intro h
    rw [lab_red c, lab_red d, h]
theorem lab_code {n m : Int} (k : Nat) (_h1 : 1 ≤ k) (h4 : k ≤ 4) : lab (code n k) = lab (code m k) ↔ (m - n) % 2 ^ k = 0 := by
  rw [lab_inj (code_mod (Int.natCast_nonneg k) (Int.ofNat_le.mpr h4)) (code_mod (Int.natCast_nonneg k) (Int.ofNat_le.mpr h4)), eq_comm]
  have hc : (256 : Int) = 2 ^ (8 - (k : Int)).toNat * 2 ^ k := by
    rw [← Int.pow_add, show (8 - (k : Int)).toNat + k = 8 by omega]; rfl
  have hp : (0 : Int) < 2 ^ (8 - (k : Int)).toNat := Int.pow_pos (by decide)
  rw [Int.emod_eq_emod_iff_emod_sub_eq_zero]
  unfold code
  rw [show ∀ c : Int, 33 + m * c - (33 + n * c) = c * (m - n) from fun c => by rw [Int.add_sub_add_left, ← Int.sub_mul, Int.mul_comm], hc, Int.mul_emod_mul_of_pos _ _ hp, Int.mul_eq_zero]
  exact ⟨fun h => h.resolve_left (Int.ne_of_gt hp), Or.inr⟩
theorem pow_dvd (D : Int) {j s : Nat} (h : j ≤ s) (hs : D % 2 ^ s = 0) : D % 2 ^ j = 0 :=
  Int.emod_eq_zero_of_dvd (Int.dvd_trans ⟨2 ^ (s - j), by rw [← Int.pow_add, Nat.add_sub_cancel' h]⟩ (Int.dvd_of_emod_eq_zero hs))
theorem rangeKs_succ (a : Int) (n : Nat) : rangeKs a (n + 1) = rangeKs a n ++ [a + (n : Int)] := by
  simp [rangeKs, List.range_succ]
theorem labs_at {n m : Int} : ∀ s : Nat, s ≤ 4 → ((rangeKs 1 s).map (fun k => lab (code n k)) = (rangeKs 1 s).map (fun k => lab (code m k)) ↔ (m - n) % 2 ^ s = 0)
  | 0, _ => by simp [rangeKs, Int.emod_one]
  | s + 1, h => by
    have hc : lab (code n (1 + (s : Int))) = lab (code m (1 + (s : Int))) ↔ (m - n) % 2 ^ (s + 1) = 0 := by
      rw [show (1 + (s : Int)) = ((s + 1 : Nat) : Int) by rw [Int.natCast_add, Int.add_comm]; rfl]
      exact lab_code (s + 1) (Nat.le_add_left 1 s) h
    rw [rangeKs_succ, List.map_append, List.map_append]
    constructor
    · intro e
      exact hc.mp (List.head_eq_of_cons_eq (List.append_inj' e rfl).2)
    · intro e
      rw [(labs_at s (Nat.le_of_succ_le h)).mpr (pow_dvd _ (Nat.le_succ s) e)]
      exact congrArg (fun x => _ ++ [x]) (hc.mpr e)
/-- how many of the first s powers of two divide D -/
def cnt (D : Int) : Nat → Int
  | 0 => 0
  | s + 1 => cnt D s + if D % 2 ^ (s + 1) = 0 then 1 else 0
theorem cnt_sum (D : Int) (f : Int → Int) : ∀ s : Nat, (∀ j : Nat, 1 ≤ j → j ≤ s → f (j : Int) = if D % 2 ^ j = 0 then 1 else 0) → ((rangeKs 1 s).map f).sum = cnt D s
  | 0, _ => rfl
  | s + 1, h => by
    rw [rangeKs_succ, List.map_append, List.sum_append, cnt_sum D f s fun j h1 h2 => h j h1 (Nat.le_succ_of_le h2)]
    have := h (s + 1) (Nat.le_add_left 1 s) (Nat.le_refl _)
    rw [Int.natCast_add, Int.add_comm] at this
    show cnt D s + (f (1 + (s : Int)) + 0) = cnt D s + _
    rw [Int.add_zero]
    exact congrArg (fun x => cnt D s + x) this
theorem dsum_cnt (n m : Int) {s : Nat} (h : s ≤ 4) : dsum (labs n (s : Int)) (labs m (s : Int)) = cnt (m - n) s := by
  unfold dsum
  rw [labs_length]
  refine cnt_sum _ _ s fun j _ h2 => ?_
  unfold hits labs
  rw [← List.map_take, ← List.map_take, show (rangeKs 1 ((s : Int)).toNat).take ((j : Int)).toNat = rangeKs 1 j by
    show (((List.range s).map fun (i : Nat) => (1 : Int) + (i : Int)).take j) = _
    rw [← List.map_take, List.take_range, Nat.min_eq_left h2]; rfl]
  by_cases hd : (m - n) % 2 ^ j = 0
  · rw [if_pos hd, if_pos ((labs_at j (Nat.le_trans h2 h)).mpr hd)]
  · rw [if_neg hd, if_neg fun e => hd ((labs_at j (Nat.le_trans h2 h)).mp e)]
theorem cnt_full {D : Int} : ∀ {s : Nat}, D % 2 ^ s = 0 → cnt D s = s
  | 0, _ => rfl
  | s + 1, h => by
    show cnt D s + (if D % 2 ^ (s + 1) = 0 then 1 else 0) = _
    rw [cnt_full (pow_dvd D (Nat.le_succ s) h), if_pos h]; rfl
theorem cnt_stop {D : Int} {t : Nat} (h0 : D % 2 ^ t = 0) (h1 : D % 2 ^ (t + 1) ≠ 0) : ∀ k : Nat, cnt D (t + k) = t
  | 0 => cnt_full h0
  | k + 1 => by
    show cnt D (t + k) + (if D % 2 ^ (t + k + 1) = 0 then 1 else 0) = _
    rw [cnt_stop h0 h1 k, if_neg fun e => h1 (pow_dvd D (by omega) e), Int.add_zero]
theorem cnt_ge {D : Int} {e : Nat} (h0 : D % 2 ^ e = 0) : ∀ k : Nat, (e : Int) ≤ cnt D (e + k)
  | 0 => Int.le_of_eq (cnt_full h0).symm
  | k + 1 => by
    refine Int.le_trans (cnt_ge h0 k) ?_
    show cnt D (e + k) ≤ cnt D (e + k) + (if D % 2 ^ (e + k + 1) = 0 then 1 else 0)
    split <;> omega
/-- the depth, where the difference's rest is known -/
theorem cnt_met {D S : Int} {i : Nat} (h : D % 2 ^ (i + 1) = 2 ^ i * S % 2 ^ (i + 1)) : cnt D (i + 1) = i + 1 - S % 2 := by
  have hp : (0 : Int) < 2 ^ i := Int.pow_pos (by decide)
  rw [Int.pow_succ, Int.mul_emod_mul_of_pos _ _ hp, ← Int.pow_succ] at h
  rcases Int.emod_two_eq S with e | e
  · rw [e, Int.mul_zero] at h
    rw [cnt_full h, e]; rfl
  · rw [e, Int.mul_one] at h
    have h1 : D % 2 ^ (i + 1) ≠ 0 := by rw [h]; exact Int.ne_of_gt hp
    have h0 : D % 2 ^ i = 0 := by
      have : D % 2 ^ (i + 1) % 2 ^ i = D % 2 ^ i := Int.emod_emod_of_dvd D ⟨2, Int.pow_succ 2 i⟩
      rw [← this, h, Int.emod_self]
    rw [cnt_stop h0 h1 1, e]; omega
theorem pl_eq : ∀ y : Fin 16, plc.getD y.val 0 = (pl y.val : Int) ∧ pl y.val ≤ 3 ∧ (1 ≤ y.val → low (y.val : Int) = (lowN y.val : Int)) ∧ pows.getD y.val 0 = 2 ^ pl y.val := by decide +kernel
theorem depth_cnt (row : List Int) {y : Nat} (h0 : 1 ≤ y) (hy : y < 16) : depthF row (y : Int) = cnt (row.getD y 0 - row.getD (lowN y) 0) (pl y + 1) := by
  obtain ⟨h1, h2, h3, _⟩ := pl_eq ⟨y, hy⟩
  unfold depthF
  rw [h3 h0, Int.toNat_natCast, Int.toNat_natCast, h1]
  exact dsum_cnt _ _ (s := pl y + 1) (Nat.succ_le_succ h2)
end
section
def pw9 : List Int := [1, 1, 2, 2, 4, 4, 4, 4, 8]
theorem pw9_at : ∀ i : Fin 9, pw9[i.val]? = some (pows.getD i.val 0) := by decide
theorem ps_length {ws : List Int} : (PS ws).length = 9 := by rw [List.length_map, rangeKs_length]
theorem ps_at {ws : List Int} {i : Nat} (hi : i < 9) : (PS ws)[i]? = some ((ws.getD i 0).fdiv (pows.getD i 0)) := by
  simp [PS, rangeKs, hi]
theorem ws_ps {ws : List Int} (hws : ws.length = 9) (hnf : NoF ws) : ws = List.zipWith (· * ·) pw9 (PS ws) := by
  refine List.ext_getElem? fun i => ?_
  by_cases hi : i < 9
  · rw [List.getElem?_zipWith, pw9_at ⟨i, hi⟩, ps_at hi]
    have hg : ws[i]? = some (ws.getD i 0) := by
      rw [List.getElem?_eq_getElem (hws ▸ hi)]
      simp [hws, hi]
    rw [hg]
    refine congrArg some ?_
    have h0 : (ws.getD i 0).fmod (pows.getD i 0) = 0 := by
      by_cases h0 : i = 0
      · subst h0; exact Int.fmod_one _
      · have := hnf (i : Int) (by omega) (by omega)
        rwa [Int.toNat_natCast] at this
    have := Int.mul_fdiv_add_fmod (ws.getD i 0) (pows.getD i 0)
    rw [h0, Int.add_zero] at this
    exact this.symm
  · rw [List.getElem?_eq_none (by rw [hws]; omega), List.getElem?_eq_none (by rw [List.length_zipWith, ps_length]; exact Nat.le_trans (Nat.min_le_right _ _) (by omega))]
abbrev Pm (y : Int) : Int → Bool := fun k => decide (pows.getD k.toNat 0 ≤ pows.getD y.toNat 0) && (Builtin.bitAnd (k - pows.getD k.toNat 0) (y - pows.getD y.toNat 0) == k - pows.getD k.toNat 0)
def ind (y : Nat) : List Int := (rangeKs 1 8).map fun k => if Pm (y : Int) k then 1 else 0
/-- the parts that y meets, added up -/
def metS (ps : List Int) (y : Nat) : Int := dot (ind y) ps.tail
theorem met_sum {ps : List Int} (hl : ps.length = 9) (y : Nat) : (((rangeKs 1 8).filter (Pm (y : Int))).map (fun k => ps.getD k.toNat 0)).sum = metS ps y := by
  rw [dot_filter]
  unfold metS ind
  refine congrArg _ ?_
  match ps, hl with
  | [_, _, _, _, _, _, _, _, _], _ => rfl
theorem met_chk : ∀ y : Fin 16, 1 ≤ y.val → (List.zipWith (· * ·) (dif y.val) pw9).map (fun c => c % 2 ^ (pl y.val + 1)) = (0 :: ind y.val).map (fun c => 2 ^ pl y.val * c) := by decide +kernel
theorem row_met {ws : List Int} (hws : ws.length = 9) (hnf : NoF ws) {y : Nat} (h0 : 1 ≤ y) (hy : y < 16) : ((rowOf ws).getD y 0 - (rowOf ws).getD (lowN y) 0) % 2 ^ (pl y + 1) = 2 ^ pl y * metS (PS ws) y % 2 ^ (pl y + 1) := by
  have e : dot (dif y) ws = dot (List.zipWith (· * ·) (dif y) pw9) (PS ws) := (congrArg (dot (dif y)) (ws_ps hws hnf)).trans (dot_scale _ _ _)
  rw [row_dif hws hy, e, dot_mod, met_chk ⟨y, hy⟩ h0, dot_smul, dot_shift, metS]
theorem law_met {ws row ps ds : List Int} {y : Int} (hrw : row = rowOf ws) (hws : ws.length = 9) (hps : ps = PS ws) (hds : ds = 0 :: (rangeKs 1 15).map (depthF row)) (hnf : NoF ws) (h1 : 1 ≤ y) (h2 : y < 1 + ((15 : Nat) : Int)) :
    ds.getD y.toNat 0 = plc.getD y.toNat 0 + 1 - ((((rangeKs 1 8).filter (fun k => decide (pows.getD k.toNat 0 ≤ pows.getD y.toNat 0) && (Builtin.bitAnd (k - pows.getD k.toNat 0) (y - pows.getD y.toNat 0) == k - pows.getD k.toNat 0))).map (fun k => ps.getD k.toNat 0)).sum).fmod 2 := by
  obtain ⟨n, rfl⟩ : ∃ n : Nat, y = n := ⟨y.toNat, by omega⟩
  have hn : n < 16 := by omega
  have h1 : 1 ≤ n := by omega
  subst hps hrw
  rw [Int.fmod_eq_emod_of_nonneg _ (by decide), met_sum ps_length, Int.toNat_natCast, (pl_eq ⟨n, hn⟩).1, ← cnt_met (row_met hws hnf h1 hn), ← depth_cnt _ h1 hn, hds]
  obtain ⟨k, rfl⟩ : ∃ k, n = k + 1 := ⟨n - 1, by omega⟩
  have hk : k < 15 := by omega
  simp [rangeKs, List.getD, hk, Int.add_comm]
abbrev FL (ws : List Int) : List Int := ((rangeKs 1 8).filter fun k => (ws.getD k.toNat 0).fmod (pows.getD k.toNat 0) != 0).map fun k => ws.getD k.toNat 0
theorem law_nofault {ws : List Int} (h : decide (FL ws = []) = true) : NoF ws := by
  intro k h1 h2
  have h := List.filter_eq_nil_iff.mp (List.map_eq_nil_iff.mp (of_decide_eq_true h)) k (List.mem_map.mpr ⟨(k - 1).toNat, List.mem_range.mpr (by omega), by omega⟩)
  simpa using h
end
section
theorem dot_dvd {M : Int} : ∀ {c v : List Int}, (∀ j, M ∣ c.getD j 0 * v.getD j 0) → M ∣ dot c v
  | [], _, _ => Int.dvd_zero M
  | _ :: _, [], _ => Int.dvd_zero M
  | _ :: _, _ :: _, h => Int.dvd_add (h 0) (dot_dvd fun j => h (j + 1))
theorem dot_dvd_but {M : Int} : ∀ {c v : List Int} {k : Nat}, k < v.length → c.getD k 0 = 1 → (∀ j, j ≠ k → M ∣ c.getD j 0 * v.getD j 0) → M ∣ dot c v - v.getD k 0
  | [], _, _, _, h1, _ => absurd h1 (by decide : ¬ (0 : Int) = 1)
  | c :: cs, x :: v, 0, _, h1, h => by
    have h1 : c = 1 := h1
    show M ∣ c * x + dot cs v - x
    rw [h1, Int.one_mul, Int.add_comm, Int.add_sub_cancel]
    exact dot_dvd fun j => h (j + 1) (Nat.succ_ne_zero j)
  | c :: cs, x :: v, k + 1, hk, h1, h => by
    show M ∣ c * x + dot cs v - v.getD k 0
    rw [Int.add_sub_assoc]
    exact Int.dvd_add (h 0 (Nat.succ_ne_zero k).symm) (dot_dvd_but (Nat.lt_of_succ_lt_succ hk) h1 fun j hj => h (j + 1) fun e => hj (Nat.succ.inj e))
theorem val_ex {w : Int} : ∀ {p : Nat}, w % 2 ^ p ≠ 0 → ∃ t, t < p ∧ w % 2 ^ t = 0 ∧ w % 2 ^ (t + 1) ≠ 0
  | 0, h => absurd (Int.emod_one w) h
  | p + 1, h => by
    by_cases h0 : w % 2 ^ p = 0
    · exact ⟨p, Nat.lt_succ_self p, h0, h⟩
    · obtain ⟨t, a, b⟩ := val_ex h0
      exact ⟨t, Nat.lt_succ_of_lt a, b⟩
theorem len_filter (P : Int → Bool) : ∀ l : List Int, (((l.filter P).map fun i => i).length : Int) = (l.map fun k => if P k then 1 else 0).sum
  | [] => rfl
  | a :: l => by
    rw [List.map_cons, List.sum_cons, ← len_filter P l, List.filter_cons]
    cases P a with
    | true => simp [Int.add_comm]
    | false => simp
theorem twoC_cnt (w : Int) : twoC w = cnt w 3 := by
  unfold twoC
  rw [len_filter]
  refine cnt_sum w _ 3 fun j _ _ => ?_
  have hp : (0 : Int) ≤ 2 ^ j := Int.le_of_lt (Int.pow_pos (by decide))
  rw [Int.toNat_natCast, Int.fmod_eq_emod_of_nonneg _ hp]
  simp only [beq_iff_eq]
theorem two_at {w : Int} {t : Nat} (h3 : t < 3) (h0 : w % 2 ^ t = 0) (h1 : w % 2 ^ (t + 1) ≠ 0) : twoC w = t := by
  rw [twoC_cnt, ← Nat.add_sub_cancel' (Nat.le_of_lt h3)]
  exact cnt_stop h0 h1 _
theorem dif_low : ∀ (y : Fin 16) (t : Fin 4) (j : Fin 9), (dif y.val).getD j.val 0 * 2 ^ min t.val (pl j.val) % 2 ^ min t.val (pl y.val) = 0 := by decide +kernel
theorem dif_top : ∀ (k : Fin 9), 1 ≤ k.val → (dif k.val).getD k.val 0 = 1 ∧ ∀ j : Fin 9, k.val < j.val → (dif k.val).getD j.val 0 = 0 := by decide +kernel
theorem dif_but : ∀ (k : Fin 9) (t : Fin 3) (j : Fin 9), t.val < pl k.val → j.val < k.val → (dif k.val).getD j.val 0 * 2 ^ min (t.val + 1) (pl j.val) % 2 ^ (t.val + 1) = 0 := by decide +kernel
theorem dvd_scale {M c p x : Int} (h : c * p % M = 0) (hx : x % p = 0) : M ∣ c * x := by
  obtain ⟨u, rfl⟩ := Int.dvd_of_emod_eq_zero hx
  rw [← Int.mul_assoc]
  exact Int.dvd_trans (Int.dvd_of_emod_eq_zero h) (Int.dvd_mul_right _ _)
theorem far_zero {ws : List Int} (hws : ws.length = 9) {j : Nat} (hj : ¬ j < 9) : ws.getD j 0 = 0 := by
  simp [List.getD, List.getElem?_eq_none (show ws.length ≤ j by omega)]
theorem depth_ge {ws : List Int} (hws : ws.length = 9) {t : Nat} (h4 : t < 4) (hall : ∀ j, j < 9 → ws.getD j 0 % 2 ^ min t (pl j) = 0) {y : Nat} (hy0 : 1 ≤ y) (hy : y < 16) (hlt : depthF (rowOf ws) (y : Int) < pl y) : (t : Int) ≤ depthF (rowOf ws) (y : Int) := by
  rw [depth_cnt _ hy0 hy, row_dif hws hy] at hlt ⊢
  have hd : dot (dif y) ws % 2 ^ min t (pl y) = 0 := Int.emod_eq_zero_of_dvd (dot_dvd fun j => by
    by_cases hj : j < 9
    · exact dvd_scale (dif_low ⟨y, hy⟩ ⟨t, h4⟩ ⟨j, hj⟩) (hall j hj)
    · rw [far_zero hws hj, Int.mul_zero]; exact Int.dvd_zero _)
  have hle : min t (pl y) ≤ pl y + 1 := Nat.le_succ_of_le (Nat.min_le_right _ _)
  have := cnt_ge hd (pl y + 1 - min t (pl y))
  rw [Nat.add_sub_cancel' hle] at this
  omega
theorem depth_at {ws : List Int} (hws : ws.length = 9) {k t : Nat} (hk0 : 1 ≤ k) (hk : k < 9) (ht : t < pl k) (h3 : t < 3) (h0 : ws.getD k 0 % 2 ^ t = 0) (h1 : ws.getD k 0 % 2 ^ (t + 1) ≠ 0) (hlow : ∀ j, j < k → ws.getD j 0 % 2 ^ min (t + 1) (pl j) = 0) : depthF (rowOf ws) (k : Int) = t := by
  have hk16 : k < 16 := by omega
  rw [depth_cnt _ hk0 hk16, row_dif hws hk16]
  obtain ⟨hc, hz⟩ := dif_top ⟨k, hk⟩ hk0
  have hd : (2 : Int) ^ (t + 1) ∣ dot (dif k) ws - ws.getD k 0 := dot_dvd_but (hws ▸ hk) hc fun j hj => by
    by_cases hj9 : j < 9
    · by_cases hjk : j < k
      · exact dvd_scale (dif_but ⟨k, hk⟩ ⟨t, h3⟩ ⟨j, hj9⟩ ht hjk) (hlow j hjk)
      · rw [hz ⟨j, hj9⟩ (Nat.lt_of_le_of_ne (Nat.le_of_not_lt hjk) (Ne.symm hj)), Int.zero_mul]; exact Int.dvd_zero _
    · rw [far_zero hws hj9, Int.mul_zero]; exact Int.dvd_zero _
  have e1 : dot (dif k) ws % 2 ^ (t + 1) = ws.getD k 0 % 2 ^ (t + 1) := Int.emod_eq_emod_iff_emod_sub_eq_zero.mpr (Int.emod_eq_zero_of_dvd hd)
  have e0 : dot (dif k) ws % 2 ^ t = 0 := by
    have hdv : (2 : Int) ^ t ∣ 2 ^ (t + 1) := ⟨2, Int.pow_succ 2 t⟩
    rw [← Int.emod_emod_of_dvd _ hdv, e1, Int.emod_emod_of_dvd _ hdv, h0]
  have := cnt_stop e0 (by rw [e1]; exact h1) (pl k + 1 - t)
  rwa [Nat.add_sub_cancel' (by omega)] at this
theorem least_ex {P : Nat → Prop} {n : Nat} (h : P n) : ∃ k, P k ∧ ∀ j, j < k → ¬ P j := by
  induction n using Nat.strongRecOn with
  | _ n ih =>
    by_cases hx : ∃ j, j < n ∧ P j
    · obtain ⟨j, hj, hp⟩ := hx
      exact ih j hj hp
    · exact ⟨n, h, fun j hj hp => hx ⟨j, hj, hp⟩⟩
theorem fl_mem {ws : List Int} {k : Nat} (h1 : 1 ≤ k) (h9 : k < 9) (h : ws.getD k 0 % 2 ^ pl k ≠ 0) : ws.getD k 0 ∈ FL ws := by
  refine List.mem_map.mpr ⟨(k : Int), List.mem_filter.mpr ⟨List.mem_map.mpr ⟨k - 1, List.mem_range.mpr (by omega), by omega⟩, ?_⟩, by rw [Int.toNat_natCast]⟩
  rw [Int.toNat_natCast, (pl_eq ⟨k, by omega⟩).2.2.2, Int.fmod_eq_emod_of_nonneg _ (Int.le_of_lt (Int.pow_pos (by decide)))]
  exact bne_iff_ne.mpr h
theorem mem_fl {ws : List Int} {w : Int} (h : w ∈ FL ws) : ∃ k : Nat, 1 ≤ k ∧ k < 9 ∧ w = ws.getD k 0 ∧ ws.getD k 0 % 2 ^ pl k ≠ 0 := by
  obtain ⟨k, hk, rfl⟩ := List.mem_map.mp h
  obtain ⟨hm, hk⟩ := List.mem_filter.mp hk
  obtain ⟨i, hi, rfl⟩ := List.mem_map.mp hm
  have hi := List.mem_range.mp hi
  have e : (1 + (i : Int)).toNat = i + 1 := by omega
  rw [e] at hk ⊢
  refine ⟨i + 1, Nat.le_add_left 1 i, Nat.succ_lt_succ hi, rfl, ?_⟩
  rw [(pl_eq ⟨i + 1, by omega⟩).2.2.2, Int.fmod_eq_emod_of_nonneg _ (Int.le_of_lt (Int.pow_pos (by decide)))] at hk
  exact bne_iff_ne.mp hk
theorem ds_at {row : List Int} {k : Nat} (h0 : 1 ≤ k) (hk : k < 16) : (0 :: (rangeKs 1 15).map (depthF row)).getD k 0 = depthF row (k : Int) := by
  obtain ⟨k, rfl⟩ : ∃ j, k = j + 1 := ⟨k - 1, by omega⟩
  have hk : k < 15 := by omega
  simp [rangeKs, List.getD, hk, Int.add_comm]
theorem law_fault {ws row ds : List Int} {a b : Int} (hrw : row = rowOf ws) (hws : ws.length = 9) (hds : ds = 0 :: (rangeKs 1 15).map (depthF row)) (_hf : decide (FL ws = []) = false)
  (ha : a ∈ [4] ++ ((rangeKs 1 15).filter fun y => decide (ds.getD y.toNat 0 < plc.getD y.toNat 0)).map fun y => ds.getD y.toNat 0) (ha' : ∀ x ∈ [4] ++ ((rangeKs 1 15).filter fun y => decide (ds.getD y.toNat 0 < plc.getD y.toNat 0)).map fun y => ds.getD y.toNat 0, a ≤ x)
  (hb : b ∈ (FL ws).map twoC) (hb' : ∀ x ∈ (FL ws).map twoC, b ≤ x) : a = b := by
  subst hrw hds
  obtain ⟨w, hw, rfl⟩ := List.mem_map.mp hb
  obtain ⟨n, n1, n9, rfl, hn⟩ := mem_fl hw
  obtain ⟨t, ht, h0, h1⟩ := val_ex hn
  have h3 : ∀ k, k < 16 → pl k ≤ 3 := fun k hk => (pl_eq ⟨k, hk⟩).2.1
  have t3 : t < 3 := Nat.lt_of_lt_of_le ht (h3 n (by omega))
  have hb2 := two_at t3 h0 h1
  rw [hb2] at hb' ⊢
  have hmin : ∀ j, 1 ≤ j → j < 9 → ws.getD j 0 % 2 ^ pl j ≠ 0 → ws.getD j 0 % 2 ^ t = 0 := by
    intro j j1 j9 hj
    obtain ⟨u, hu, u0, u1⟩ := val_ex hj
    have := hb' _ (List.mem_map_of_mem (f := twoC) (fl_mem j1 j9 hj))
    rw [two_at (Nat.lt_of_lt_of_le hu (h3 j (by omega))) u0 u1] at this
    exact pow_dvd _ (Int.ofNat_le.mp this) u0
  have hall : ∀ j, j < 9 → ws.getD j 0 % 2 ^ min t (pl j) = 0 := by
    intro j j9
    by_cases hj : ws.getD j 0 % 2 ^ pl j = 0
    · exact pow_dvd _ (Nat.min_le_right _ _) hj
    · refine pow_dvd _ (Nat.min_le_left _ _) (hmin j ?_ j9 hj)
      refine Nat.pos_of_ne_zero fun e => hj ?_
      rw [e]; exact Int.emod_one _
  refine Int.le_antisymm ?_ ?_
  · obtain ⟨k, ⟨k1, k9, kf, kt⟩, hk⟩ := least_ex (P := fun k => 1 ≤ k ∧ k < 9 ∧ ws.getD k 0 % 2 ^ pl k ≠ 0 ∧ ws.getD k 0 % 2 ^ (t + 1) ≠ 0) ⟨n1, n9, hn, h1⟩
    have k0 := hmin k k1 k9 kf
    have htk : t < pl k := Nat.lt_of_not_le fun h => kf (pow_dvd _ h k0)
    have hd := depth_at hws k1 k9 htk t3 k0 kt fun j hj => by
      by_cases hj0 : ws.getD j 0 % 2 ^ pl j = 0
      · exact pow_dvd _ (Nat.min_le_right _ _) hj0
      · refine pow_dvd _ (Nat.min_le_left _ _) (Decidable.byContradiction fun q => hk j hj ⟨?_, by omega, hj0, q⟩)
        refine Nat.pos_of_ne_zero fun e => hj0 ?_
        rw [e]; exact Int.emod_one _
    have h16 : k < 16 := by omega
    refine ha' _ (List.mem_append_right _ (List.mem_map.mpr ⟨(k : Int), List.mem_filter.mpr ⟨List.mem_map.mpr ⟨k - 1, List.mem_range.mpr (by omega), by omega⟩, ?_⟩, ?_⟩))
    · rw [Int.toNat_natCast, ds_at k1 h16, hd, (pl_eq ⟨k, h16⟩).1]
      exact decide_eq_true (Int.ofNat_lt.mpr htk)
    · rw [Int.toNat_natCast, ds_at k1 h16, hd]
  · rcases List.mem_append.mp ha with ha | ha
    · rw [List.mem_singleton.mp ha]; omega
    · obtain ⟨y, hy, rfl⟩ := List.mem_map.mp ha
      obtain ⟨hm, hy⟩ := List.mem_filter.mp hy
      obtain ⟨i, hi, rfl⟩ := List.mem_map.mp hm
      have hi := List.mem_range.mp hi
      have e : (1 + (i : Int)).toNat = i + 1 := by omega
      have h16 : i + 1 < 16 := by omega
      rw [e, ds_at (Nat.le_add_left 1 i) h16] at hy ⊢
      refine depth_ge hws (by omega) hall (Nat.le_add_left 1 i) h16 ?_
      rw [← (pl_eq ⟨i + 1, h16⟩).1]
      exact of_decide_eq_true hy
end
section
/-- a row of whole numbers, told by its steps' rests -/
def Odd (r : Nat → Int) : Prop := ∀ y, 1 ≤ y → y < 16 → (r y - r (lowN y)) % 2 ^ (pl y + 1) = 2 ^ pl y
def Dist (r : Nat → Int) : Prop := ∀ u v, u < v → v < 16 → r u % 16 ≠ r v % 16
theorem lev : ∀ (i : Fin 4) (x : Fin 8), x.val < 2 ^ i.val → pl (x.val + 2 ^ i.val) = i.val ∧ lowN (x.val + 2 ^ i.val) = x.val ∧ 1 ≤ x.val + 2 ^ i.val ∧ x.val + 2 ^ i.val < 16 := by decide
theorem odd_lev {r : Nat → Int} (h : Odd r) {i x : Nat} (hi : i < 4) (hx : x < 2 ^ i) : (r (x + 2 ^ i) - r x) % 2 ^ (i + 1) = 2 ^ i := by
  have h8 : x < 8 := Nat.lt_of_lt_of_le hx (Nat.pow_le_pow_right (by decide) (Nat.le_of_lt_succ hi))
  obtain ⟨a, b, c, d⟩ := lev ⟨i, hi⟩ ⟨x, h8⟩ hx
  have := h _ c d
  rwa [a, b] at this
theorem lev_mod : ∀ (i : Fin 4) (u : Fin 16), u.val < 2 ^ (i.val + 1) → u.val % 2 ^ i.val = (if u.val < 2 ^ i.val then u.val else u.val - 2 ^ i.val) ∧ (¬ u.val < 2 ^ i.val → u.val - 2 ^ i.val < 2 ^ i.val ∧ u.val - 2 ^ i.val + 2 ^ i.val = u.val) := by decide
theorem mod_half {a b : Int} {i : Nat} (h : a % 2 ^ (i + 1) = b % 2 ^ (i + 1)) : a % 2 ^ i = b % 2 ^ i := by
  have hd : (2 : Int) ^ i ∣ 2 ^ (i + 1) := ⟨2, Int.pow_succ 2 i⟩
  rw [← Int.emod_emod_of_dvd a hd, h, Int.emod_emod_of_dvd b hd]
theorem sub_rest {a b : Int} {i : Nat} (h : (a - b) % 2 ^ (i + 1) = 2 ^ i) : a % 2 ^ i = b % 2 ^ i ∧ a % 2 ^ (i + 1) ≠ b % 2 ^ (i + 1) := by
  have hp : (0 : Int) < 2 ^ i := Int.pow_pos (by decide)
  constructor
  · refine Int.emod_eq_emod_iff_emod_sub_eq_zero.mpr ?_
    have hd : (2 : Int) ^ i ∣ 2 ^ (i + 1) := ⟨2, Int.pow_succ 2 i⟩
    rw [← Int.emod_emod_of_dvd _ hd, h, Int.emod_self]
  · intro e
    rw [Int.emod_eq_emod_iff_emod_sub_eq_zero.mp e] at h
    omega
/-- the levels, from the lowest up: values agree where places do -/
theorem odd_eq {r : Nat → Int} (h : Odd r) : ∀ i, i ≤ 4 → ∀ u v, u < 2 ^ i → v < 2 ^ i → r u % 2 ^ i = r v % 2 ^ i → u = v
  | 0, _, u, v, hu, hv, _ => by omega
  | i + 1, hi, u, v, hu, hv, e => by
    have h16 : ∀ x, x < 2 ^ (i + 1) → x < 16 := fun x hx => Nat.lt_of_lt_of_le hx (Nat.pow_le_pow_right (n := 2) (by decide) hi)
    have down : ∀ x, x < 2 ^ (i + 1) → ∃ x', x' < 2 ^ i ∧ r x % 2 ^ i = r x' % 2 ^ i ∧ ((x = x' ∧ x < 2 ^ i) ∨ (x = x' + 2 ^ i ∧ r x % 2 ^ (i + 1) ≠ r x' % 2 ^ (i + 1))) := by
      intro x hx
      by_cases hl : x < 2 ^ i
      · exact ⟨x, hl, rfl, .inl ⟨rfl, hl⟩⟩
      · obtain ⟨a, b⟩ := (lev_mod ⟨i, hi⟩ ⟨x, h16 x hx⟩ hx).2 hl
        have hb : x - 2 ^ i + 2 ^ i = x := b
        have := sub_rest (odd_lev h hi a)
        rw [hb] at this
        exact ⟨x - 2 ^ i, a, this.1, .inr ⟨hb.symm, this.2⟩⟩
    obtain ⟨u', hu', eu, cu⟩ := down u hu
    obtain ⟨v', hv', ev, cv⟩ := down v hv
    have hx := odd_eq h i (Nat.le_of_succ_le hi) u' v' hu' hv' (by rw [← eu, ← ev]; exact mod_half e)
    subst hx
    rcases cu with ⟨rfl, _⟩ | ⟨rfl, nu⟩ <;> rcases cv with ⟨rfl, _⟩ | ⟨rfl, nv⟩
    · rfl
    · exact absurd e.symm nv
    · exact absurd e nu
    · rfl
theorem dist_odd {r : Nat → Int} (h : Odd r) : Dist r := fun u v huv hv e => Nat.ne_of_lt huv (odd_eq h 4 (Nat.le_refl _) u v (Nat.lt_trans huv hv) hv e)
/-- from above down: where one rest is met, a place that goes with it is -/
theorem up_from {r : Nat → Int} : ∀ k j, j + k = 4 → (∀ i x, j ≤ i → i < 4 → x < 2 ^ i → (r (x + 2 ^ i) - r x) % 2 ^ (i + 1) = 2 ^ i) → ∀ (a : Int) z, z < 2 ^ j → a % 2 ^ j = r z % 2 ^ j → ∃ z', z' < 16 ∧ z' % 2 ^ j = z ∧ a % 16 = r z' % 16
  | 0, j, hj, _, a, z, hz, e => by
    have : j = 4 := hj
    subst this
    exact ⟨z, hz, Nat.mod_eq_of_lt hz, e⟩
  | k + 1, j, hj, h, a, z, hz, e => by
    have hj4 : j < 4 := by omega
    have hs := h j z (Nat.le_refl _) hj4 hz
    have hp : (0 : Int) < 2 ^ j := Int.pow_pos (by decide)
    have step : a % 2 ^ (j + 1) = r z % 2 ^ (j + 1) ∨ a % 2 ^ (j + 1) = r (z + 2 ^ j) % 2 ^ (j + 1) := by
      have e0 := Int.emod_eq_emod_iff_emod_sub_eq_zero.mp e
      rw [Int.emod_eq_emod_iff_emod_sub_eq_zero, Int.emod_eq_emod_iff_emod_sub_eq_zero]
      obtain ⟨c, hc⟩ := Int.dvd_of_emod_eq_zero e0
      have h2 : (a - r z) % 2 ^ (j + 1) = 2 ^ j * (c % 2) := by rw [hc, Int.pow_succ, Int.mul_emod_mul_of_pos _ _ hp]
      rcases Int.emod_two_eq c with q | q
      · left; rw [h2, q, Int.mul_zero]
      · right
        rw [q, Int.mul_one] at h2
        rw [show a - r (z + 2 ^ j) = (a - r z) - (r (z + 2 ^ j) - r z) by omega, Int.sub_emod, h2, hs, Int.sub_self, Int.zero_emod]
    have hpN : 2 ^ (j + 1) = 2 ^ j + 2 ^ j := by rw [Nat.pow_succ, Nat.mul_two]
    have fin : ∀ y, y < 2 ^ (j + 1) → y % 2 ^ j = z → a % 2 ^ (j + 1) = r y % 2 ^ (j + 1) → ∃ z', z' < 16 ∧ z' % 2 ^ j = z ∧ a % 16 = r z' % 16 := by
      intro y hy hyz ey
      obtain ⟨z', a1, a2, a3⟩ := up_from k (j + 1) (by omega) (fun i x h1 h2 h3 => h i x (Nat.le_of_succ_le h1) h2 h3) a y hy ey
      refine ⟨z', a1, ?_, a3⟩
      rw [← hyz, ← a2, Nat.mod_mod_of_dvd _ ⟨2, Nat.pow_succ 2 j⟩]
    rcases step with q | q
    · exact fin z (by omega) (Nat.mod_eq_of_lt hz) q
    · exact fin (z + 2 ^ j) (by omega) (by rw [Nat.add_mod_right, Nat.mod_eq_of_lt hz]) q
theorem odd_dist {r : Nat → Int} {S : Nat → Int} (hm : ∀ y, 1 ≤ y → y < 16 → (r y - r (lowN y)) % 2 ^ (pl y + 1) = 2 ^ pl y * (S y % 2)) (hd : Dist r) : ∀ k j, j + k = 4 → ∀ i x, j ≤ i → i < 4 → x < 2 ^ i → S (x + 2 ^ i) % 2 = 1 ∧ (r (x + 2 ^ i) - r x) % 2 ^ (i + 1) = 2 ^ i
  | 0, j, hj, i, _, h1, h2, _ => by omega
  | k + 1, j, hj, i, x, h1, h2, hx => by
    have ih := odd_dist hm hd k (j + 1) (by omega)
    by_cases hi : j + 1 ≤ i
    · exact ih i x hi h2 hx
    · obtain rfl : i = j := by omega
      have h8 : x < 8 := Nat.lt_of_lt_of_le hx (Nat.pow_le_pow_right (by decide) (Nat.le_of_lt_succ h2))
      obtain ⟨a, b, c, d⟩ := lev ⟨i, h2⟩ ⟨x, h8⟩ hx
      have hS := hm _ c d
      rw [a, b] at hS
      have hpN : 2 ^ (i + 1) = 2 ^ i + 2 ^ i := by rw [Nat.pow_succ, Nat.mul_two]
      have hp : 0 < 2 ^ i := Nat.pow_pos (by decide)
      rcases Int.emod_two_eq (S (x + 2 ^ i)) with q | q
      · rw [q, Int.mul_zero] at hS
        obtain ⟨z', z1, z2, z3⟩ := up_from k (i + 1) (by omega) (fun i' x' a1 a2 a3 => (ih i' x' a1 a2 a3).2) (r (x + 2 ^ i)) x (by omega) (Int.emod_eq_emod_iff_emod_sub_eq_zero.mpr hS)
        have hne : x + 2 ^ i ≠ z' := by
          intro e
          rw [← e, Nat.mod_eq_of_lt (by omega)] at z2
          omega
        rcases Nat.lt_or_gt_of_ne hne with l | l
        · exact absurd z3 (hd _ _ l z1)
        · exact absurd z3.symm (hd _ _ l d)
      · rw [q, Int.mul_one] at hS
        exact ⟨q, hS⟩
end
section
theorem kz_len {row : List Int} : (KZ row).length = 16 := by rw [List.length_map, rangeKs_length]
theorem kz_eq (row : List Int) : KZ row = (List.range 16).map fun j => 2 * (row.getD j 0 % 16) := by
  unfold KZ
  show List.map _ ((List.range 16).map fun (i : Nat) => (0 : Int) + (i : Int)) = _
  rw [List.map_map]
  refine List.map_congr_left fun j _ => ?_
  have e : ∀ x : Int, 2 * x % 32 = 2 * (x % 16) := fun x => Int.mul_emod_mul_of_pos x 16 (by decide)
  have hn : ∀ x : Int, 0 ≤ 2 * (x % 16) := fun x => Int.mul_nonneg (by decide) (Int.emod_nonneg _ (by decide))
  show (if ((0 : Int) + (j : Int)).fmod 2 = 0 then 2 * row.getD ((0 : Int) + (j : Int)).toNat 0 % 32 else (((2 * row.getD ((0 : Int) + (j : Int)).toNat 0 % 32).toNat : Nat) : Int)) = 2 * (row.getD j 0 % 16)
  rw [Int.zero_add, Int.toNat_natCast, e, Int.toNat_of_nonneg (hn _), ite_self]
theorem kz_get (row : List Int) {j : Nat} (hj : j < 16) : (KZ row).getD j 0 = 2 * (row.getD j 0 % 16) := by
  rw [kz_eq]
  simp [List.getD, hj]
theorem kz_range {row : List Int} : ∀ j, j < 16 → 0 ≤ (KZ row).getD j 0 ∧ (KZ row).getD j 0 < 32 := by
  intro j hj
  rw [kz_get row hj]
  have h0 := Int.emod_nonneg (row.getD j 0) (show (16 : Int) ≠ 0 by decide)
  have h1 := Int.emod_lt_of_pos (row.getD j 0) (show (0 : Int) < 16 by decide)
  omega
theorem kz_nodup (row : List Int) : (KZ row).Nodup ↔ Dist fun y => row.getD y 0 := by
  rw [kz_eq]
  unfold List.Nodup
  rw [List.pairwise_map, List.pairwise_iff_getElem]
  constructor
  · intro h u v huv hv e
    have := h u v (by rw [List.length_range]; omega) (by rw [List.length_range]; exact hv) huv
    rw [List.getElem_range, List.getElem_range] at this
    exact this (congrArg (fun x => 2 * x) e)
  · intro h u v hu hv huv e
    rw [List.length_range] at hv
    rw [List.getElem_range, List.getElem_range] at e
    exact h u v huv hv (Int.eq_of_mul_eq_mul_left (by decide) e)
/-- even numbers in their order: no more than fit, and where as many as fit, all of them -/
theorem evens_le {hi : Int} : ∀ {l : List Int} {lo : Int}, l.Pairwise (· < ·) → (∀ c ∈ l, lo ≤ c ∧ c ≤ hi ∧ c % 2 = lo % 2) → l ≠ [] → 2 * (l.length : Int) ≤ hi - lo + 2
  | [], _, _, _, h => absurd rfl h
  | [c], lo, _, h, _ => by
    have := h c (.head _)
    show 2 * (1 : Int) ≤ _
    omega
  | c :: d :: l, lo, hp, h, _ => by
    have hc := h c (.head _)
    have hp' := List.pairwise_cons.mp hp
    have := evens_le (hi := hi) (l := d :: l) (lo := c + 2) hp'.2 (fun x hx => by
      have h1 := hp'.1 x hx
      have h2 := h x (.tail _ hx)
      omega) (List.cons_ne_nil _ _)
    rw [List.length_cons, Int.natCast_add]
    omega
theorem evens_eq {hi : Int} : ∀ {l : List Int} {lo : Int}, l.Pairwise (· < ·) → (∀ c ∈ l, lo ≤ c ∧ c ≤ hi ∧ c % 2 = lo % 2) → 2 * (l.length : Int) = hi - lo + 2 → l = (List.range l.length).map fun (i : Nat) => lo + 2 * (i : Int)
  | [], _, _, _, _ => rfl
  | c :: l, lo, hp, h, hl => by
    have hc := h c (.head _)
    have hp' := List.pairwise_cons.mp hp
    have hc' : ∀ x ∈ l, c + 2 ≤ x ∧ x ≤ hi ∧ x % 2 = (c + 2) % 2 := fun x hx => by
      have h1 := hp'.1 x hx
      have h2 := h x (.tail _ hx)
      omega
    rw [List.length_cons, Int.natCast_add] at hl
    have e : c = lo := by
      cases l with
      | nil =>
        have hl : 2 * ((0 : Int) + 1) = hi - lo + 2 := hl
        omega
      | cons d l =>
        have := evens_le hp'.2 hc' (List.cons_ne_nil _ _)
        omega
    subst e
    have ih := evens_eq hp'.2 hc' (by omega)
    rw [List.length_cons, List.range_succ_eq_map, List.map_cons, List.map_map]
    refine congr (congrArg _ (Int.add_zero c).symm) (ih.trans (List.map_congr_left fun i _ => ?_))
    show c + 2 + 2 * (i : Int) = c + 2 * ((i + 1 : Nat) : Int)
    omega
theorem sorted_is {ns' : List Int} (hl : ns'.length = 16) (hs : ns'.Pairwise (· ≤ ·)) (hd : ns'.Nodup) (hm : ∀ c ∈ ns', 0 ≤ c ∧ c < 32 ∧ c % 2 = 0) : ns' = EV := by
  have hp : ns'.Pairwise (· < ·) := List.Pairwise.imp₂ (fun a b h1 h2 => Int.lt_iff_le_and_ne.mpr ⟨h1, h2⟩) hs hd
  have := evens_eq (hi := 30) (lo := 0) hp (fun c hc => by have := hm c hc; omega) (by rw [hl]; decide)
  rw [hl] at this
  rw [this]
  decide
theorem ev_nodup : EV.Nodup := by decide
def indT : List (List Int) := [[0, 0, 0, 0, 0, 0, 0, 0], [1, 0, 0, 0, 0, 0, 0, 0], [1, 1, 0, 0, 0, 0, 0, 0], [1, 1, 1, 0, 0, 0, 0, 0], [1, 1, 0, 1, 0, 0, 0, 0], [1, 1, 1, 1, 1, 0, 0, 0], [1, 1, 0, 1, 0, 1, 0, 0], [1, 1, 1, 1, 1, 1, 1, 0], [1, 1, 0, 1, 0, 0, 0, 1], [1, 1, 1, 1, 1, 0, 0, 1], [1, 1, 0, 1, 0, 1, 0, 1], [1, 1, 1, 1, 1, 1, 1, 1], [1, 1, 0, 1, 0, 0, 0, 1], [1, 1, 1, 1, 1, 0, 0, 1], [1, 1, 0, 1, 0, 1, 0, 1], [1, 1, 1, 1, 1, 1, 1, 1]]
theorem ind_tab : ∀ y : Fin 16, 1 ≤ y.val → ind y.val = indT.getD y.val [] := by decide +kernel
set_option synthInstance.maxHeartbeats 400000 in
set_option synthInstance.maxSize 2000 in
theorem bits_chk : ∀ (a b c d e f g h : Fin 2), (∀ y : Fin 16, 1 ≤ y.val → dot (indT.getD y.val []) [(a.val : Int), (b.val : Int), (c.val : Int), (d.val : Int), (e.val : Int), (f.val : Int), (g.val : Int), (h.val : Int)] % 2 = 1) ↔ (a.val = 1 ∧ b.val = 0 ∧ c.val = 0 ∧ d.val = 0 ∧ e.val = 0 ∧ f.val = 0 ∧ g.val = 0 ∧ h.val = 0) := by decide +kernel
theorem bit_of (x : Int) : ∃ b : Fin 2, x % 2 = (b.val : Int) := by
  rcases Int.emod_two_eq x with h | h
  · exact ⟨0, h⟩
  · exact ⟨1, h⟩
theorem sl_even {ps : List Int} : SL ps = [] ↔ ∀ k : Nat, 2 ≤ k → k < 9 → ps.getD k 0 % 2 = 0 := by
  unfold SL
  rw [List.map_eq_nil_iff, List.filter_eq_nil_iff]
  constructor
  · intro h k h2 h9
    have := h (k : Int) (List.mem_map.mpr ⟨k - 2, List.mem_range.mpr (by omega), by omega⟩)
    rw [Int.toNat_natCast, Int.fmod_eq_emod_of_nonneg _ (by decide)] at this
    exact (Int.emod_two_eq _).resolve_right fun e => this (by rw [e]; rfl)
  · intro h k hk
    obtain ⟨i, hi, rfl⟩ := List.mem_map.mp hk
    have hi := List.mem_range.mp hi
    rw [show (2 + (i : Int)).toNat = i + 2 by omega, Int.fmod_eq_emod_of_nonneg _ (by decide), h (i + 2) (by omega) (by omega)]
    decide
theorem met_odd {ps : List Int} (hl : ps.length = 9) : (∀ y, 1 ≤ y → y < 16 → metS ps y % 2 = 1) ↔ (ps.getD 1 0 % 2 = 1 ∧ SL ps = []) := by
  have hS : ∀ y, 1 ≤ y → y < 16 → metS ps y % 2 = dot (indT.getD y []) (ps.tail.map fun x => x % 2) % 2 := fun y h0 hy => by
    unfold metS
    rw [ind_tab ⟨y, hy⟩ h0, dot_modr]
  rw [sl_even]
  match ps, hl with
  | [p0, p1, p2, p3, p4, p5, p6, p7, p8], _ =>
    obtain ⟨b1, e1⟩ := bit_of p1
    obtain ⟨b2, e2⟩ := bit_of p2
    obtain ⟨b3, e3⟩ := bit_of p3
    obtain ⟨b4, e4⟩ := bit_of p4
    obtain ⟨b5, e5⟩ := bit_of p5
    obtain ⟨b6, e6⟩ := bit_of p6
    obtain ⟨b7, e7⟩ := bit_of p7
    obtain ⟨b8, e8⟩ := bit_of p8
    have key := bits_chk b1 b2 b3 b4 b5 b6 b7 b8
    rw [← e1, ← e2, ← e3, ← e4, ← e5, ← e6, ← e7, ← e8] at key
    have c0 : ∀ (b : Fin 2) (x : Int), x % 2 = (b.val : Int) → (b.val = 0 ↔ x % 2 = 0) := fun b x h => by rw [h]; exact Int.natCast_eq_zero.symm
    have c1 : ∀ (b : Fin 2) (x : Int), x % 2 = (b.val : Int) → (b.val = 1 ↔ x % 2 = 1) := fun b x h => by rw [h]; exact Int.natCast_inj (n := 1) |>.symm
    rw [c1 b1 _ e1, c0 b2 _ e2, c0 b3 _ e3, c0 b4 _ e4, c0 b5 _ e5, c0 b6 _ e6, c0 b7 _ e7, c0 b8 _ e8] at key
    constructor
    · intro h
      obtain ⟨k1, k2, k3, k4, k5, k6, k7, k8⟩ := key.mp fun y h0 => (hS y.val h0 y.isLt).symm.trans (h y.val h0 y.isLt)
      refine ⟨k1, fun k h2 h9 => ?_⟩
      match k, h2, h9 with
      | 2, _, _ => exact k2
      | 3, _, _ => exact k3
      | 4, _, _ => exact k4
      | 5, _, _ => exact k5
      | 6, _, _ => exact k6
      | 7, _, _ => exact k7
      | 8, _, _ => exact k8
    · rintro ⟨h1, h⟩ y h0 hy
      rw [hS y h0 hy]
      exact key.mpr ⟨h1, h 2 (by decide) (by decide), h 3 (by decide) (by decide), h 4 (by decide) (by decide), h 5 (by decide) (by decide), h 6 (by decide) (by decide), h 7 (by decide) (by decide), h 8 (by decide) (by decide)⟩ ⟨y, hy⟩ h0
theorem row_steps {ws : List Int} (hws : ws.length = 9) (hnf : NoF ws) {y : Nat} (h0 : 1 ≤ y) (hy : y < 16) : ((rowOf ws).getD y 0 - (rowOf ws).getD (lowN y) 0) % 2 ^ (pl y + 1) = 2 ^ pl y * (metS (PS ws) y % 2) := by
  rw [row_met hws hnf h0 hy, Int.pow_succ, Int.mul_emod_mul_of_pos _ _ (Int.pow_pos (by decide))]
theorem dist_iff {ws : List Int} (hws : ws.length = 9) (hnf : NoF ws) : (Dist fun y => (rowOf ws).getD y 0) ↔ ((PS ws).getD 1 0 % 2 = 1 ∧ SL (PS ws) = []) := by
  rw [← met_odd ps_length]
  constructor
  · intro h y h0 hy
    have hb : ∀ y : Fin 16, 1 ≤ y.val → pl y.val < 4 ∧ lowN y.val < 2 ^ pl y.val ∧ lowN y.val + 2 ^ pl y.val = y.val := by decide
    obtain ⟨a, b, c⟩ := hb ⟨y, hy⟩ h0
    have := (odd_dist (r := fun y => (rowOf ws).getD y 0) (S := metS (PS ws)) (fun y h0 hy => row_steps hws hnf h0 hy) h 4 0 rfl (pl y) (lowN y) (Nat.zero_le _) a b).1
    rwa [c] at this
  · intro h
    refine dist_odd fun y h0 hy => ?_
    show ((rowOf ws).getD y 0 - (rowOf ws).getD (lowN y) 0) % 2 ^ (pl y + 1) = 2 ^ pl y
    rw [row_steps hws hnf h0 hy, h y h0 hy, Int.mul_one]
theorem sort_iff {ws : List Int} (hws : ws.length = 9) (hnf : NoF ws) {ns' : List Int} (hp : ns'.Perm (KZ (rowOf ws))) (hs : ns'.Pairwise (· ≤ ·)) : ns' = EV ↔ ((PS ws).getD 1 0 % 2 = 1 ∧ SL (PS ws) = []) := by
  rw [← dist_iff hws hnf, ← kz_nodup]
  constructor
  · rintro rfl
    exact hp.nodup_iff.mp ev_nodup
  · intro h
    refine sorted_is (by rw [hp.length_eq, kz_len]) hs (hp.nodup_iff.mpr h) fun c hc => ?_
    have hc := hp.mem_iff.mp hc
    rw [kz_eq] at hc
    obtain ⟨j, _, rfl⟩ := List.mem_map.mp hc
    have h0 := Int.emod_nonneg ((rowOf ws).getD j 0) (show (16 : Int) ≠ 0 by decide)
    have h1 := Int.emod_lt_of_pos ((rowOf ws).getD j 0) (show (0 : Int) < 16 by decide)
    omega
theorem law_sort0 {ws row ps : List Int} (hrw : row = rowOf ws) (hws : ws.length = 9) (hps : ps = PS ws) (hnf : NoF ws) (h1 : (ps.getD (Int.toNat 1) 0).fmod 2 ≠ 1) : ∀ ns' : List Int, ns'.Perm (KZ row) → ns'.Pairwise (· ≤ ·) → decide (ns' = EV) = ((ps.getD (Int.toNat 1) 0).fmod 2 == 1) := by
  subst hrw hps
  intro ns' hp hs
  rw [beq_eq_false_iff_ne.mpr h1]
  rw [Int.fmod_eq_emod_of_nonneg _ (by decide)] at h1
  exact decide_eq_false fun e => h1 ((sort_iff hws hnf hp hs).mp e).1
theorem law_sort1 {ws row ps : List Int} (hrw : row = rowOf ws) (hws : ws.length = 9) (hps : ps = PS ws) (hnf : NoF ws) (h1 : (ps.getD (Int.toNat 1) 0).fmod 2 = 1) : ∀ ns' : List Int, ns'.Perm (KZ row) → ns'.Pairwise (· ≤ ·) → decide (ns' = EV) = decide (SL ps = []) := by
  subst hrw hps
  intro ns' hp hs
  rw [Int.fmod_eq_emod_of_nonneg _ (by decide)] at h1
  refine decide_eq_decide.mpr ((sort_iff hws hnf hp hs).trans ⟨fun h => h.2, fun h => ⟨h1, h⟩⟩)
end
section
def dN : List Nat → List Nat → Nat
  | c :: cs, x :: xs => c * x + dN cs xs
  | _, _ => 0
theorem dN_nil (p : List Nat) : dN p [] = 0 := by cases p <;> rfl
theorem dN_add : ∀ {v p q : List Nat}, v.length ≤ p.length → v.length ≤ q.length → dN (List.zipWith (· + ·) p q) v = dN p v + dN q v
  | [], p, q, _, _ => by rw [dN_nil, dN_nil, dN_nil]
  | x :: v, a :: p, b :: q, hp, hq => by
    show (a + b) * x + dN (List.zipWith (· + ·) p q) v = a * x + dN p v + (b * x + dN q v)
    rw [dN_add (Nat.le_of_succ_le_succ hp) (Nat.le_of_succ_le_succ hq), Nat.add_mul]
    omega
theorem dN_smul (M : Nat) : ∀ p v : List Nat, dN (p.map fun c => M * c) v = M * dN p v
  | [], _ => rfl
  | _ :: _, [] => rfl
  | a :: p, x :: v => by
    show M * a * x + dN (p.map fun c => M * c) v = M * (a * x + dN p v)
    rw [dN_smul M p v, Nat.mul_add, Nat.mul_assoc]
theorem dN_cast : ∀ p v : List Nat, dot (p.map fun (c : Nat) => (c : Int)) (v.map fun (c : Nat) => (c : Int)) = (dN p v : Nat)
  | [], _ => rfl
  | _ :: _, [] => rfl
  | a :: p, x :: v => by
    show (a : Int) * x + dot (p.map fun (c : Nat) => (c : Int)) (v.map fun (c : Nat) => (c : Int)) = ((a * x + dN p v : Nat) : Int)
    rw [dN_cast p v, Int.natCast_add, Int.natCast_mul]
theorem dN_le {B : Nat} : ∀ p v : List Nat, (∀ c ∈ p, c < 16) → (∀ x ∈ v, x < 16) → p.length ≤ B → dN p v ≤ 225 * B
  | [], _, _, _, _ => Nat.zero_le _
  | _ :: _, [], _, _, _ => Nat.zero_le _
  | a :: p, x :: v, hp, hv, hB => by
    have h1 : a * x ≤ 15 * 15 := Nat.mul_le_mul (Nat.le_of_lt_succ (hp a (.head _))) (Nat.le_of_lt_succ (hv x (.head _)))
    have h2 := dN_le (B := p.length) p v (fun c hc => hp c (.tail _ hc)) (fun c hc => hv c (.tail _ hc)) (Nat.le_refl _)
    rw [List.length_cons] at hB
    show a * x + dN p v ≤ 225 * B
    omega
/-- digits to the base 4096 -/
def pk : List Nat → Nat
  | [] => 0
  | d :: l => d + 4096 * pk l
theorem pk_get : ∀ (l : List Nat) (i : Nat), (∀ d ∈ l, d < 4096) → pk l / 4096 ^ i % 16 = l.getD i 0 % 16
  | [], i, _ => by
    show 0 / 4096 ^ i % 16 = 0 % 16
    rw [Nat.zero_div]
  | d :: l, 0, _ => by
    show (d + 4096 * pk l) / 1 % 16 = d % 16
    rw [Nat.div_one]
    omega
  | d :: l, i + 1, h => by
    show (d + 4096 * pk l) / 4096 ^ (i + 1) % 16 = l.getD i 0 % 16
    rw [Nat.pow_succ, Nat.mul_comm (4096 ^ i), ← Nat.div_div_eq_div_mul, Nat.add_mul_div_left _ _ (by decide), Nat.div_eq_of_lt (h d (.head _)), Nat.zero_add, pk_get l i fun x hx => h x (.tail _ hx)]
def colsOf : List (List Nat) → List Nat
  | [] => [0, 0, 0, 0, 0, 0, 0, 0, 0]
  | p :: T => List.zipWith (· + ·) p ((colsOf T).map fun c => 4096 * c)
theorem colsOf_length : ∀ {T : List (List Nat)}, (∀ p ∈ T, p.length = 9) → (colsOf T).length = 9
  | [], _ => rfl
  | p :: T, h => by
    show (List.zipWith (· + ·) p ((colsOf T).map fun c => 4096 * c)).length = 9
    rw [List.length_zipWith, List.length_map, h p (.head _), colsOf_length fun q hq => h q (.tail _ hq)]
    rfl
theorem pk_cols {v : List Nat} (hv : v.length = 9) : ∀ {T : List (List Nat)}, (∀ p ∈ T, p.length = 9) → pk (T.map fun p => dN p v) = dN (colsOf T) v
  | [], _ => by
    match v, hv with
    | [a, b, c, d, e, f, g, h, i], _ =>
      show 0 = 0 * a + (0 * b + (0 * c + (0 * d + (0 * e + (0 * f + (0 * g + (0 * h + (0 * i + 0))))))))
      simp only [Nat.zero_mul, Nat.add_zero]
  | p :: T, h => by
    have hT : ∀ q ∈ T, q.length = 9 := fun q hq => h q (.tail _ hq)
    show dN p v + 4096 * pk (T.map fun p => dN p v) = dN (List.zipWith (· + ·) p ((colsOf T).map fun c => 4096 * c)) v
    rw [pk_cols hv hT, dN_add (by rw [hv, h p (.head _)]; exact Nat.le_refl _) (by rw [List.length_map, colsOf_length hT, hv]; exact Nat.le_refl _), dN_smul]
def tabN : List (List Nat) := (List.range 16).map fun y => (pas y).map fun c => (c % 16).toNat
theorem tab_chk : (∀ p ∈ tabN, p.length = 9 ∧ ∀ c ∈ p, c < 16) ∧ ∀ y : Fin 16, (tabN.getD y.val []).map (fun (c : Nat) => (c : Int)) = (pas y.val).map fun c => c % 16 := by decide +kernel
def stp (R p : Nat) : Nat := R / 4096 ^ p % 16
theorem row_stp {ws : List Int} {v : List Nat} (hws : ws.length = 9) (hv : ws.map (fun x => x % 16) = v.map fun (c : Nat) => (c : Int)) {y : Nat} (hy : y < 16) : (rowOf ws).getD y 0 % 16 = (stp (dN (colsOf tabN) v) y : Nat) := by
  have hvl : v.length = 9 := by
    have := congrArg List.length hv
    rw [List.length_map, List.length_map, hws] at this
    exact this.symm
  have hv16 : ∀ x ∈ v, x < 16 := fun x hx => by
    have : (x : Int) ∈ ws.map fun x => x % 16 := hv ▸ List.mem_map_of_mem (f := fun (c : Nat) => (c : Int)) hx
    obtain ⟨z, _, e⟩ := List.mem_map.mp this
    have := Int.emod_lt_of_pos z (show (0 : Int) < 16 by decide)
    omega
  obtain ⟨h1, h2⟩ := tab_chk
  unfold stp
  rw [← pk_cols hvl fun p hp => (h1 p hp).1, pk_get _ _ (fun d hd => by
    obtain ⟨p, hp, rfl⟩ := List.mem_map.mp hd
    have := dN_le (B := 9) p v (h1 p hp).2 hv16 (Nat.le_of_eq (h1 p hp).1)
    omega)]
  have e : (tabN.map fun p => dN p v).getD y 0 = dN (tabN.getD y []) v := by
    have hl : y < tabN.length := hy
    simp [List.getD, hl]
  rw [e, row_dot hws hy, dot_mod, dot_modr, hv, ← h2 ⟨y, hy⟩, dN_cast]
  rfl
/-- no zero within n steps behind p -/
def goes (R n : Nat) : Nat → Bool := Nat.rec (fun _ => true) (fun _ ih p => Nat.rec false (fun m _ => ih (Nat.succ m)) (Nat.mod (Nat.shiftRight R (Nat.mul 12 p)) 16)) n
def atN (R p : Nat) : Nat → Nat
  | 0 => p
  | j + 1 => stp R (atN R p j)
theorem atN_shift (R p : Nat) : ∀ j, atN R p (j + 1) = atN R (stp R p) j
  | 0 => rfl
  | j + 1 => congrArg (stp R) (atN_shift R p j)
theorem goes_succ (R n p : Nat) : goes R (n + 1) p = if stp R p = 0 then false else goes R n (stp R p) := by
  have e : Nat.mod (Nat.shiftRight R (Nat.mul 12 p)) 16 = stp R p := by
    show (R >>> (12 * p)) % 16 = R / 4096 ^ p % 16
    rw [Nat.shiftRight_eq_div_pow, Nat.pow_mul]
  show Nat.rec (motive := fun _ => Bool) false (fun m _ => goes R n (Nat.succ m)) (Nat.mod (Nat.shiftRight R (Nat.mul 12 p)) 16) = _
  rw [e]
  cases stp R p with
  | zero => rfl
  | succ m => rfl
theorem goes_iff (R : Nat) : ∀ n p, goes R n p = true ↔ ∀ j, 1 ≤ j → j ≤ n → atN R p j ≠ 0
  | 0, p => ⟨fun _ j h1 h2 => by omega, fun _ => rfl⟩
  | n + 1, p => by
    rw [goes_succ]
    by_cases h : stp R p = 0
    · rw [if_pos h]
      exact ⟨fun q => absurd q Bool.false_ne_true, fun q => absurd h (q 1 (Nat.le_refl _) (Nat.le_add_left 1 n))⟩
    · rw [if_neg h, goes_iff R n]
      constructor
      · intro q j h1 h2
        match j, h1 with
        | 1, _ => exact h
        | j + 2, _ => rw [atN_shift]; exact q (j + 1) (Nat.le_add_left 1 j) (Nat.le_of_succ_le_succ h2)
      · intro q j h1 h2
        have := q (j + 1) (Nat.le_add_left 1 j) (Nat.succ_le_succ h2)
        rwa [atN_shift] at this
theorem atF_atN {row : List Int} {R : Nat} (h : ∀ y, y < 16 → row.getD y 0 % 16 = (stp R y : Nat)) : ∀ j, atF (KZ row) j = ((atN R 0 j : Nat) : Int) ∧ atN R 0 j < 16
  | 0 => ⟨rfl, by show 0 < 16; decide⟩
  | j + 1 => by
    obtain ⟨h1, h2⟩ := atF_atN h j
    refine ⟨?_, Nat.mod_lt _ (by decide)⟩
    show ((KZ row).getD (atF (KZ row) j).toNat 0).fdiv 2 = ((stp R (atN R 0 j) : Nat) : Int)
    rw [h1, Int.toNat_natCast, kz_get _ h2, ← h _ h2, Int.fdiv_eq_ediv_of_nonneg _ (by decide), Int.mul_ediv_cancel_left _ (by decide)]
def allN (n : Nat) (f : Nat → Bool) : Bool := Nat.rec true (fun i ih => cond (f i) ih false) n
theorem allN_at {f : Nat → Bool} : ∀ {n i : Nat}, allN n f = true → i < n → f i = true
  | n + 1, i, h, hi => by
    have h : cond (f n) (allN n f) false = true := h
    cases hf : f n with
    | false => rw [hf] at h; exact absurd h Bool.false_ne_true
    | true =>
      rw [hf] at h
      rcases Nat.lt_or_eq_of_le (Nat.le_of_lt_succ hi) with q | rfl
      · exact allN_at h q
      · exact hf
def colL : List Nat := [1532869776651204093732793509940822079634274833812951041, 22992672322594276008166815275849830383261464564621905920, 13796576735262295831686257610710194805226967496698888192, 10731959798172671382420048165235311167345638506865098752, 7665846009218795982930699114664760726814711507641696256, 16858199877948539397299679417840218576235605601537753088, 19926557985510373482294215264936221072331678866944819200, 4600480143504790014379326788534582181035727526815596544, 4601602850949895147812927085667078463826587317482553344]
theorem cols_are : colsOf tabN = colL := by decide +kernel
def ringC (a b d h : Nat) : Bool := Nat.beq (Nat.mod a 2) 1 && (Nat.beq (Nat.mod b 2) 0 && (Nat.beq (Nat.mod d 2) 0 && Nat.beq h 0))
def ringOk (R a b d h : Nat) : Bool := cond (goes R 15 0) (ringC a b d h) (ringC a b d h).not
def ringR (a b c d e f g h : Nat) : Nat := Nat.add (Nat.mul 1532869776651204093732793509940822079634274833812951041 a) (Nat.add (Nat.mul 22992672322594276008166815275849830383261464564621905920 (Nat.add (Nat.mul 2 b) 1)) (Nat.add (Nat.mul 13796576735262295831686257610710194805226967496698888192 (Nat.mul 4 c)) (Nat.add (Nat.mul 10731959798172671382420048165235311167345638506865098752 (Nat.mul 4 d)) (Nat.add (Nat.mul 7665846009218795982930699114664760726814711507641696256 (Nat.mul 8 e)) (Nat.add (Nat.mul 16858199877948539397299679417840218576235605601537753088 (Nat.mul 8 f)) (Nat.add (Nat.mul 19926557985510373482294215264936221072331678866944819200 (Nat.mul 8 g)) (Nat.mul 4600480143504790014379326788534582181035727526815596544 (Nat.mul 8 h))))))))
theorem ring_chk : (allN 16 fun a => allN 8 fun b => allN 4 fun c => allN 4 fun d => allN 2 fun e => allN 2 fun f => allN 2 fun g => allN 2 fun h => ringOk (ringR a b c d e f g h) a b d h) = true := by decide +kernel
theorem dN_nine (c0 c1 c2 c3 c4 c5 c6 c7 c8 x0 x1 x2 x3 x4 x5 x6 x7 : Nat) : dN [c0, c1, c2, c3, c4, c5, c6, c7, c8] [x0, x1, x2, x3, x4, x5, x6, x7, 0] = Nat.add (Nat.mul c0 x0) (Nat.add (Nat.mul c1 x1) (Nat.add (Nat.mul c2 x2) (Nat.add (Nat.mul c3 x3) (Nat.add (Nat.mul c4 x4) (Nat.add (Nat.mul c5 x5) (Nat.add (Nat.mul c6 x6) (Nat.mul c7 x7))))))) := rfl
theorem ring_R (a b c d e f g h : Nat) : dN (colsOf tabN) [a, 2 * b + 1, 4 * c, 4 * d, 8 * e, 8 * f, 8 * g, 8 * h, 0] = ringR a b c d e f g h := by
  rw [cols_are, colL, dN_nine, ringR]
  rfl
theorem ring_at {a b c d e f g h : Nat} (ha : a < 16) (hb : b < 8) (hc : c < 4) (hd : d < 4) (he : e < 2) (hf : f < 2) (hg : g < 2) (hh : h < 2) : goes (ringR a b c d e f g h) 15 0 = true ↔ (a % 2 = 1 ∧ b % 2 = 0 ∧ d % 2 = 0 ∧ h = 0) := by
  have q := allN_at ring_chk ha
  replace q := allN_at q hb
  replace q := allN_at q hc
  replace q := allN_at q hd
  replace q := allN_at q he
  replace q := allN_at q hf
  replace q := allN_at q hg
  replace q : ringOk (ringR a b c d e f g h) a b d h = true := allN_at (f := fun h => ringOk (ringR a b c d e f g h) a b d h) q hh
  have eC : ringC a b d h = true ↔ (a % 2 = 1 ∧ b % 2 = 0 ∧ d % 2 = 0 ∧ h = 0) := by
    unfold ringC
    rw [Bool.and_eq_true, Bool.and_eq_true, Bool.and_eq_true, Nat.beq_eq, Nat.beq_eq, Nat.beq_eq, Nat.beq_eq]
    exact Iff.rfl
  rw [← eC]
  unfold ringOk at q
  cases hG : goes (ringR a b c d e f g h) 15 0 with
  | true => rw [hG] at q; exact ⟨fun _ => q, fun _ => rfl⟩
  | false =>
    rw [hG] at q
    refine ⟨fun x => absurd x Bool.false_ne_true, fun x => ?_⟩
    rw [x] at q
    exact absurd q Bool.false_ne_true
theorem w_at {ws : List Int} (hws : ws.length = 9) (hnf : NoF ws) {k : Nat} (hk : k < 9) : ws.getD k 0 = pows.getD k 0 * (PS ws).getD k 0 := by
  have e := ws_ps hws hnf
  have e2 : ws[k]? = (List.zipWith (· * ·) pw9 (PS ws))[k]? := congrArg (fun l => l[k]?) e
  rw [List.getElem?_zipWith, pw9_at ⟨k, hk⟩, ps_at hk] at e2
  have e3 : (PS ws).getD k 0 = (ws.getD k 0).fdiv (pows.getD k 0) := by
    unfold List.getD
    rw [ps_at hk]; rfl
  rw [e3]
  conv => lhs; unfold List.getD
  rw [e2]; rfl
theorem n1 (x : Int) : ∃ a : Nat, a < 16 ∧ x % 16 = (a : Int) ∧ (a % 2 = 1 ↔ x % 2 = 1) := ⟨(x % 16).toNat, by omega⟩
theorem n2 {x : Int} (h : x % 2 = 1) : ∃ b : Nat, b < 8 ∧ x % 16 = ((2 * b + 1 : Nat) : Int) ∧ (b % 2 = 0 ↔ x % 4 = 1) := ⟨(x % 16 / 2).toNat, by omega⟩
theorem n4 {w q : Int} (hw : w = 2 * q) (h : q % 2 = 0) : ∃ c : Nat, c < 4 ∧ w % 16 = ((4 * c : Nat) : Int) ∧ (c % 2 = 0 ↔ q % 4 = 0) := ⟨(w % 16 / 4).toNat, by omega⟩
theorem n8 {w q : Int} (hw : w = 4 * q) (h : q % 2 = 0) : ∃ e : Nat, e < 2 ∧ w % 16 = ((8 * e : Nat) : Int) ∧ (e = 0 ↔ q % 4 = 0) := ⟨(w % 16 / 8).toNat, by omega⟩
theorem n0 {w q : Int} (hw : w = 8 * q) (h : q % 2 = 0) : w % 16 = ((0 : Nat) : Int) := by omega
theorem law_ring {ws row ps : List Int} (hrw : row = rowOf ws) (hws : ws.length = 9) (hps : ps = PS ws) (hnf : NoF ws) (h1 : (ps.getD (Int.toNat 1) 0).fmod 2 = 1) : decide (SL ps = []) = true → ((∀ j, 1 ≤ j → j ≤ 15 → atF (KZ row) j ≠ 0) ↔ WH ws ps) := by
  intro hsl
  subst hrw hps
  have hq1 : (PS ws).getD 1 0 % 2 = 1 := by rw [← Int.fmod_eq_emod_of_nonneg _ (show (0 : Int) ≤ 2 by decide)]; exact h1
  have hev : ∀ k : Nat, 2 ≤ k → k < 9 → (PS ws).getD k 0 % 2 = 0 := sl_even.mp (of_decide_eq_true hsl)
  have hw := fun (k : Nat) (hk : k < 9) => w_at hws hnf hk
  obtain ⟨a, ha, ea, ia⟩ := n1 (ws.getD 0 0)
  obtain ⟨b, hb, eb, ib⟩ := n2 (x := ws.getD 1 0) (by rw [hw 1 (by decide)]; show (1 * (PS ws).getD 1 0) % 2 = 1; rw [Int.one_mul]; exact hq1)
  obtain ⟨c, hc, ec, _⟩ := n4 (hw 2 (by decide)) (hev 2 (by decide) (by decide))
  obtain ⟨d, hd, ed, id⟩ := n4 (hw 3 (by decide)) (hev 3 (by decide) (by decide))
  obtain ⟨e, he, ee, _⟩ := n8 (hw 4 (by decide)) (hev 4 (by decide) (by decide))
  obtain ⟨f, hf, ef, _⟩ := n8 (hw 5 (by decide)) (hev 5 (by decide) (by decide))
  obtain ⟨g, hg, eg, _⟩ := n8 (hw 6 (by decide)) (hev 6 (by decide) (by decide))
  obtain ⟨h, hh, eh, ih⟩ := n8 (hw 7 (by decide)) (hev 7 (by decide) (by decide))
  have e8 := n0 (hw 8 (by decide)) (hev 8 (by decide) (by decide))
  have hv : ws.map (fun x => x % 16) = [a, 2 * b + 1, 4 * c, 4 * d, 8 * e, 8 * f, 8 * g, 8 * h, 0].map fun (c : Nat) => (c : Int) := by
    have h9 : ws.map (fun x => x % 16) = [ws.getD 0 0 % 16, ws.getD 1 0 % 16, ws.getD 2 0 % 16, ws.getD 3 0 % 16, ws.getD 4 0 % 16, ws.getD 5 0 % 16, ws.getD 6 0 % 16, ws.getD 7 0 % 16, ws.getD 8 0 % 16] := by
      match ws, hws with
      | [_, _, _, _, _, _, _, _, _], _ => rfl
    rw [h9, ea, eb, ec, ed, ee, ef, eg, eh, e8]
    rfl
  have hrow := fun (y : Nat) (hy : y < 16) => row_stp hws hv hy
  rw [ring_R] at hrow
  have hgo : (∀ j, 1 ≤ j → j ≤ 15 → atF (KZ (rowOf ws)) j ≠ 0) ↔ goes (ringR a b c d e f g h) 15 0 = true := by
    rw [goes_iff]
    refine forall_congr' fun j => forall_congr' fun _ => forall_congr' fun _ => not_congr ?_
    rw [(atF_atN hrow j).1]
    exact Int.natCast_eq_zero
  rw [hgo, ring_at ha hb hc hd he hf hg hh, ia, ib, id, ih]
  show _ ↔ ((ws.getD 0 0).fmod 2 = 1 ∧ (ws.getD 1 0).fmod 4 = 1 ∧ ((PS ws).getD 3 0).fmod 4 = 0 ∧ ((PS ws).getD 7 0).fmod 4 = 0)
  rw [Int.fmod_eq_emod_of_nonneg _ (by decide), Int.fmod_eq_emod_of_nonneg _ (by decide), Int.fmod_eq_emod_of_nonneg _ (by decide), Int.fmod_eq_emod_of_nonneg _ (by decide)]
end
end
section
theorem ly30 : True := by
  k_with_none
  w_top off
  k_with "hd0" => (
    ktr_room)
  k_with "hd1" => (
    first
  | (refine' in_plain ?k1 ?k2 ?k4 ?k3 ?k5 ?kA ?kF ?kK ?k6 ?k7 ?k8 ?k9 ?kB ?_ ?c2 ?c3 ?c4 ?c5; (case kA => exact rfl); (case kF => exact rfl); (case kK => assumption); (case k1 => k_asm); (case k2 => k_asm); (case k3 => k_asm); (case k4 => assumption); (case k5 => k_asm); (case k6 => k_is); (case k7 => k_is); (case k8 => ktr_room); (case k9 => exact BindsTo.of_eq rfl); (case c5 => decide); (case kB => exact locs rfl); (case c2 => exact rfl); (case c3 => exact rfl); (case c4 => exact rfl); k_whole; intro g' L' h' hHid hSt F' N' B' X' T' l1; (try k_lt l1); (try dsimp only); (try k_lift B'); (try k_fold))
  | (refine' in_cells ?k1 ?k2 ?k4 ?k3 ?k5 ?kA ?kF ?kK ?k6 ?k7 ?k8 ?k9 ?kB ?kD ?_ ?c2 ?c3 ?c4; (case kA => exact rfl); (case kF => exact rfl); (case kK => assumption); (case k1 => k_asm); (case k2 => k_asm); (case k3 => k_asm); (case k4 => assumption); (case k5 => k_asm); (case k6 => k_is); (case k7 => k_is); (case k8 => ktr_room); (case k9 => exact BindsTo.of_eq rfl); (case kB => exact rfl); (case kD => decide +kernel); (case c2 => exact rfl); (case c3 => exact rfl); (case c4 => exact rfl); k_whole; intro g' L' h' tk' cells' hHid hSt F' N' Y' B' X' T' l1; (try k_lt l1); k_cells Y'; (try simp only [List.cons_append, List.nil_append] at N'); (try dsimp only); (try k_lift B'); (try k_fold)))
  k_with "hd2" => (
    (refine mem_of ?_; with_reducible assumption))
  k_with "hd3" => (
    first | with_reducible assumption | exact all_lt_ne (by with_reducible assumption) | (refine' all_ne_cons ?a ?b; (case a => k_ne); (case b => k_all)))
  k_with "hd4" => (
    first | with_reducible assumption | exact ne_of_ne' (by with_reducible assumption) | (refine' ne_off ?h ?m; (case h => with_reducible assumption); (case m => k_mem)) | (refine' ne_off' ?h ?m; (case h => with_reducible assumption); (case m => k_mem)) | (refine' ne_offlt ?h ?m; (case h => with_reducible assumption); (case m => k_mem)) | (refine' ne_offlt' ?h ?m; (case h => with_reducible assumption); (case m => k_mem)) | (refine neN ?_; dsimp only; first | with_reducible assumption | exact ne_of_ne' (by with_reducible assumption) | (refine' ne_off ?h ?m; (case h => with_reducible assumption); (case m => k_mem)) | (refine' ne_off' ?h ?m; (case h => with_reducible assumption); (case m => k_mem)) | (refine' ne_offlt ?h ?m; (case h => with_reducible assumption); (case m => k_mem)) | (refine' ne_offlt' ?h ?m; (case h => with_reducible assumption); (case m => k_mem)) | omega) | (refine neN ?_; omega))
  exact True.intro
theorem ly23 : True := by
  k_with "g25m0" => (
    (k_here; (with_reducible show wpAny _ _ (exec (Stmt.Assign [Expr.Name _ _] (Expr.ListComp _ [⟨Expr.Name _ _, _, [_], 0⟩] _ _) _) _) _ _ _); k_dflt (refine' Assign_F ?F ?Le ?hS ?sw ?cl ?ce ?ki ?na ?hx ?hy ?hp ?_; (case F => k_asm); (case Le => exact rfl); (case hS => with_reducible assumption); (case sw => with_unfolding_all rfl); (case cl => with_unfolding_all rfl); (case ce => decide); (case ki => exact rfl); (case na => decide); (case hx => exact rfl); (case hy => exact rfl); (case hp => exact rfl); (try dsimp only))))
  k_with "g25m1" => (
    (k_here; (with_reducible show wpAny _ _ (eval (Expr.ListComp _ [⟨Expr.Name _ _, _, [_], 0⟩] _ _) _) _ _ _); k_dflt (refine' ListComp_F ?F ?hS ?cl ?ce ?ki ?na ?hx ?_; (case F => k_asm); (case hS => with_reducible assumption); (case cl => with_unfolding_all rfl); (case ce => decide); (case ki => exact rfl); (case na => decide); (case hx => exact rfl); (try dsimp only))))
  k_with "g25m2" => (
    (k_here; k_dflt (refine' SrcF.range ?h0 ?h1 ?h2 ?h3 ?h4 ?h5 ?h6 ?_ ?_ ?_; (case h0 => exact rfl); (case h1 => k_asm); (case h2 => k_asm); (case h3 => assumption); (case h4 => first | decide | rfl); (case h5 => first | rfl | decide); (case h6 => decide))))
  k_with "g25m3" => (
    ((with_reducible show ∀ _ : Heap, TestsF _ _ _ _ _ _ _ _ _ _ _ _ _ _ _ _); unfold TestsF; intro g' k' t' I' oI' C' oC' D' m' ys' h' tk' E' hlo' hhi' hC' hx' F' N' off' ne'; (try dsimp only); (try k_fold)))
  k_with "g25m4" => (
    ((with_reducible show ∀ _ : Heap, EltsF _ _ _ _ _ _ _ _ _ _ _ _ _ _ _ _ _); unfold EltsF; intro g' k' t' I' oI' C' oC' D' m' ys' h' tk' E' hlo' hhi' hc' hC' hx' F' N' off' ne'; (try dsimp only); (try k_fold)))
  k_with "g25m5" => (
    ((with_reducible show ∀ (_ : Addr) (_ : List Value) (_ : Heap) (_ : Nat), Fr _ _ _ _ → News _ _ _ _ → LCg.Off1 _ _ → IntsAre _ _ → _); intro D' ys' h' tk' F' N' l1 hI'; (replace l1 := raw1 l1); (try dsimp only)))
  k_with "g25m6" => (
    (k_dflt (refine' TurnF.intro ?k1 ?k2 ?k3 ?_; (case k1 => k_asm); (case k2 => k_asm); (case k3 => first | exact fun _ h => h | kcf_all)); first | exact rfl | exact ⟨_, rfl⟩))
  k_with "g25m7" => (
    (k_here; (with_reducible refine mod_pow (by assumption) (by assumption) (by decide) ?_)))
  k_with "g25m8" => (
    (k_here; (with_reducible refine div_pow (by assumption) (by assumption) (by decide) ?_)))
  k_with "g25m9" => (
    (k_here; k_dflt (refine' item_up ?k1 ?k2 ?k3 ?kh ?kk ?ka ?kl ?_ ?k7; (case k1 => k_asm); (case k2 => k_mem); (case k3 => assumption); (case kh => assumption); (case kk => assumption); (case ka => decide); (case kl => (first | decide | exact le_nine (by assumption) (by decide) | exact le_sixteen (by assumption) (by decide))); (case k7 => with_unfolding_all rfl); intro t')))
  k_with "g25m10" => (
    (k_here; (with_reducible refine pow2_up (by assumption) (by assumption) (by decide) ?_)))
  k_with "g25m11" => (
    (k_here; (with_reducible show wpAny _ _ (exec (Stmt.Assign [Expr.Name _ _] (Expr.ListComp _ [⟨Expr.Name _ _, Expr.Name _ _, [], 0⟩] _ _) _) _) _ _ _); k_dflt (refine' Assign_C ?F ?Le ?hS ?sw ?cl ?ce ?h0 ?ki ?na ?hy ?hp ?_; (case hS => with_reducible assumption); (case F => k_asm); (case Le => exact rfl); (case sw => with_unfolding_all rfl); (case cl => with_unfolding_all rfl); (case ce => exact rfl); (case h0 => decide +kernel); (case ki => exact rfl); (case na => decide); (case hy => exact rfl); (case hp => exact rfl); (try dsimp only))))
  k_with "g25m12" => (
    (k_here; k_dflt (refine' SrcC.intro ?h0 ?h1 ?h2 ?h3 ?h4 ?h5 ?_ ?_; (case h0 => exact rfl); (case h1 => k_asm); (case h2 => k_asm); (case h3 => k_mem); (case h4 => assumption); (case h5 => exact filt_len (by decide)))))
  k_with "g25m13" => (
    ((with_reducible show ∀ _ : Heap, EltsC _ _ _ _ _ _ _ _ _ _ _ _ _ _ _); unfold EltsC; intro g' k' t' I' oI' C' oC' D' c' oc' ys' h' tk' E' hk' d' hC' F' N' off' ne'; (have s9 : SpecF (Str.ofString "i") (fun i => (k').fmod (2 ^ i.toNat) == 0) (fun i => i) := ⟨trivial⟩); (try dsimp only); (try k_fold)))
  k_with "g25m14" => (
    (k_here; with_reducible refine mod_two ?_))
  k_with "g25m15" => (
    (k_here; k_dflt (refine' len_ints ?k1 ?k2 ?k3 ?k4 ?_; (case k1 => k_asm); (case k2 => k_mem); (case k3 => assumption); (case k4 => exact filt_len (by decide)); intro t' tk'; (try dsimp only))))
  k_with "g25m16" => (
    (k_here; k_dflt (refine' add_lists9 (ys := [_]) ?k1 ?k2 ?k3 ?k4 ?k5 ?k6 ?k7 ?k8 ?_; (case k1 => k_asm); (case k2 => k_asm); (case k3 => k_mem); (case k4 => k_mem); (case k5 => exact IntsAre.cons _ _ .nil); (case k6 => assumption); (case k7 => decide); (case k8 => exact filt_len (by decide)); intro D' us' h' F' N' l1 hI'; (try k_lt l1); (try dsimp only))))
  k_with "g25m17" => (
    (k_dflt (refine' TurnF.intro ?k1 ?k2 ?k3 ?_; (case k1 => k_asm); (case k2 => k_asm); (case k3 => first | exact fun _ h => h | kcf_all)); first | exact rfl | exact ⟨_, rfl⟩ | exact and5 (by assumption) (by assumption) | exact and6 (by assumption) (by assumption) | exact and_yes (by assumption) | exact and_no (by assumption) | exact and_yes' (by assumption) | exact and_no' (by assumption)))
  k_with "g25m18" => (
    (k_here; k_dflt (refine' sumK (by exact rfl) ?k1 ?k2 ?k3 ?k4 ?_; (case k1 => k_asm); (case k2 => k_asm); (case k3 => exact ⟨_, (News.get (by k_asm) (by k_mem)), rfl, _, rfl⟩); (case k4 => assumption); intro h' tk' t' F' N'; (try dsimp only))))
  k_with "g25m19" => (
    (k_here; (with_reducible show wpAny _ _ (call (Value.ref 42) [_] _) _ _ _); k_dflt (first
  | refine' use_int (c_ctrl_int _ _ _) ?k1 ?k2 ?k3 ?k4 ?k5 ?k6 ?k7 ?k8 ?k9 ?kp ?_
  | refine' use_str (c_ctrl_chr _ _ _) ?k1 ?k2 ?k3 ?k4 ?k5 ?k6 ?k7 ?k8 ?k9 ?kp ?_); k_dflt ((case k1 => k_asm); (case k2 => k_asm); (case k3 => k_asm); (case k4 => k_asm); (case k5 => k_asm); (case k6 => first | exact rfl | assumption); (case k7 => ktr_room); (case k8 => ktr_units); (case k9 => (intro _ h9; cases h9)); (case kp => trivial); intro t' h' tk' F' N'; (try dsimp only); (try k_fold))))
  k_with "g25m20" => (
    exact mul2_ok)
  k_with "g25m21" => (
    (k_here; k_dflt (refine' sort_cs ?k1 ?k2 ?k3 ?k4 ?k5 ?_; (case k1 => k_asm); (case k2 => k_asm); (case k3 => k_mem); (case k4 => assumption); (case k5 => assumption); intro D' vs' ns' e' h' F' N' l1 hI' hp' hs'; (try k_lt l1); (try dsimp only))))
  k_with "g25m22" => (
    (k_here; (with_reducible show wpAny _ _ (eval (Expr.ListComp (Expr.BinOp (Expr.Constant _ _ _) _ _ _) [⟨Expr.Name _ _, _, [], 0⟩] _ _) _) _ _ _); k_dflt (refine LCg.ListComp_U (F₀ := by k_asm) (by with_unfolding_all rfl) (by decide) (by rfl) (by decide) (by rfl) ?_)))
  k_with "g25m23" => (
    ((unfold LCg.FinE); intro D' h' tk' F' N' o1'; (replace o1' := raw1 o1'); (try simp only [List.nil_append, List.cons_append] at N'); (try dsimp only)))
  k_with "g25m24" => (
    ((unfold LCg.FinA); intro D' h' tk' F' N' o1'; (replace o1' := raw1 o1'); (try simp only [List.nil_append, List.cons_append] at N'); (try dsimp only)))
  exact True.intro
local macro_rules | `(tactic| walk_at "exec Assign cons ListComp") => `(tactic| k_extra "g25m0")
local macro_rules | `(tactic| walk_at "eval ListComp") => `(tactic| k_extra "g25m1")
local macro_rules | `(tactic| walk_at "SrcF") => `(tactic| k_extra "g25m2")
local macro_rules | `(tactic| walk_at "forall") => `(tactic| k_extra "g25m3")
local macro_rules | `(tactic| walk_at "forall") => `(tactic| k_extra "g25m4")
local macro_rules | `(tactic| walk_at "forall") => `(tactic| k_extra "g25m5")
local macro_rules | `(tactic| walk_at "TurnF") => `(tactic| k_extra "g25m6")
local macro_rules | `(tactic| walk_at "binaryOp Mod int int") => `(tactic| k_extra "g25m7")
local macro_rules | `(tactic| walk_at "binaryOp FloorDiv int int") => `(tactic| k_extra "g25m8")
local macro_rules | `(tactic| walk_at "subscriptTail Name Name ref int") => `(tactic| k_extra "g25m9")
local macro_rules | `(tactic| walk_at "binaryOp Pow int int") => `(tactic| k_extra "g25m10")
local macro_rules | `(tactic| walk_at "exec Assign cons ListComp") => `(tactic| k_extra "g25m11")
local macro_rules | `(tactic| walk_at "SrcC") => `(tactic| k_extra "g25m12")
local macro_rules | `(tactic| walk_at "forall") => `(tactic| k_extra "g25m13")
local macro_rules | `(tactic| walk_at "binaryOp Mod int int") => `(tactic| k_extra "g25m14")
local macro_rules | `(tactic| walk_at "call builtin:len") => `(tactic| k_extra "g25m15")
local macro_rules | `(tactic| walk_at "binaryOp Add ref ref") => `(tactic| k_extra "g25m16")
local macro_rules | `(tactic| walk_at "TurnF") => `(tactic| k_extra "g25m17")
local macro_rules | `(tactic| walk_at "call builtin:sum") => `(tactic| k_extra "g25m18")
local macro_rules | `(tactic| walk_at "call ref") => `(tactic| k_extra "g25m19")
local macro_rules | `(tactic| mul_fits) => `(tactic| k_extra "g25m20")
local macro_rules | `(tactic| walk_at "call builtin:sorted") => `(tactic| k_extra "g25m21")
local macro_rules | `(tactic| walk_at "eval ListComp") => `(tactic| k_extra "g25m22")
local macro_rules | `(tactic| walk_at "FinE") => `(tactic| k_extra "g25m23")
local macro_rules | `(tactic| walk_at "FinA") => `(tactic| k_extra "g25m24")
theorem t15 {w : World} {loose : List Str} {mean : ExcName → Option Value} {mg mb : Str → Option Value} {dp un : Nat} {gd : Option (List Code)} {fr : List Env} {fa : Addr} {cdv : Value} {base g : Heap} {L : Addr} {h : Heap} {m : Str → Option Value} {gens : Array GenState} {drawn : Drawn} {tk : Nat} {os : OsState} {R : Result → Shared → Prop}
    {lW lA : Addr} {yW yA : List Value} {nW nA : Nat} {o1 o7 : Obj} {rest : List (Addr × Obj)} {ws ps : List Int} {sg : Bool} {n9 : Int} {t9 : Tok}
    (hB : Below (lawTop dp un gd fr) base fr g) (hX : (hd01.heap_39 w.params).In g) (hT : Top Mine.hdq loose mean mg mb g) (hdp : dp + 200 < recursionLimit) (hun : un + 8 * 200 < cLine) (F : Fr g L h (fun z => if z = Str.ofString "steps" then some (.int n9 t9) else if z = Str.ofString "single" then some (.bool sg) else m z)) (N : News g L h (rest)) (c1 : (L + 1, o1) ∈ rest) (c7 : (L + 1 + 1 + 1 + 1 + 1 + 1 + 1, o7) ∈ rest) (d1 : o1.data = .cell (some (.ref lW))) (d7 : o7.data = .cell (some (.ref lA))) (mW : (lW, W.listOf yW.toArray nW) ∈ rest) (mA : (lA, W.listOf yA.toArray nA) ∈ rest) (hW : IntsAre yW ws) (hws : ws.length = 9) (hA : IntsAre yA ps) (hpl : ps.length = 9) (hQ : ∀ h' tk' m', Fr g L h' m' → R (.ok (.ret (.bool true))) ⟨h', gens, drawn, tk', os⟩) (hfin : sg = true → (n9 = 16 ↔ ((ws.getD (Int.toNat 0) 0).fmod 2 = 1 ∧ (ws.getD (Int.toNat 1) 0).fmod 4 = 1 ∧ (ps.getD (Int.toNat 3) 0).fmod 4 = 0 ∧ (ps.getD (Int.toNat 7) 0).fmod 4 = 0))) :
    wpAny (model Challenge.rw_pw0004_01.prog w) ((lawTop dp un gd fr).deeper (envOfC (Str.ofString "law") (lawScope w) L fa cdv)) (execs ((lawBody w).drop 15) (envOfC (Str.ofString "law") (lawScope w) L fa cdv))
      (fun fl s' => CEnd R (match fl with | .ret v => v | _ => .none) s')
      (fun e s' => wpAny (model Challenge.rw_pw0004_01.prog w) ((lawTop dp un gd fr).deeper (envOfC (Str.ofString "law") (lawScope w) L fa cdv)) (leaving (envOfC (Str.ofString "law") (lawScope w) L fa cdv) e) (fun _ s'' => R (.error e) s'') (fun e' s'' => R (.error e') s'') s')
      ⟨h, gens, drawn, tk, os⟩ := by
  revert hX
  k_fill
  intro hX
  unfold lawBody lawScope
  simp only [List.drop]
  (try k_fold)
  k_steps
  all_goals refine ends_true hQ (by k_asm) ?_
  all_goals first
    | exact w_end4 hfin (by assumption) (by assumption) (by assumption) (by assumption)
    | exact w_end3 hfin (by assumption) (by assumption)
    | exact w_end2 hfin (by assumption) (by assumption)
    | exact w_end1 hfin (by assumption) (by assumption)
    | exact w_end0 (by assumption)
theorem st_r0 {kz : List Int} : (0 : Int) = atF kz ([] : List Int).length ∧ (0 : Int) = (([] : List Int).length : Int) ∧ (0 : Int) ≤ 0 ∧ (0 : Int) < 0 + ((16 : Nat) : Int) ∧ ∀ j, 1 ≤ j → j ≤ ([] : List Int).length → atF kz j ≠ 0 :=
  ⟨rfl, rfl, by decide, by decide, fun j h1 h2 => absurd h2 (Nat.not_le.mpr h1)⟩
theorem st_r1 {kz pre : List Int} {a n k : Int} (hcr : ∀ j, j < 16 → 0 ≤ kz.getD j 0 ∧ kz.getD j 0 < 32) (ha : a = atF kz pre.length) (hn : n = (pre.length : Int)) (h0 : 0 ≤ a) (h1 : a < 0 + ((16 : Nat) : Int)) (hall : ∀ j, 1 ≤ j → j ≤ pre.length → atF kz j ≠ 0) (hne : (kz.getD a.toNat 0).fdiv 2 ≠ 0) :
    (kz.getD a.toNat 0).fdiv 2 = atF kz (pre ++ [k]).length ∧ n + 1 = ((pre ++ [k]).length : Int) ∧ 0 ≤ (kz.getD a.toNat 0).fdiv 2 ∧ (kz.getD a.toNat 0).fdiv 2 < 0 + ((16 : Nat) : Int) ∧ ∀ j, 1 ≤ j → j ≤ (pre ++ [k]).length → atF kz j ≠ 0 := by
  have hl : (pre ++ [k]).length = pre.length + 1 := by simp
  have e : (kz.getD a.toNat 0).fdiv 2 = atF kz (pre.length + 1) := by rw [ha]; rfl
  have hb := hcr a.toNat (by omega)
  have hd : (kz.getD a.toNat 0).fdiv 2 = (kz.getD a.toNat 0) / 2 := Int.fdiv_eq_ediv_of_nonneg _ (by decide)
  refine ⟨by rw [hl]; exact e, by rw [hl]; omega, by rw [hd]; omega, by rw [hd]; omega, fun j j1 j2 => ?_⟩
  rw [hl] at j2
  by_cases hj : j = pre.length + 1
  · rw [hj, ← e]; exact hne
  · exact hall j j1 (by omega)
theorem ring_brk {kz pre : List Int} {a n : Int} {sg : Bool} {P : Prop} (hring : sg = true → ((∀ j, 1 ≤ j → j ≤ 15 → atF kz j ≠ 0) ↔ P)) (ha : a = atF kz pre.length) (hn : n = (pre.length : Int)) (hall : ∀ j, 1 ≤ j → j ≤ pre.length → atF kz j ≠ 0) (hz : (kz.getD a.toNat 0).fdiv 2 = 0) (hlt : pre.length < 16) :
    sg = true → (n + 1 = 16 ↔ P) := fun hs => by
  rw [← hring hs]
  have e : atF kz (pre.length + 1) = 0 := by rw [← hz, ha]; rfl
  refine ⟨fun h j j1 j2 => hall j j1 (by omega), fun h => ?_⟩
  have : ¬ pre.length + 1 ≤ 15 := fun q => h _ (by omega) q e
  omega
theorem ring_done {kz pre : List Int} {n : Int} {sg : Bool} {P : Prop} (hring : sg = true → ((∀ j, 1 ≤ j → j ≤ 15 → atF kz j ≠ 0) ↔ P)) (hn : n = (pre.length : Int)) (hall : ∀ j, 1 ≤ j → j ≤ pre.length → atF kz j ≠ 0) (hl : pre.length = 16) : sg = true → (n = 16 ↔ P) := fun hs => by
  rw [← hring hs]
  exact ⟨fun _ j j1 j2 => hall j j1 (by omega), fun _ => by omega⟩
theorem sort_no {ns' kz : List Int} {sg : Bool} (hsort : ∀ ns' : List Int, ns'.Perm kz → ns'.Pairwise (· ≤ ·) → decide (ns' = (rangeKs 0 16).map (fun k => 2 * k)) = sg) (hp : ns'.Perm kz) (hs : ns'.Pairwise (· ≤ ·)) (h : (decide (ns' = (rangeKs 0 16).map (fun k => 2 * k)) != sg) = true) {P : Prop} : P := by
  rw [hsort ns' hp hs] at h
  simp at h
theorem ly24 : True := by
  k_with "g25x1r0" => (
    (k_here; (with_reducible show wpAny _ _ (execs [Stmt.Assign _ _ _, Stmt.Return _ _] _) _ _ _); k_dflt (refine' t15 ?hB ?hX ?hT ?hdp ?hun ?F ?N ?c1 ?c7 ?d1 ?d7 ?mW ?mA ?hW ?hws ?hA ?hpl ?hQ ?hfin; (case hB => k_asm); (case hX => k_asm); (case hT => k_asm); (case hdp => assumption); (case hun => assumption); (case F => exact Fr_two (by k_asm) (by exact rfl) (by exact rfl)); (case N => k_asm); (case c1 => exact of_mem (by k_mem)); (case c7 => exact of_mem (by k_mem)); (case d1 => assumption); (case d7 => assumption); (case mW => exact of_mem (by k_mem)); (case mA => exact of_mem (by k_mem)); (case hW => assumption); (case hws => assumption); (case hA => assumption); (case hpl => assumption); (case hQ => assumption); (case hfin => first | exact ring_brk (by assumption) (by assumption) (by assumption) (by assumption) (by assumption) (by assumption) | exact ring_done (by assumption) (by assumption) (by assumption) (by exact rangeKs_length _ _)))))
  exact True.intro
local macro_rules | `(tactic| walk_at "execs cons Assign cons") => `(tactic| k_extra "g25x1r0")
theorem t12 {w : World} {loose : List Str} {mean : ExcName → Option Value} {mg mb : Str → Option Value} {dp un : Nat} {gd : Option (List Code)} {fr : List Env} {fa : Addr} {cdv : Value} {base g : Heap} {L : Addr} {h : Heap} {m : Str → Option Value} {gens : Array GenState} {drawn : Drawn} {tk : Nat} {os : OsState} {R : Result → Shared → Prop}
    {lW lA lK : Addr} {yW yA yK : List Value} {nW nA nK : Nat} {o1 o7 : Obj} {rest : List (Addr × Obj)} {ws ps kz : List Int} {sg : Bool}
    (hB : Below (lawTop dp un gd fr) base fr g) (hX : (hd01.heap_39 w.params).In g) (hT : Top Mine.hdq loose mean mg mb g) (hdp : dp + 200 < recursionLimit) (hun : un + 8 * 200 < cLine) (F : Fr g L h (fun z => if z = Str.ofString "controls" then some (.ref lK) else if z = Str.ofString "single" then some (.bool sg) else m z)) (N : News g L h (rest)) (c1 : (L + 1, o1) ∈ rest) (c7 : (L + 1 + 1 + 1 + 1 + 1 + 1 + 1, o7) ∈ rest) (d1 : o1.data = .cell (some (.ref lW))) (d7 : o7.data = .cell (some (.ref lA))) (mW : (lW, W.listOf yW.toArray nW) ∈ rest) (mA : (lA, W.listOf yA.toArray nA) ∈ rest) (mK : (lK, W.listOf yK.toArray nK) ∈ rest) (hW : IntsAre yW ws) (hws : ws.length = 9) (hA : IntsAre yA ps) (hpl : ps.length = 9) (hK : IntsAre yK kz) (hcl : kz.length = 16) (hcr : ∀ j, j < 16 → 0 ≤ kz.getD j 0 ∧ kz.getD j 0 < 32) (hQ : ∀ h' tk' m', Fr g L h' m' → R (.ok (.ret (.bool true))) ⟨h', gens, drawn, tk', os⟩) (hsort : ∀ ns' : List Int, ns'.Perm kz → ns'.Pairwise (· ≤ ·) → decide (ns' = (rangeKs 0 16).map (fun k => 2 * k)) = sg) (hring : sg = true → ((∀ j, 1 ≤ j → j ≤ 15 → atF kz j ≠ 0) ↔ ((ws.getD (Int.toNat 0) 0).fmod 2 = 1 ∧ (ws.getD (Int.toNat 1) 0).fmod 4 = 1 ∧ (ps.getD (Int.toNat 3) 0).fmod 4 = 0 ∧ (ps.getD (Int.toNat 7) 0).fmod 4 = 0))) :
    wpAny (model Challenge.rw_pw0004_01.prog w) ((lawTop dp un gd fr).deeper (envOfC (Str.ofString "law") (lawScope w) L fa cdv)) (execs ((lawBody w).drop 12) (envOfC (Str.ofString "law") (lawScope w) L fa cdv))
      (fun fl s' => CEnd R (match fl with | .ret v => v | _ => .none) s')
      (fun e s' => wpAny (model Challenge.rw_pw0004_01.prog w) ((lawTop dp un gd fr).deeper (envOfC (Str.ofString "law") (lawScope w) L fa cdv)) (leaving (envOfC (Str.ofString "law") (lawScope w) L fa cdv) e) (fun _ s'' => R (.error e) s'') (fun e' s'' => R (.error e') s'') s')
      ⟨h, gens, drawn, tk, os⟩ := by
  replace N : News g L h [(lK, W.listOf yK.toArray nK), (lA, W.listOf yA.toArray nA), (lW, W.listOf yW.toArray nW), (L + 1 + 1 + 1 + 1 + 1 + 1 + 1, o7), (L + 1, o1)] := kst_newsOf N (sub_cons mK (sub_cons mA (sub_cons mW (sub_cons c7 (sub_cons c1 (List.forall_mem_nil _))))))
  clear mK mA mW c7 c1
  revert hX
  k_fill
  intro hX
  unfold lawBody lawScope
  simp only [List.drop]
  (try k_fold)
  k_with "pyIter ref" => k_state_given ["controls"] (fun cs pre a9 n9 => a9 = atF cs pre.length ∧ n9 = (pre.length : Int) ∧ 0 ≤ a9 ∧ a9 < 0 + ((16 : Nat) : Int) ∧ ∀ j, 1 ≤ j → j ≤ pre.length → atF cs j ≠ 0) "at" "steps"
  k_with "state" => (first | exact st_r0 | exact st_r1 hcr (by assumption) (by assumption) (by assumption) (by assumption) (by assumption) (by assumption))
  k_steps
  all_goals exact sort_no hsort (by assumption) (by assumption) (by assumption)
theorem ly25 : True := by
  k_with_none
  w_top off
  k_with "hd0" => (
    ktr_room)
  k_with "hd1" => (
    first
  | (refine' in_plain ?k1 ?k2 ?k4 ?k3 ?k5 ?kA ?kF ?kK ?k6 ?k7 ?k8 ?k9 ?kB ?_ ?c2 ?c3 ?c4 ?c5; (case kA => exact rfl); (case kF => exact rfl); (case kK => assumption); (case k1 => k_asm); (case k2 => k_asm); (case k3 => k_asm); (case k4 => assumption); (case k5 => k_asm); (case k6 => k_is); (case k7 => k_is); (case k8 => ktr_room); (case k9 => exact BindsTo.of_eq rfl); (case c5 => decide); (case kB => exact locs rfl); (case c2 => exact rfl); (case c3 => exact rfl); (case c4 => exact rfl); k_whole; intro g' L' h' hHid hSt F' N' B' X' T' l1; (try k_lt l1); (try dsimp only); (try k_lift B'); (try k_fold))
  | (refine' in_cells ?k1 ?k2 ?k4 ?k3 ?k5 ?kA ?kF ?kK ?k6 ?k7 ?k8 ?k9 ?kB ?kD ?_ ?c2 ?c3 ?c4; (case kA => exact rfl); (case kF => exact rfl); (case kK => assumption); (case k1 => k_asm); (case k2 => k_asm); (case k3 => k_asm); (case k4 => assumption); (case k5 => k_asm); (case k6 => k_is); (case k7 => k_is); (case k8 => ktr_room); (case k9 => exact BindsTo.of_eq rfl); (case kB => exact rfl); (case kD => decide +kernel); (case c2 => exact rfl); (case c3 => exact rfl); (case c4 => exact rfl); k_whole; intro g' L' h' tk' cells' hHid hSt F' N' Y' B' X' T' l1; (try k_lt l1); k_cells Y'; (try simp only [List.cons_append, List.nil_append] at N'); (try dsimp only); (try k_lift B'); (try k_fold)))
  k_with "hd2" => (
    (refine mem_of ?_; with_reducible assumption))
  k_with "hd3" => (
    first | with_reducible assumption | exact all_lt_ne (by with_reducible assumption) | (refine' all_ne_cons ?a ?b; (case a => k_ne); (case b => k_all)))
  k_with "hd4" => (
    first | with_reducible assumption | exact ne_of_ne' (by with_reducible assumption) | (refine' ne_off ?h ?m; (case h => with_reducible assumption); (case m => k_mem)) | (refine' ne_off' ?h ?m; (case h => with_reducible assumption); (case m => k_mem)) | (refine' ne_offlt ?h ?m; (case h => with_reducible assumption); (case m => k_mem)) | (refine' ne_offlt' ?h ?m; (case h => with_reducible assumption); (case m => k_mem)) | (refine neN ?_; dsimp only; first | with_reducible assumption | exact ne_of_ne' (by with_reducible assumption) | (refine' ne_off ?h ?m; (case h => with_reducible assumption); (case m => k_mem)) | (refine' ne_off' ?h ?m; (case h => with_reducible assumption); (case m => k_mem)) | (refine' ne_offlt ?h ?m; (case h => with_reducible assumption); (case m => k_mem)) | (refine' ne_offlt' ?h ?m; (case h => with_reducible assumption); (case m => k_mem)) | omega) | (refine neN ?_; omega))
  k_with "g25m0" => (
    (k_here; (with_reducible show wpAny _ _ (exec (Stmt.Assign [Expr.Name _ _] (Expr.ListComp _ [⟨Expr.Name _ _, _, [_], 0⟩] _ _) _) _) _ _ _); k_dflt (refine' Assign_F ?F ?Le ?hS ?sw ?cl ?ce ?ki ?na ?hx ?hy ?hp ?_; (case F => k_asm); (case Le => exact rfl); (case hS => with_reducible assumption); (case sw => with_unfolding_all rfl); (case cl => with_unfolding_all rfl); (case ce => decide); (case ki => exact rfl); (case na => decide); (case hx => exact rfl); (case hy => exact rfl); (case hp => exact rfl); (try dsimp only))))
  k_with "g25m1" => (
    (k_here; (with_reducible show wpAny _ _ (eval (Expr.ListComp _ [⟨Expr.Name _ _, _, [_], 0⟩] _ _) _) _ _ _); k_dflt (refine' ListComp_F ?F ?hS ?cl ?ce ?ki ?na ?hx ?_; (case F => k_asm); (case hS => with_reducible assumption); (case cl => with_unfolding_all rfl); (case ce => decide); (case ki => exact rfl); (case na => decide); (case hx => exact rfl); (try dsimp only))))
  k_with "g25m2" => (
    (k_here; k_dflt (refine' SrcF.range ?h0 ?h1 ?h2 ?h3 ?h4 ?h5 ?h6 ?_ ?_ ?_; (case h0 => exact rfl); (case h1 => k_asm); (case h2 => k_asm); (case h3 => assumption); (case h4 => first | decide | rfl); (case h5 => first | rfl | decide); (case h6 => decide))))
  k_with "g25m3" => (
    ((with_reducible show ∀ _ : Heap, TestsF _ _ _ _ _ _ _ _ _ _ _ _ _ _ _ _); unfold TestsF; intro g' k' t' I' oI' C' oC' D' m' ys' h' tk' E' hlo' hhi' hC' hx' F' N' off' ne'; (try dsimp only); (try k_fold)))
  k_with "g25m4" => (
    ((with_reducible show ∀ _ : Heap, EltsF _ _ _ _ _ _ _ _ _ _ _ _ _ _ _ _ _); unfold EltsF; intro g' k' t' I' oI' C' oC' D' m' ys' h' tk' E' hlo' hhi' hc' hC' hx' F' N' off' ne'; (try dsimp only); (try k_fold)))
  k_with "g25m5" => (
    ((with_reducible show ∀ (_ : Addr) (_ : List Value) (_ : Heap) (_ : Nat), Fr _ _ _ _ → News _ _ _ _ → LCg.Off1 _ _ → IntsAre _ _ → _); intro D' ys' h' tk' F' N' l1 hI'; (replace l1 := raw1 l1); (try dsimp only)))
  k_with "g25m6" => (
    (k_dflt (refine' TurnF.intro ?k1 ?k2 ?k3 ?_; (case k1 => k_asm); (case k2 => k_asm); (case k3 => first | exact fun _ h => h | kcf_all)); first | exact rfl | exact ⟨_, rfl⟩))
  k_with "g25m7" => (
    (k_here; (with_reducible refine mod_pow (by assumption) (by assumption) (by decide) ?_)))
  k_with "g25m8" => (
    (k_here; (with_reducible refine div_pow (by assumption) (by assumption) (by decide) ?_)))
  k_with "g25m9" => (
    (k_here; k_dflt (refine' item_up ?k1 ?k2 ?k3 ?kh ?kk ?ka ?kl ?_ ?k7; (case k1 => k_asm); (case k2 => k_mem); (case k3 => assumption); (case kh => assumption); (case kk => assumption); (case ka => decide); (case kl => (first | decide | exact le_nine (by assumption) (by decide) | exact le_sixteen (by assumption) (by decide))); (case k7 => with_unfolding_all rfl); intro t')))
  k_with "g25m10" => (
    (k_here; (with_reducible refine pow2_up (by assumption) (by assumption) (by decide) ?_)))
  k_with "g25m11" => (
    (k_here; (with_reducible show wpAny _ _ (exec (Stmt.Assign [Expr.Name _ _] (Expr.ListComp _ [⟨Expr.Name _ _, Expr.Name _ _, [], 0⟩] _ _) _) _) _ _ _); k_dflt (refine' Assign_C ?F ?Le ?hS ?sw ?cl ?ce ?h0 ?ki ?na ?hy ?hp ?_; (case hS => with_reducible assumption); (case F => k_asm); (case Le => exact rfl); (case sw => with_unfolding_all rfl); (case cl => with_unfolding_all rfl); (case ce => exact rfl); (case h0 => decide +kernel); (case ki => exact rfl); (case na => decide); (case hy => exact rfl); (case hp => exact rfl); (try dsimp only))))
  k_with "g25m12" => (
    (k_here; k_dflt (refine' SrcC.intro ?h0 ?h1 ?h2 ?h3 ?h4 ?h5 ?_ ?_; (case h0 => exact rfl); (case h1 => k_asm); (case h2 => k_asm); (case h3 => k_mem); (case h4 => assumption); (case h5 => exact filt_len (by decide)))))
  k_with "g25m13" => (
    ((with_reducible show ∀ _ : Heap, EltsC _ _ _ _ _ _ _ _ _ _ _ _ _ _ _); unfold EltsC; intro g' k' t' I' oI' C' oC' D' c' oc' ys' h' tk' E' hk' d' hC' F' N' off' ne'; (have s9 : SpecF (Str.ofString "i") (fun i => (k').fmod (2 ^ i.toNat) == 0) (fun i => i) := ⟨trivial⟩); (try dsimp only); (try k_fold)))
  k_with "g25m14" => (
    (k_here; with_reducible refine mod_two ?_))
  k_with "g25m15" => (
    (k_here; k_dflt (refine' len_ints ?k1 ?k2 ?k3 ?k4 ?_; (case k1 => k_asm); (case k2 => k_mem); (case k3 => assumption); (case k4 => exact filt_len (by decide)); intro t' tk'; (try dsimp only))))
  k_with "g25m16" => (
    (k_here; k_dflt (refine' add_lists9 (ys := [_]) ?k1 ?k2 ?k3 ?k4 ?k5 ?k6 ?k7 ?k8 ?_; (case k1 => k_asm); (case k2 => k_asm); (case k3 => k_mem); (case k4 => k_mem); (case k5 => exact IntsAre.cons _ _ .nil); (case k6 => assumption); (case k7 => decide); (case k8 => exact filt_len (by decide)); intro D' us' h' F' N' l1 hI'; (try k_lt l1); (try dsimp only))))
  k_with "g25m17" => (
    (k_dflt (refine' TurnF.intro ?k1 ?k2 ?k3 ?_; (case k1 => k_asm); (case k2 => k_asm); (case k3 => first | exact fun _ h => h | kcf_all)); first | exact rfl | exact ⟨_, rfl⟩ | exact and5 (by assumption) (by assumption) | exact and6 (by assumption) (by assumption) | exact and_yes (by assumption) | exact and_no (by assumption) | exact and_yes' (by assumption) | exact and_no' (by assumption)))
  k_with "g25m18" => (
    (k_here; k_dflt (refine' sumK (by exact rfl) ?k1 ?k2 ?k3 ?k4 ?_; (case k1 => k_asm); (case k2 => k_asm); (case k3 => exact ⟨_, (News.get (by k_asm) (by k_mem)), rfl, _, rfl⟩); (case k4 => assumption); intro h' tk' t' F' N'; (try dsimp only))))
  k_with "g25m19" => (
    (k_here; (with_reducible show wpAny _ _ (call (Value.ref 42) [_] _) _ _ _); k_dflt (first
  | refine' use_int (c_ctrl_int _ _ _) ?k1 ?k2 ?k3 ?k4 ?k5 ?k6 ?k7 ?k8 ?k9 ?kp ?_
  | refine' use_str (c_ctrl_chr _ _ _) ?k1 ?k2 ?k3 ?k4 ?k5 ?k6 ?k7 ?k8 ?k9 ?kp ?_); k_dflt ((case k1 => k_asm); (case k2 => k_asm); (case k3 => k_asm); (case k4 => k_asm); (case k5 => k_asm); (case k6 => first | exact rfl | assumption); (case k7 => ktr_room); (case k8 => ktr_units); (case k9 => (intro _ h9; cases h9)); (case kp => trivial); intro t' h' tk' F' N'; (try dsimp only); (try k_fold))))
  k_with "g25m20" => (
    exact mul2_ok)
  k_with "g25m21" => (
    (k_here; k_dflt (refine' sort_cs ?k1 ?k2 ?k3 ?k4 ?k5 ?_; (case k1 => k_asm); (case k2 => k_asm); (case k3 => k_mem); (case k4 => assumption); (case k5 => assumption); intro D' vs' ns' e' h' F' N' l1 hI' hp' hs'; (try k_lt l1); (try dsimp only))))
  k_with "g25m22" => (
    (k_here; (with_reducible show wpAny _ _ (eval (Expr.ListComp (Expr.BinOp (Expr.Constant _ _ _) _ _ _) [⟨Expr.Name _ _, _, [], 0⟩] _ _) _) _ _ _); k_dflt (refine LCg.ListComp_U (F₀ := by k_asm) (by with_unfolding_all rfl) (by decide) (by rfl) (by decide) (by rfl) ?_)))
  k_with "g25m23" => (
    ((unfold LCg.FinE); intro D' h' tk' F' N' o1'; (replace o1' := raw1 o1'); (try simp only [List.nil_append, List.cons_append] at N'); (try dsimp only)))
  k_with "g25m24" => (
    ((unfold LCg.FinA); intro D' h' tk' F' N' o1'; (replace o1' := raw1 o1'); (try simp only [List.nil_append, List.cons_append] at N'); (try dsimp only)))
  k_with "g25x1r0" => (
    (k_here; (with_reducible show wpAny _ _ (execs [Stmt.Assign _ _ _, Stmt.Return _ _] _) _ _ _); k_dflt (refine' t15 ?hB ?hX ?hT ?hdp ?hun ?F ?N ?c1 ?c7 ?d1 ?d7 ?mW ?mA ?hW ?hws ?hA ?hpl ?hQ ?hfin; (case hB => k_asm); (case hX => k_asm); (case hT => k_asm); (case hdp => assumption); (case hun => assumption); (case F => exact Fr_two (by k_asm) (by exact rfl) (by exact rfl)); (case N => k_asm); (case c1 => exact of_mem (by k_mem)); (case c7 => exact of_mem (by k_mem)); (case d1 => assumption); (case d7 => assumption); (case mW => exact of_mem (by k_mem)); (case mA => exact of_mem (by k_mem)); (case hW => assumption); (case hws => assumption); (case hA => assumption); (case hpl => assumption); (case hQ => assumption); (case hfin => first | exact ring_brk (by assumption) (by assumption) (by assumption) (by assumption) (by assumption) (by assumption) | exact ring_done (by assumption) (by assumption) (by assumption) (by exact rangeKs_length _ _)))))
  exact True.intro
theorem ly26 : True := by
  k_with "g25x3r0" => (
    (k_here; (with_reducible show wpAny _ _ (execs [Stmt.If _ _ _ _, Stmt.Assign _ _ _, Stmt.For _ _ _ _ _, Stmt.Assign _ _ _, Stmt.Return _ _] _) _ _ _); k_dflt (refine' t12 ?hB ?hX ?hT ?hdp ?hun ?F ?N ?c1 ?c7 ?d1 ?d7 ?mW ?mA ?mK ?hW ?hws ?hA ?hpl ?hK ?hcl ?hcr ?hQ ?hsort ?hring; (case hB => k_asm); (case hX => k_asm); (case hT => k_asm); (case hdp => assumption); (case hun => assumption); (case F => exact Fr_two (by k_asm) (by exact rfl) (by exact rfl)); (case N => k_asm); (case c1 => exact of_mem (by k_mem)); (case c7 => exact of_mem (by k_mem)); (case d1 => assumption); (case d7 => assumption); (case mW => exact of_mem (by k_mem)); (case mA => exact of_mem (by k_mem)); (case mK => exact of_mem (by k_mem)); (case hW => assumption); (case hws => assumption); (case hA => assumption); (case hpl => assumption); (case hK => assumption); (case hcl => exact kz_len); (case hcr => exact kz_range); (case hQ => assumption); (case hsort => first | exact law_sort0 (by assumption) (by assumption) (by assumption) (by assumption) (by assumption) | exact law_sort1 (by assumption) (by assumption) (by assumption) (by assumption) (by assumption) ); (case hring => first | exact law_ring (by assumption) (by assumption) (by assumption) (by assumption) (by assumption) | exact ring0 (by assumption)))))
  exact True.intro
local macro_rules | `(tactic| walk_at "execs cons If cons") => `(tactic| k_extra "g25x3r0")
theorem t10 {w : World} {loose : List Str} {mean : ExcName → Option Value} {mg mb : Str → Option Value} {dp un : Nat} {gd : Option (List Code)} {fr : List Env} {fa : Addr} {cdv : Value} {base g : Heap} {L : Addr} {h : Heap} {m : Str → Option Value} {gens : Array GenState} {drawn : Drawn} {tk : Nat} {os : OsState} {R : Result → Shared → Prop}
    {lW lR lA : Addr} {yW yR yA : List Value} {nW nR nA : Nat} {o1 o2 o7 : Obj} {rest : List (Addr × Obj)} {ws row ps : List Int}
    (hB : Below (lawTop dp un gd fr) base fr g) (hX : (hd01.heap_39 w.params).In g) (hT : Top Mine.hdq loose mean mg mb g) (hdp : dp + 200 < recursionLimit) (hun : un + 8 * 200 < cLine) (F : Fr g L h m) (N : News g L h (rest)) (c1 : (L + 1, o1) ∈ rest) (c2 : (L + 1 + 1, o2) ∈ rest) (c7 : (L + 1 + 1 + 1 + 1 + 1 + 1 + 1, o7) ∈ rest) (d1 : o1.data = .cell (some (.ref lW))) (d2 : o2.data = .cell (some (.ref lR))) (d7 : o7.data = .cell (some (.ref lA))) (mW : (lW, W.listOf yW.toArray nW) ∈ rest) (mR : (lR, W.listOf yR.toArray nR) ∈ rest) (mA : (lA, W.listOf yA.toArray nA) ∈ rest) (hW : IntsAre yW ws) (hws : ws.length = 9) (hR : IntsAre yR row) (hrw : row = rowOf ws) (hA : IntsAre yA ps) (hps : ps = PS ws) (hnf : NoF ws) (hQ : ∀ h' tk' m', Fr g L h' m' → R (.ok (.ret (.bool true))) ⟨h', gens, drawn, tk', os⟩) :
    wpAny (model Challenge.rw_pw0004_01.prog w) ((lawTop dp un gd fr).deeper (envOfC (Str.ofString "law") (lawScope w) L fa cdv)) (execs ((lawBody w).drop 10) (envOfC (Str.ofString "law") (lawScope w) L fa cdv))
      (fun fl s' => CEnd R (match fl with | .ret v => v | _ => .none) s')
      (fun e s' => wpAny (model Challenge.rw_pw0004_01.prog w) ((lawTop dp un gd fr).deeper (envOfC (Str.ofString "law") (lawScope w) L fa cdv)) (leaving (envOfC (Str.ofString "law") (lawScope w) L fa cdv) e) (fun _ s'' => R (.error e) s'') (fun e' s'' => R (.error e') s'') s')
      ⟨h, gens, drawn, tk, os⟩ := by
  revert hX
  k_fill
  intro hX
  unfold lawBody lawScope
  simp only [List.drop]
  (try k_fold)
  have hrow : row.length = 16 := by rw [hrw]; rfl
  have hpl : ps.length = 9 := by rw [hps, List.length_map, rangeKs_length]
  have s1 : SpecF (Str.ofString "k") (fun k => (ps.getD k.toNat 0).fmod 2 == 1) (fun k => k) := ⟨trivial⟩
  k_steps
theorem t9 {w : World} {loose : List Str} {mean : ExcName → Option Value} {mg mb : Str → Option Value} {dp un : Nat} {gd : Option (List Code)} {fr : List Env} {fa : Addr} {cdv : Value} {base g : Heap} {L : Addr} {h : Heap} {m : Str → Option Value} {gens : Array GenState} {drawn : Drawn} {tk : Nat} {os : OsState} {R : Result → Shared → Prop}
    {lW lR lP lC lD lA : Addr} {yW yR yP yC yD yA : List Value} {nW nR nP nC nD nA : Nat} {o1 o2 o3 o4 o5 o6 o7 o8 : Obj} {v6 v8 : Option Value} {rest : List (Addr × Obj)} {ws row ps ds : List Int}
    (hB : Below (lawTop dp un gd fr) base fr g) (hX : (hd01.heap_39 w.params).In g) (hT : Top Mine.hdq loose mean mg mb g) (hdp : dp + 200 < recursionLimit) (hun : un + 8 * 200 < cLine) (F : Fr g L h m) (N : News g L h ((L + 1 + 1 + 1 + 1 + 1 + 1 + 1 + 1, o8) :: (L + 1 + 1 + 1 + 1 + 1 + 1, o6) :: rest)) (off8 : ∀ p ∈ rest, p.1 ≠ L + 1 + 1 + 1 + 1 + 1 + 1 + 1 + 1) (off6 : ∀ p ∈ rest, p.1 ≠ L + 1 + 1 + 1 + 1 + 1 + 1) (c1 : (L + 1, o1) ∈ rest) (c2 : (L + 1 + 1, o2) ∈ rest) (c3 : (L + 1 + 1 + 1, o3) ∈ rest) (c4 : (L + 1 + 1 + 1 + 1, o4) ∈ rest) (c5 : (L + 1 + 1 + 1 + 1 + 1, o5) ∈ rest) (c7 : (L + 1 + 1 + 1 + 1 + 1 + 1 + 1, o7) ∈ rest) (d1 : o1.data = .cell (some (.ref lW))) (d2 : o2.data = .cell (some (.ref lR))) (d3 : o3.data = .cell (some (.ref lP))) (d4 : o4.data = .cell (some (.ref lC))) (d5 : o5.data = .cell (some (.ref lD))) (d6 : o6.data = .cell v6) (d7 : o7.data = .cell (some (.ref lA))) (d8 : o8.data = .cell v8) (mW : (lW, W.listOf yW.toArray nW) ∈ rest) (mR : (lR, W.listOf yR.toArray nR) ∈ rest) (mP : (lP, W.listOf yP.toArray nP) ∈ rest) (mC : (lC, W.listOf yC.toArray nC) ∈ rest) (mD : (lD, W.listOf yD.toArray nD) ∈ rest) (mA : (lA, W.listOf yA.toArray nA) ∈ rest) (hW : IntsAre yW ws) (hws : ws.length = 9) (hR : IntsAre yR row) (hrw : row = rowOf ws) (hA : IntsAre yA ps) (hps : ps = PS ws) (hnf : NoF ws) (hP : IntsAre yP pows) (hC : IntsAre yC plc) (hD : IntsAre yD ds) (hds : ds = 0 :: (rangeKs 1 15).map (depthF row)) (hQ : ∀ h' tk' m', Fr g L h' m' → R (.ok (.ret (.bool true))) ⟨h', gens, drawn, tk', os⟩) :
    wpAny (model Challenge.rw_pw0004_01.prog w) ((lawTop dp un gd fr).deeper (envOfC (Str.ofString "law") (lawScope w) L fa cdv)) (execs ((lawBody w).drop 9) (envOfC (Str.ofString "law") (lawScope w) L fa cdv))
      (fun fl s' => CEnd R (match fl with | .ret v => v | _ => .none) s')
      (fun e s' => wpAny (model Challenge.rw_pw0004_01.prog w) ((lawTop dp un gd fr).deeper (envOfC (Str.ofString "law") (lawScope w) L fa cdv)) (leaving (envOfC (Str.ofString "law") (lawScope w) L fa cdv) e) (fun _ s'' => R (.error e) s'') (fun e' s'' => R (.error e') s'') s')
      ⟨h, gens, drawn, tk, os⟩ := by
  have q68 : @Ne Nat (L + 1 + 1 + 1 + 1 + 1 + 1) (L + 1 + 1 + 1 + 1 + 1 + 1 + 1 + 1) := cell_ne 1
  revert hX
  k_fill
  intro hX
  unfold lawBody lawScope
  simp only [List.drop]
  (try k_fold)
  have hrow : row.length = 16 := by rw [hrw]; rfl
  have hpl : ps.length = 9 := by rw [hps, List.length_map, rangeKs_length]
  have hdl : ds.length = 16 := by rw [hds]; rfl
  walk1
  refine For_turns (by k_asm) ?_ (by intro _; rfl) (by passes_own)
  k_steps
  refine range_turns (n := 15) (J := fun _ _ news₁ => ∃ oy ox vy vx, oy.data = Data.cell vy ∧ ox.data = Data.cell vx ∧ news₁ = (L + 1 + 1 + 1 + 1 + 1 + 1 + 1 + 1, ox) :: (L + 1 + 1 + 1 + 1 + 1 + 1, oy) :: rest) rfl (by assumption) (by decide) (by decide) (by k_asm) (by k_asm) ⟨_, _, _, _, d6, d8, rfl⟩ (by intro _; rfl) ?turn ?done
  case turn =>
    intro i t m₁ news₁ h' tk' I' oI' hi hJ F' N' hoff
    obtain ⟨oy, ox, vy, vx, dy, dx, rfl⟩ := hJ
    have hb1 : (1 : Int) ≤ 1 + (i : Int) := by omega
    have hb2 : 1 + (i : Int) < 1 + ((15 : Nat) : Int) := by omega
    generalize 1 + (i : Int) = y at *
    have s1 : SpecF (Str.ofString "met") (fun k => decide (pows.getD k.toNat 0 ≤ pows.getD y.toNat 0) && (Builtin.bitAnd (k - pows.getD k.toNat 0) (y - pows.getD y.toNat 0) == k - pows.getD k.toNat 0)) (fun k => ps.getD k.toNat 0) := ⟨trivial⟩
    refine wpAny_assign_Name ?_
    (try k_fold)
    have hlaw := law_met hrw hws hps hds hnf hb1 hb2
    k_steps
    all_goals first
      | exact absurd hlaw (by assumption)
      | (refine' turnJ_next (news' := (L + 1 + 1 + 1 + 1 + 1 + 1 + 1 + 1, ?ox) :: (L + 1 + 1 + 1 + 1 + 1 + 1, ?oy) :: rest) ?F ?N ?sub ?off ⟨?oy, ?ox, ?vy, ?vx, ?dy, ?dx, rfl⟩; (case F => k_asm); (case N => k_asm); (case sub => exact sub_cons (by k_mem) (sub_cons (by k_mem) (sub_cons (by k_mem) (by (intro p9 hp9; repeat' (first | exact hp9 | refine List.mem_cons_of_mem _ ?_)))))); (case off => exact all_ne_cons (by k_ne) (all_ne_cons (by k_ne) (off_tail (off_tail hoff)))); (case dy => assumption); (case dx => assumption))
  case done =>
    intro m' news' h' tk' hJ F' N'
    obtain ⟨oy, ox, vy, vx, dy, dx, rfl⟩ := hJ
    (refine' t10 ?hB ?hX ?hT ?hdp ?hun ?F ?N ?c1 ?c2 ?c7 ?d1 ?d2 ?d7 ?mW ?mR ?mA ?hW ?hws ?hR ?hrw ?hA ?hps ?hnf ?hQ; (case hB => k_asm); (case hX => k_asm); (case hT => k_asm); (case hdp => assumption); (case hun => assumption); (case F => k_asm); (case N => k_asm); (case c1 => exact of_mem (by k_mem)); (case c2 => exact of_mem (by k_mem)); (case c7 => exact of_mem (by k_mem)); (case d1 => assumption); (case d2 => assumption); (case d7 => assumption); (case mW => exact of_mem (by k_mem)); (case mR => exact of_mem (by k_mem)); (case mA => exact of_mem (by k_mem)); (case hW => assumption); (case hws => assumption); (case hR => assumption); (case hrw => assumption); (case hA => assumption); (case hps => assumption); (case hnf => assumption); (case hQ => assumption))
theorem min_ne {prog : Program} {w : World} {A : Around} {E : Value → Shared → Prop} {s : Shared} {h₀ : Heap} {L l : Addr} {m : Str → Option Value} {full : List (Addr × Obj)} {ys : List Value} {xs : List Int} {f : Int → Int} {n : Nat} {Q : Value → Shared → Prop}
    (hh : A.handled = none) (F : Fr h₀ L s.heap m) (N : News h₀ L s.heap full) (hm : (l, W.listOf ys.toArray n) ∈ full) (hi : IntsAre ys (xs.map f)) (hne : decide (xs = []) = false)
    (h : ∀ h' M (t : Tok) tk, Fr h₀ L h' m → News h₀ L h' full → M ∈ xs.map f → (∀ a, a ∈ xs.map f → M ≤ a) → Q (.int M t) { s with heap := h', toks := tk }) : wpAny (model prog w) A (call (.builtin "min") [.ref l]) Q E s :=
  min_list_N hh F N ⟨_, (N _ hm).1, rfl, n, rfl⟩ hi (by rw [List.length_map]; exact List.length_pos_iff.mpr (of_decide_eq_false hne)) h
theorem ly27 : True := by
  k_with "g25x5r0" => (
    (k_here; k_dflt (refine' min_ne ?k0 ?k1 ?k2 ?k3 ?k4 ?k5 ?_; (case k0 => exact rfl); (case k1 => k_asm); (case k2 => k_asm); (case k3 => k_mem); (case k4 => assumption); (case k5 => assumption); intro h' M' t' tk' F' N' hM' hm'; (try dsimp only))))
  k_with "g25x5r1" => (
    (k_here; (with_reducible show wpAny _ _ (execs (Stmt.For _ _ _ _ _ :: Stmt.Assign _ _ _ :: _) _) _ _ _); k_dflt (refine' t9 ?hB ?hX ?hT ?hdp ?hun ?F ?N ?off8 ?off6 ?c1 ?c2 ?c3 ?c4 ?c5 ?c7 ?d1 ?d2 ?d3 ?d4 ?d5 ?d6 ?d7 ?d8 ?mW ?mR ?mP ?mC ?mD ?mA ?hW ?hws ?hR ?hrw ?hA ?hps ?hnf ?hP ?hC ?hD ?hds ?hQ; (case hB => k_asm); (case hX => k_asm); (case hT => k_asm); (case hdp => assumption); (case hun => assumption); (case F => k_asm); (case N => exact news_par (by k_asm)); (case off8 => k_all); (case off6 => k_all); (case c1 => exact of_mem (by k_mem)); (case c2 => exact of_mem (by k_mem)); (case c3 => exact of_mem (by k_mem)); (case c4 => exact of_mem (by k_mem)); (case c5 => exact of_mem (by k_mem)); (case c7 => exact of_mem (by k_mem)); (case d1 => assumption); (case d2 => assumption); (case d3 => assumption); (case d4 => assumption); (case d5 => assumption); (case d6 => assumption); (case d7 => assumption); (case d8 => assumption); (case mW => exact of_mem (by k_mem)); (case mR => exact of_mem (by k_mem)); (case mP => exact of_mem (by k_mem)); (case mC => exact of_mem (by k_mem)); (case mD => exact of_mem (by k_mem)); (case mA => exact of_mem (by k_mem)); (case hW => assumption); (case hws => assumption); (case hR => assumption); (case hrw => assumption); (case hA => assumption); (case hps => exact rfl); (case hnf => exact law_nofault (by assumption)); (case hP => assumption); (case hC => assumption); (case hD => assumption); (case hds => assumption); (case hQ => assumption))))
  exact True.intro
local macro_rules | `(tactic| walk_at "call builtin:min") => `(tactic| k_extra "g25x5r0")
local macro_rules | `(tactic| walk_at "execs cons For cons") => `(tactic| k_extra "g25x5r1")
theorem t6 {w : World} {loose : List Str} {mean : ExcName → Option Value} {mg mb : Str → Option Value} {dp un : Nat} {gd : Option (List Code)} {fr : List Env} {fa : Addr} {cdv : Value} {base g : Heap} {L : Addr} {h : Heap} {m : Str → Option Value} {gens : Array GenState} {drawn : Drawn} {tk : Nat} {os : OsState} {R : Result → Shared → Prop}
    {lW lR lP lC lD : Addr} {yW yR yP yC yD : List Value} {nW nR nP nC nD : Nat} {o1 o2 o3 o4 o5 o6 o7 o8 : Obj} {v6 v7 v8 : Option Value} {rest : List (Addr × Obj)} {ws row ds : List Int}
    (hB : Below (lawTop dp un gd fr) base fr g) (hX : (hd01.heap_39 w.params).In g) (hT : Top Mine.hdq loose mean mg mb g) (hdp : dp + 200 < recursionLimit) (hun : un + 8 * 200 < cLine) (F : Fr g L h m) (N : News g L h ((L + 1 + 1 + 1 + 1 + 1 + 1 + 1 + 1, o8) :: (L + 1 + 1 + 1 + 1 + 1 + 1 + 1, o7) :: (L + 1 + 1 + 1 + 1 + 1 + 1, o6) :: rest)) (off8 : ∀ p ∈ rest, p.1 ≠ L + 1 + 1 + 1 + 1 + 1 + 1 + 1 + 1) (off7 : ∀ p ∈ rest, p.1 ≠ L + 1 + 1 + 1 + 1 + 1 + 1 + 1) (off6 : ∀ p ∈ rest, p.1 ≠ L + 1 + 1 + 1 + 1 + 1 + 1) (c1 : (L + 1, o1) ∈ rest) (c2 : (L + 1 + 1, o2) ∈ rest) (c3 : (L + 1 + 1 + 1, o3) ∈ rest) (c4 : (L + 1 + 1 + 1 + 1, o4) ∈ rest) (c5 : (L + 1 + 1 + 1 + 1 + 1, o5) ∈ rest) (d1 : o1.data = .cell (some (.ref lW))) (d2 : o2.data = .cell (some (.ref lR))) (d3 : o3.data = .cell (some (.ref lP))) (d4 : o4.data = .cell (some (.ref lC))) (d5 : o5.data = .cell (some (.ref lD))) (d6 : o6.data = .cell v6) (d7 : o7.data = .cell v7) (d8 : o8.data = .cell v8) (mW : (lW, W.listOf yW.toArray nW) ∈ rest) (mR : (lR, W.listOf yR.toArray nR) ∈ rest) (mP : (lP, W.listOf yP.toArray nP) ∈ rest) (mC : (lC, W.listOf yC.toArray nC) ∈ rest) (mD : (lD, W.listOf yD.toArray nD) ∈ rest) (hW : IntsAre yW ws) (hws : ws.length = 9) (hR : IntsAre yR row) (hrw : row = rowOf ws) (hP : IntsAre yP pows) (hC : IntsAre yC plc) (hD : IntsAre yD ds) (hds : ds = 0 :: (rangeKs 1 15).map (depthF row)) (hQ : ∀ h' tk' m', Fr g L h' m' → R (.ok (.ret (.bool true))) ⟨h', gens, drawn, tk', os⟩) :
    wpAny (model Challenge.rw_pw0004_01.prog w) ((lawTop dp un gd fr).deeper (envOfC (Str.ofString "law") (lawScope w) L fa cdv)) (execs ((lawBody w).drop 6) (envOfC (Str.ofString "law") (lawScope w) L fa cdv))
      (fun fl s' => CEnd R (match fl with | .ret v => v | _ => .none) s')
      (fun e s' => wpAny (model Challenge.rw_pw0004_01.prog w) ((lawTop dp un gd fr).deeper (envOfC (Str.ofString "law") (lawScope w) L fa cdv)) (leaving (envOfC (Str.ofString "law") (lawScope w) L fa cdv) e) (fun _ s'' => R (.error e) s'') (fun e' s'' => R (.error e') s'') s')
      ⟨h, gens, drawn, tk, os⟩ := by
  have q67 : @Ne Nat (L + 1 + 1 + 1 + 1 + 1 + 1) (L + 1 + 1 + 1 + 1 + 1 + 1 + 1) := cell_ne 0
  have q68 : @Ne Nat (L + 1 + 1 + 1 + 1 + 1 + 1) (L + 1 + 1 + 1 + 1 + 1 + 1 + 1 + 1) := cell_ne 1
  have q78 : @Ne Nat (L + 1 + 1 + 1 + 1 + 1 + 1 + 1) (L + 1 + 1 + 1 + 1 + 1 + 1 + 1 + 1) := cell_ne 0
  revert hX
  k_fill
  intro hX
  unfold lawBody lawScope
  simp only [List.drop]
  (try k_fold)
  have hrow : row.length = 16 := by rw [hrw]; rfl
  have hdl : ds.length = 16 := by rw [hds]; rfl
  have s1 : SpecF (Str.ofString "faults") (fun k => (ws.getD k.toNat 0).fmod (pows.getD k.toNat 0) != 0) (fun k => ws.getD k.toNat 0) := ⟨trivial⟩
  have s2 : SpecC (Str.ofString "twos") twoC := ⟨trivial⟩
  have s3 : SpecF (Str.ofString "y") (fun y => decide (ds.getD y.toNat 0 < plc.getD y.toNat 0)) (fun y => ds.getD y.toNat 0) := ⟨trivial⟩
  k_steps
  all_goals refine ends_true hQ (by k_asm) ?_
  all_goals exact beq_iff_eq.mpr (law_fault hrw hws hds (by assumption) (by assumption) (by assumption) (by assumption) (by assumption))
theorem plc_one {y : Int} (h1 : 1 ≤ y) (h2 : y < 1 + ((15 : Nat) : Int)) : 1 ≤ plc.getD y.toNat 0 + 1 := by
  have : ∀ j : Nat, j < 16 → 1 ≤ plc.getD j 0 + 1 := by decide
  exact this y.toNat (by omega)
theorem plc_four {y : Int} (h1 : 1 ≤ y) (h2 : y < 1 + ((15 : Nat) : Int)) : plc.getD y.toNat 0 + 1 ≤ 4 := by
  have : ∀ j : Nat, j < 16 → plc.getD j 0 + 1 ≤ 4 := by decide
  exact this y.toNat (by omega)
theorem low_ok {y : Int} (h1 : 1 ≤ y) (h2 : y < 1 + ((15 : Nat) : Int)) : 0 ≤ y - pows.getD y.toNat 0 ∧ y - pows.getD y.toNat 0 < 16 := by
  have : ∀ j : Nat, j < 16 → 1 ≤ j → 0 ≤ (j : Int) - pows.getD j 0 ∧ (j : Int) - pows.getD j 0 < 16 := by decide
  have := this y.toNat (by omega) (by omega)
  rwa [Int.toNat_of_nonneg (by omega)] at this
theorem item_low {prog : Program} {w : World} {A : Around} {E : Value → Shared → Prop} {s : Shared} {h₀ : Heap} {L l : Addr} {full : List (Addr × Obj)} {ys : List Value} {xs : List Int} {n : Nat} {y : Int} {u : Tok} {Q : Value → Shared → Prop} {value slice : PySem.Expr} (N : News h₀ L s.heap full) (hm : (l, W.listOf ys.toArray n) ∈ full) (hi : IntsAre ys xs) (h1 : 1 ≤ y) (h2 : y < 1 + ((15 : Nat) : Int)) (hl : xs.length = 16) (h : ∀ t, Q (.int (xs.getD (low y).toNat 0) t) s)
    (hs : subscripted slice false (.ref l) (.int (y - pows.getD y.toNat 0) u) = operate [.ref l, .int (y - pows.getD y.toNat 0) u] (getItem (.ref l) (.int (y - pows.getD y.toNat 0) u)) := by with_unfolding_all rfl) :
    wpAny (model prog w) A (subscriptTail value slice (.ref l) (.int (y - pows.getD y.toNat 0) u)) Q E s := by
  have hb := low_ok h1 h2
  exact item_ints N hm hi hb.1 (by omega) (getD_some (by omega)) h hs
theorem depths_snoc {row : List Int} {yD : List Value} {i : Nat} {y : Int} (hy : 1 + (i : Int) = y) (h : IntsAre yD (0 :: (rangeKs 1 i).map (depthF row))) (t : Tok) : IntsAre (yD.concat (.int (dsum (labs (row.getD (low y).toNat 0) (plc.getD y.toNat 0 + 1)) (labs (row.getD y.toNat 0) (plc.getD y.toNat 0 + 1))) t)) (0 :: (rangeKs 1 (i + 1)).map (depthF row)) := by
  subst hy
  rw [rangeKs_snoc, List.map_append, List.concat_eq_append]
  exact ints_snoc h _ t
theorem depths_size {row : List Int} {yD : List Value} {i : Nat} (h : IntsAre yD (0 :: (rangeKs 1 i).map (depthF row))) (hi : i < 15) : (List.toArray yD).size ≤ sizeLine := by
  rw [List.size_toArray, h.length, List.length_cons, List.length_map, rangeKs_length]
  have := sizeLine_eq
  omega
theorem labs_one {n z : Int} (h : 1 ≤ z) : 1 ≤ (labs n z).length := by rw [labs_length]; omega
theorem labs_same (n m z : Int) : (labs n z).length = (labs m z).length := by rw [labs_length, labs_length]
theorem ly28 : True := by
  k_with "g25x6r0" => (
    (k_here; k_dflt (refine' item_low ?k1 ?k2 ?k3 ?k4 ?k5 ?k6 ?_ ?k7; (case k1 => k_asm); (case k2 => k_mem); (case k3 => assumption); (case k4 => assumption); (case k5 => assumption); (case k6 => assumption); (case k7 => with_unfolding_all rfl); intro t')))
  k_with "g25x6r1" => (
    (k_here; (with_reducible show wpAny _ _ (call (Value.ref 145) _ _) _ _ _); k_dflt (refine' use_strs (c_written _ _ _ _ _ ?p1 ?p2) ?k1 ?k2 ?k3 ?k4 ?k5 ?k6 ?k7 ?k8 ?k9 ?kp ?_; (case p1 => exact plc_one (by assumption) (by assumption)); (case p2 => exact plc_four (by assumption) (by assumption)); (case k1 => k_asm); (case k2 => k_asm); (case k3 => k_asm); (case k4 => k_asm); (case k5 => k_asm); (case k6 => first | exact rfl | assumption); (case k7 => ktr_room); (case k8 => ktr_units); (case k9 => (intro _ h9; cases h9)); (case kp => trivial); intro l' ys' n' h' tk' F' N' l1 hI'; (try dsimp only); (try k_fold))))
  k_with "g25x6r2" => (
    (k_here; (with_reducible show wpAny _ _ (call (Value.ref 138) _ _) _ _ _); k_dflt (refine' use_strs (c_shown _ _ _ _ _ ?p1 ?p2) ?k1 ?k2 ?k3 ?k4 ?k5 ?k6 ?k7 ?k8 ?k9 ?kp ?_; (case p1 => exact plc_one (by assumption) (by assumption)); (case p2 => exact plc_four (by assumption) (by assumption)); (case k1 => k_asm); (case k2 => k_asm); (case k3 => k_asm); (case k4 => k_asm); (case k5 => k_asm); (case k6 => first | exact rfl | assumption); (case k7 => ktr_room); (case k8 => ktr_units); (case k9 => (intro _ h9; cases h9)); (case kp => trivial); intro l' ys' n' h' tk' F' N' l1 hI'; (try dsimp only); (try k_fold))))
  k_with "g25x6r3" => (
    (k_here; (with_reducible show wpAny _ _ (call (Value.ref 152) _ _) _ _ _); k_dflt (refine' use_int (c_depth _ _ _ (labs _ _) (labs _ _) _ _ _ _ ?q1 ?q2 ?q3 ?q4 ?q5 ?q6) ?k1 ?k2 ?k3 ?k4 ?k5 ?k6 ?k7 ?k8 ?k9 ?kp ?_; (case k1 => k_asm); (case k2 => k_asm); (case k3 => k_asm); (case k4 => k_asm); (case k5 => k_asm); (case k6 => first | exact rfl | assumption); (case k7 => ktr_room); (case k8 => ktr_units); (case k9 => exact List.forall_mem_cons.mpr ⟨by k_mem, List.forall_mem_cons.mpr ⟨by k_mem, List.forall_mem_nil _⟩⟩); (case q1 => assumption); (case q2 => assumption); (case q3 => exact labs_labs _ (plc_four (by assumption) (by assumption))); (case q4 => exact labs_labs _ (plc_four (by assumption) (by assumption))); (case q5 => exact labs_one (plc_one (by assumption) (by assumption))); (case q6 => exact labs_same _ _ _); (case kp => trivial); intro t' h' tk' F' N'; (try dsimp only); (try k_fold))))
  k_with "g25x6r4" => (
    (k_here; (with_reducible show wpAny _ _ (call (Value.builtin _) [Value.ref _, _]) _ _ _); k_dflt (refine' append_K ?k1 ?k2 ?k3 ?_ ?z; (case k1 => k_asm); (case k2 => k_asm); (case k3 => k_upd); (case z => exact depths_size (by assumption) (by assumption))); intro h' F' N'; (try dsimp only)))
  exact True.intro
local macro_rules | `(tactic| walk_at "subscriptTail Name BinOp ref int") => `(tactic| k_extra "g25x6r0")
local macro_rules | `(tactic| walk_at "call ref") => `(tactic| k_extra "g25x6r1")
local macro_rules | `(tactic| walk_at "call ref") => `(tactic| k_extra "g25x6r2")
local macro_rules | `(tactic| walk_at "call ref") => `(tactic| k_extra "g25x6r3")
local macro_rules | `(tactic| walk_at "call builtin:list.append") => `(tactic| k_extra "g25x6r4")
theorem t5 {w : World} {loose : List Str} {mean : ExcName → Option Value} {mg mb : Str → Option Value} {dp un : Nat} {gd : Option (List Code)} {fr : List Env} {fa : Addr} {cdv : Value} {base g : Heap} {L : Addr} {h : Heap} {m : Str → Option Value} {gens : Array GenState} {drawn : Drawn} {tk : Nat} {os : OsState} {R : Result → Shared → Prop}
    {lD lW lR lP lC : Addr} {yD yW yR yP yC : List Value} {nD nW nR nP nC : Nat} {o1 o2 o3 o4 o5 o6 o7 o8 : Obj} {v6 v7 v8 : Option Value} {rest : List (Addr × Obj)} {ws row : List Int}
    (hB : Below (lawTop dp un gd fr) base fr g) (hX : (hd01.heap_39 w.params).In g) (hT : Top Mine.hdq loose mean mg mb g) (hdp : dp + 200 < recursionLimit) (hun : un + 8 * 200 < cLine) (F : Fr g L h m) (N : News g L h ((lD, W.listOf yD.toArray nD) :: (L + 1 + 1 + 1 + 1 + 1 + 1 + 1 + 1, o8) :: (L + 1 + 1 + 1 + 1 + 1 + 1 + 1, o7) :: (L + 1 + 1 + 1 + 1 + 1 + 1, o6) :: rest)) (offlD : ∀ p ∈ rest, p.1 ≠ lD) (off8 : ∀ p ∈ rest, p.1 ≠ L + 1 + 1 + 1 + 1 + 1 + 1 + 1 + 1) (off7 : ∀ p ∈ rest, p.1 ≠ L + 1 + 1 + 1 + 1 + 1 + 1 + 1) (off6 : ∀ p ∈ rest, p.1 ≠ L + 1 + 1 + 1 + 1 + 1 + 1) (nD8 : @Ne Nat lD (L + 1 + 1 + 1 + 1 + 1 + 1 + 1 + 1)) (nD7 : @Ne Nat lD (L + 1 + 1 + 1 + 1 + 1 + 1 + 1)) (nD6 : @Ne Nat lD (L + 1 + 1 + 1 + 1 + 1 + 1)) (c1 : (L + 1, o1) ∈ rest) (c2 : (L + 1 + 1, o2) ∈ rest) (c3 : (L + 1 + 1 + 1, o3) ∈ rest) (c4 : (L + 1 + 1 + 1 + 1, o4) ∈ rest) (c5 : (L + 1 + 1 + 1 + 1 + 1, o5) ∈ rest) (d1 : o1.data = .cell (some (.ref lW))) (d2 : o2.data = .cell (some (.ref lR))) (d3 : o3.data = .cell (some (.ref lP))) (d4 : o4.data = .cell (some (.ref lC))) (d5 : o5.data = .cell (some (.ref lD))) (d6 : o6.data = .cell v6) (d7 : o7.data = .cell v7) (d8 : o8.data = .cell v8) (mW : (lW, W.listOf yW.toArray nW) ∈ rest) (mR : (lR, W.listOf yR.toArray nR) ∈ rest) (mP : (lP, W.listOf yP.toArray nP) ∈ rest) (mC : (lC, W.listOf yC.toArray nC) ∈ rest) (hW : IntsAre yW ws) (hws : ws.length = 9) (hR : IntsAre yR row) (hrw : row = rowOf ws) (hP : IntsAre yP pows) (hC : IntsAre yC plc) (hD : IntsAre yD [0]) (hQ : ∀ h' tk' m', Fr g L h' m' → R (.ok (.ret (.bool true))) ⟨h', gens, drawn, tk', os⟩) :
    wpAny (model Challenge.rw_pw0004_01.prog w) ((lawTop dp un gd fr).deeper (envOfC (Str.ofString "law") (lawScope w) L fa cdv)) (execs ((lawBody w).drop 5) (envOfC (Str.ofString "law") (lawScope w) L fa cdv))
      (fun fl s' => CEnd R (match fl with | .ret v => v | _ => .none) s')
      (fun e s' => wpAny (model Challenge.rw_pw0004_01.prog w) ((lawTop dp un gd fr).deeper (envOfC (Str.ofString "law") (lawScope w) L fa cdv)) (leaving (envOfC (Str.ofString "law") (lawScope w) L fa cdv) e) (fun _ s'' => R (.error e) s'') (fun e' s'' => R (.error e') s'') s')
      ⟨h, gens, drawn, tk, os⟩ := by
  have q67 : @Ne Nat (L + 1 + 1 + 1 + 1 + 1 + 1) (L + 1 + 1 + 1 + 1 + 1 + 1 + 1) := cell_ne 0
  have q68 : @Ne Nat (L + 1 + 1 + 1 + 1 + 1 + 1) (L + 1 + 1 + 1 + 1 + 1 + 1 + 1 + 1) := cell_ne 1
  have q78 : @Ne Nat (L + 1 + 1 + 1 + 1 + 1 + 1 + 1) (L + 1 + 1 + 1 + 1 + 1 + 1 + 1 + 1) := cell_ne 0
  revert hX
  k_fill
  intro hX
  unfold lawBody lawScope
  simp only [List.drop]
  (try k_fold)
  have hrow : row.length = 16 := by rw [hrw]; rfl
  walk1
  refine For_turns (by k_asm) ?_ (by intro _; rfl) (by passes_own)
  k_steps
  refine range_turns (n := 15) (J := fun i _ news₁ => ∃ oy vy zD mD, oy.data = Data.cell vy ∧ IntsAre zD (0 :: (rangeKs 1 i).map (depthF row)) ∧ news₁ = (lD, W.listOf (List.toArray zD) mD) :: (L + 1 + 1 + 1 + 1 + 1 + 1 + 1 + 1, o8) :: (L + 1 + 1 + 1 + 1 + 1 + 1 + 1, o7) :: (L + 1 + 1 + 1 + 1 + 1 + 1, oy) :: rest) rfl (by assumption) (by decide) (by decide) (by k_asm) (by k_asm) ⟨_, _, _, _, d6, hD, rfl⟩ (by intro _; rfl) ?turn ?done
  case turn =>
    clear hD
    intro i t m₁ news₁ h' tk' I' oI' hi hJ F' N' hoff
    obtain ⟨oy, vy, zD, mD, dy, hzD, rfl⟩ := hJ
    have hb1 : (1 : Int) ≤ 1 + (i : Int) := by omega
    have hb2 : 1 + (i : Int) < 1 + ((15 : Nat) : Int) := by omega
    generalize hy : 1 + (i : Int) = y at *
    refine wpAny_assign_Name ?_
    (try k_fold)
    k_steps
    all_goals (refine' turnJ_next (news' := (lD, W.listOf (List.toArray ?zz) ?zm) :: (L + 1 + 1 + 1 + 1 + 1 + 1 + 1 + 1, o8) :: (L + 1 + 1 + 1 + 1 + 1 + 1 + 1, o7) :: (L + 1 + 1 + 1 + 1 + 1 + 1, ?oy) :: rest) ?F ?N ?sub ?off ⟨?oy, ?vy, ?zz, ?zm, ?dy, ?hz, rfl⟩; (case F => k_asm); (case N => k_asm); (case sub => exact sub_cons (by k_mem) (sub_cons (by k_mem) (sub_cons (by k_mem) (sub_cons (by k_mem) (sub_cons (by k_mem) (by (intro p9 hp9; repeat' (first | exact hp9 | refine List.mem_cons_of_mem _ ?_)))))))); (case hz => exact depths_snoc hy hzD _); (case off => exact all_ne_cons (by k_ne) (all_ne_cons (by k_ne) (all_ne_cons (by k_ne) (all_ne_cons (by k_ne) (off_tail (off_tail (off_tail (off_tail hoff)))))))); (case dy => assumption))
  case done =>
    intro m' news' h' tk' hJ F' N'
    obtain ⟨oy, vy, zD, mD, dy, hzD, rfl⟩ := hJ
    clear hD
    (refine' t6 ?hB ?hX ?hT ?hdp ?hun ?F ?N ?off8 ?off7 ?off6 ?c1 ?c2 ?c3 ?c4 ?c5 ?d1 ?d2 ?d3 ?d4 ?d5 ?d6 ?d7 ?d8 ?mW ?mR ?mP ?mC ?mD ?hW ?hws ?hR ?hrw ?hP ?hC ?hD ?hds ?hQ; (case hB => k_asm); (case hX => k_asm); (case hT => k_asm); (case hdp => assumption); (case hun => assumption); (case F => k_asm); (case N => exact news_rot (by k_asm)); (case off8 => k_all); (case off7 => k_all); (case off6 => k_all); (case c1 => exact of_mem (by k_mem)); (case c2 => exact of_mem (by k_mem)); (case c3 => exact of_mem (by k_mem)); (case c4 => exact of_mem (by k_mem)); (case c5 => exact of_mem (by k_mem)); (case d1 => assumption); (case d2 => assumption); (case d3 => assumption); (case d4 => assumption); (case d5 => assumption); (case d6 => assumption); (case d7 => assumption); (case d8 => assumption); (case mW => exact of_mem (by k_mem)); (case mR => exact of_mem (by k_mem)); (case mP => exact of_mem (by k_mem)); (case mC => exact of_mem (by k_mem)); (case mD => exact of_mem (by k_mem)); (case hW => assumption); (case hws => assumption); (case hR => assumption); (case hrw => assumption); (case hP => assumption); (case hC => assumption); (case hD => assumption); (case hds => exact rfl); (case hQ => assumption))
theorem t5w {w : World} {loose : List Str} {mean : ExcName → Option Value} {mg mb : Str → Option Value} {dp un : Nat} {gd : Option (List Code)} {fr : List Env} {fa : Addr} {cdv : Value} {base g : Heap} {L : Addr} {h : Heap} {m : Str → Option Value} {gens : Array GenState} {drawn : Drawn} {tk : Nat} {os : OsState} {R : Result → Shared → Prop}
    {lW lR lP lC lD : Addr} {yW yR yP yC yD : List Value} {nW nR nP nC nD : Nat} {o1 o2 o3 o4 o5 o6 o7 o8 : Obj} {v6 v7 v8 : Option Value} {full : List (Addr × Obj)} {ws row : List Int}
    (hB : Below (lawTop dp un gd fr) base fr g) (hX : (hd01.heap_39 w.params).In g) (hT : Top Mine.hdq loose mean mg mb g) (hdp : dp + 200 < recursionLimit) (hun : un + 8 * 200 < cLine) (F : Fr g L h m) (N : News g L h full) (c1 : (L + 1, o1) ∈ full) (c2 : (L + 1 + 1, o2) ∈ full) (c3 : (L + 1 + 1 + 1, o3) ∈ full) (c4 : (L + 1 + 1 + 1 + 1, o4) ∈ full) (c5 : (L + 1 + 1 + 1 + 1 + 1, o5) ∈ full) (c6 : (L + 1 + 1 + 1 + 1 + 1 + 1, o6) ∈ full) (c7 : (L + 1 + 1 + 1 + 1 + 1 + 1 + 1, o7) ∈ full) (c8 : (L + 1 + 1 + 1 + 1 + 1 + 1 + 1 + 1, o8) ∈ full) (d1 : o1.data = .cell (some (.ref lW))) (d2 : o2.data = .cell (some (.ref lR))) (d3 : o3.data = .cell (some (.ref lP))) (d4 : o4.data = .cell (some (.ref lC))) (d5 : o5.data = .cell (some (.ref lD))) (d6 : o6.data = .cell v6) (d7 : o7.data = .cell v7) (d8 : o8.data = .cell v8) (mW : (lW, W.listOf yW.toArray nW) ∈ full) (mR : (lR, W.listOf yR.toArray nR) ∈ full) (mP : (lP, W.listOf yP.toArray nP) ∈ full) (mC : (lC, W.listOf yC.toArray nC) ∈ full) (mD : (lD, W.listOf yD.toArray nD) ∈ full) (nC6 : @Ne Nat lC (L + 1 + 1 + 1 + 1 + 1 + 1)) (nC7 : @Ne Nat lC (L + 1 + 1 + 1 + 1 + 1 + 1 + 1)) (nC8 : @Ne Nat lC (L + 1 + 1 + 1 + 1 + 1 + 1 + 1 + 1)) (nCD : @Ne Nat lC lD) (nP6 : @Ne Nat lP (L + 1 + 1 + 1 + 1 + 1 + 1)) (nP7 : @Ne Nat lP (L + 1 + 1 + 1 + 1 + 1 + 1 + 1)) (nP8 : @Ne Nat lP (L + 1 + 1 + 1 + 1 + 1 + 1 + 1 + 1)) (nPD : @Ne Nat lP lD) (nR6 : @Ne Nat lR (L + 1 + 1 + 1 + 1 + 1 + 1)) (nR7 : @Ne Nat lR (L + 1 + 1 + 1 + 1 + 1 + 1 + 1)) (nR8 : @Ne Nat lR (L + 1 + 1 + 1 + 1 + 1 + 1 + 1 + 1)) (nRD : @Ne Nat lR lD) (nW6 : @Ne Nat lW (L + 1 + 1 + 1 + 1 + 1 + 1)) (nW7 : @Ne Nat lW (L + 1 + 1 + 1 + 1 + 1 + 1 + 1)) (nW8 : @Ne Nat lW (L + 1 + 1 + 1 + 1 + 1 + 1 + 1 + 1)) (nWD : @Ne Nat lW lD) (nD1 : @Ne Nat lD (L + 1)) (nD2 : @Ne Nat lD (L + 1 + 1)) (nD3 : @Ne Nat lD (L + 1 + 1 + 1)) (nD4 : @Ne Nat lD (L + 1 + 1 + 1 + 1)) (nD5 : @Ne Nat lD (L + 1 + 1 + 1 + 1 + 1)) (nD6 : @Ne Nat lD (L + 1 + 1 + 1 + 1 + 1 + 1)) (nD7 : @Ne Nat lD (L + 1 + 1 + 1 + 1 + 1 + 1 + 1)) (nD8 : @Ne Nat lD (L + 1 + 1 + 1 + 1 + 1 + 1 + 1 + 1)) (hW : IntsAre yW ws) (hws : ws.length = 9) (hR : IntsAre yR row) (hrw : row = rowOf ws) (hP : IntsAre yP pows) (hC : IntsAre yC plc) (hD : IntsAre yD [0]) (hQ : ∀ h' tk' m', Fr g L h' m' → R (.ok (.ret (.bool true))) ⟨h', gens, drawn, tk', os⟩) :
    wpAny (model Challenge.rw_pw0004_01.prog w) ((lawTop dp un gd fr).deeper (envOfC (Str.ofString "law") (lawScope w) L fa cdv)) (execs ((lawBody w).drop 5) (envOfC (Str.ofString "law") (lawScope w) L fa cdv))
      (fun fl s' => CEnd R (match fl with | .ret v => v | _ => .none) s')
      (fun e s' => wpAny (model Challenge.rw_pw0004_01.prog w) ((lawTop dp un gd fr).deeper (envOfC (Str.ofString "law") (lawScope w) L fa cdv)) (leaving (envOfC (Str.ofString "law") (lawScope w) L fa cdv) e) (fun _ s'' => R (.error e) s'') (fun e' s'' => R (.error e') s'') s')
      ⟨h, gens, drawn, tk, os⟩ :=
  t5 (rest := [(L + 1 + 1 + 1 + 1 + 1, o5), (L + 1 + 1 + 1 + 1, o4), (L + 1 + 1 + 1, o3), (L + 1 + 1, o2), (L + 1, o1), (lC, W.listOf yC.toArray nC), (lP, W.listOf yP.toArray nP), (lR, W.listOf yR.toArray nR), (lW, W.listOf yW.toArray nW)]) hB hX hT hdp hun F (kst_newsOf N (sub_cons mD (sub_cons c8 (sub_cons c7 (sub_cons c6 (sub_cons c5 (sub_cons c4 (sub_cons c3 (sub_cons c2 (sub_cons c1 (sub_cons mC (sub_cons mP (sub_cons mR (sub_cons mW (List.forall_mem_nil _))))))))))))))) (all_ne_cons (ne_of_ne' nD5) (all_ne_cons (ne_of_ne' nD4) (all_ne_cons (ne_of_ne' nD3) (all_ne_cons (ne_of_ne' nD2) (all_ne_cons (ne_of_ne' nD1) (all_ne_cons nCD (all_ne_cons nPD (all_ne_cons nRD (all_ne_cons nWD (List.forall_mem_nil _)))))))))) (all_ne_cons (cell_ne 2) (all_ne_cons (cell_ne 3) (all_ne_cons (cell_ne 4) (all_ne_cons (cell_ne 5) (all_ne_cons (cell_ne 6) (all_ne_cons nC8 (all_ne_cons nP8 (all_ne_cons nR8 (all_ne_cons nW8 (List.forall_mem_nil _)))))))))) (all_ne_cons (cell_ne 1) (all_ne_cons (cell_ne 2) (all_ne_cons (cell_ne 3) (all_ne_cons (cell_ne 4) (all_ne_cons (cell_ne 5) (all_ne_cons nC7 (all_ne_cons nP7 (all_ne_cons nR7 (all_ne_cons nW7 (List.forall_mem_nil _)))))))))) (all_ne_cons (cell_ne 0) (all_ne_cons (cell_ne 1) (all_ne_cons (cell_ne 2) (all_ne_cons (cell_ne 3) (all_ne_cons (cell_ne 4) (all_ne_cons nC6 (all_ne_cons nP6 (all_ne_cons nR6 (all_ne_cons nW6 (List.forall_mem_nil _)))))))))) nD8 nD7 nD6 (.tail _ (.tail _ (.tail _ (.tail _ (.head _))))) (.tail _ (.tail _ (.tail _ (.head _)))) (.tail _ (.tail _ (.head _))) (.tail _ (.head _)) (.head _) d1 d2 d3 d4 d5 d6 d7 d8 (.tail _ (.tail _ (.tail _ (.tail _ (.tail _ (.tail _ (.tail _ (.tail _ (.head _))))))))) (.tail _ (.tail _ (.tail _ (.tail _ (.tail _ (.tail _ (.tail _ (.head _)))))))) (.tail _ (.tail _ (.tail _ (.tail _ (.tail _ (.tail _ (.head _))))))) (.tail _ (.tail _ (.tail _ (.tail _ (.tail _ (.head _)))))) hW hws hR hrw hP hC hD hQ
section
variable {w : World} {rm : Nat} {f : Addr} {vs : List Value} {news full : List (Addr × Obj)} {Pre : Heap → Prop} {loose : List Str} {mean : ExcName → Option Value} {mg mb : Str → Option Value} {dp un : Nat} {gd : Option (List Code)} {cn : Str} {cs : Scope} {a : Addr} {ccd : Value} {cl : List (Str × Addr)} {outer : List Env}
  {A₀ : Around} {base h₀ : Heap} {L : Addr} {m : Str → Option Value} {s : Shared} {Q E : Value → Shared → Prop}
theorem use_nine (C : Ctr w rm f vs news Pre RNine) (B : Below A₀ base outer h₀) (F : Fr h₀ L s.heap m) (N : News h₀ L s.heap full) (X : (hd01.heap_39 w.params).In h₀) (T : Top Mine.hdq loose mean mg mb h₀) (hk : cs.kind = .function)
    (hd : dp + rm < recursionLimit) (hu : un + 8 * rm < cLine) (hs : ∀ p ∈ news, p ∈ full) (hp : Pre h₀) (h : ∀ xs l ys n h' tk', xs.length = 9 → Fr h₀ L h' m → News h₀ L h' ((l, W.listOf ys.toArray n) :: full) → (∀ p ∈ full, p.1 ≠ l) → IntsAre ys xs → Q (.ref l) { s with heap := h', toks := tk' }) :
    wpAny (model Challenge.rw_pw0004_01.prog w) (ktrTop dp un gd cn cs L a ccd cl outer) (call (.ref f) vs) Q E s :=
  C loose mean mg mb dp un gd cn cs a ccd cl outer A₀ base h₀ L m s.heap s.gens s.drawn s.toks s.os Q E B F (fun p hp => N p (hs p hp)) X T hk hd hu hp fun r h' tk' st hr => by
    obtain ⟨xs, hx, l, ys, n, rfl, ha, ho, hi⟩ := hr
    obtain ⟨F', N', hne⟩ := back_new F N st ha ho
    exact h xs l ys n h' tk' hx F' N' hne hi
end
theorem ly29 : True := by
  k_with "g25x8r0" => (
    (k_here; (with_reducible show wpAny _ _ (call (Value.ref 123) _ _) _ _ _); k_dflt (refine' use_nine (c_wheels _ _ _ _) ?k1 ?k2 ?k3 ?k4 ?k5 ?k6 ?k7 ?k8 ?k9 ?kp ?_; (case k1 => k_asm); (case k2 => k_asm); (case k3 => k_asm); (case k4 => k_asm); (case k5 => k_asm); (case k6 => first | exact rfl | assumption); (case k7 => ktr_room); (case k8 => ktr_units); (case k9 => (intro _ h9; cases h9)); (case kp => exact ⟨by assumption, by assumption, by first | assumption | omega⟩); intro ws' l' ys' n' h' tk' hx9 F' N' l1 hI'; (try dsimp only); (try k_fold))))
  k_with "g25x8r1" => (
    (k_here; (with_reducible show wpAny _ _ (call (Value.ref 118) _ _) _ _ _); k_dflt (refine' use_ints (c_powers _) ?k1 ?k2 ?k3 ?k4 ?k5 ?k6 ?k7 ?k8 ?k9 ?kp ?_; (case k1 => k_asm); (case k2 => k_asm); (case k3 => k_asm); (case k4 => k_asm); (case k5 => k_asm); (case k6 => first | exact rfl | assumption); (case k7 => ktr_room); (case k8 => ktr_units); (case k9 => (intro _ h9; cases h9)); (case kp => trivial); intro l' ys' n' h' tk' F' N' l1 hI'; (try dsimp only); (try k_fold))))
  k_with "g25x8r2" => (
    (k_here; (with_reducible show wpAny _ _ (call (Value.ref 128) _ _) _ _ _); k_dflt (refine' use_ints (c_row _ _ _ _ _ ?q1 ?q2) ?k1 ?k2 ?k3 ?k4 ?k5 ?k6 ?k7 ?k8 ?k9 ?kp ?_; (case q1 => assumption); (case q2 => assumption); (case k1 => k_asm); (case k2 => k_asm); (case k3 => k_asm); (case k4 => k_asm); (case k5 => k_asm); (case k6 => first | exact rfl | assumption); (case k7 => ktr_room); (case k8 => ktr_units); (case k9 => exact List.forall_mem_cons.mpr ⟨by k_mem, List.forall_mem_nil _⟩); (case kp => trivial); intro l' ys' n' h' tk' F' N' l1 hI'; (try dsimp only); (try k_fold))))
  k_with "g25x8r3" => (
    first | exact cell_ne 0 | exact cell_ne 1 | exact cell_ne 2 | exact cell_ne 3 | exact cell_ne 4 | exact cell_ne 5 | exact cell_ne 6 | exact (cell_ne 0).symm | exact (cell_ne 1).symm | exact (cell_ne 2).symm | exact (cell_ne 3).symm | exact (cell_ne 4).symm | exact (cell_ne 5).symm | exact (cell_ne 6).symm)
  k_with "g25x8r4" => (
    (k_here; (with_reducible show wpAny _ _ (execs (Stmt.For _ _ _ _ _ :: Stmt.Assign _ _ _ :: Stmt.If _ _ _ _ :: _) _) _ _ _); k_dflt (refine' t5w ?hB ?hX ?hT ?hdp ?hun ?F ?N ?c1 ?c2 ?c3 ?c4 ?c5 ?c6 ?c7 ?c8 ?d1 ?d2 ?d3 ?d4 ?d5 ?d6 ?d7 ?d8 ?mW ?mR ?mP ?mC ?mD ?nC6 ?nC7 ?nC8 ?nCD ?nP6 ?nP7 ?nP8 ?nPD ?nR6 ?nR7 ?nR8 ?nRD ?nW6 ?nW7 ?nW8 ?nWD ?nD1 ?nD2 ?nD3 ?nD4 ?nD5 ?nD6 ?nD7 ?nD8 ?hW ?hws ?hR ?hrw ?hP ?hC ?hD ?hQ; (case hB => k_asm); (case hX => k_asm); (case hT => k_asm); (case hdp => assumption); (case hun => assumption); (case F => k_asm); (case N => k_asm); (case c1 => exact of_mem (by k_mem)); (case c2 => exact of_mem (by k_mem)); (case c3 => exact of_mem (by k_mem)); (case c4 => exact of_mem (by k_mem)); (case c5 => exact of_mem (by k_mem)); (case c6 => exact of_mem (by k_mem)); (case c7 => exact of_mem (by k_mem)); (case c8 => exact of_mem (by k_mem)); (case d1 => assumption); (case d2 => assumption); (case d3 => assumption); (case d4 => assumption); (case d5 => assumption); (case d6 => assumption); (case d7 => assumption); (case d8 => assumption); (case mW => exact of_mem (by k_mem)); (case mR => exact of_mem (by k_mem)); (case mP => exact of_mem (by k_mem)); (case mC => exact of_mem (by k_mem)); (case mD => exact of_mem (by k_mem)); (case nC6 => k_ne); (case nC7 => k_ne); (case nC8 => k_ne); (case nCD => k_ne); (case nP6 => k_ne); (case nP7 => k_ne); (case nP8 => k_ne); (case nPD => k_ne); (case nR6 => k_ne); (case nR7 => k_ne); (case nR8 => k_ne); (case nRD => k_ne); (case nW6 => k_ne); (case nW7 => k_ne); (case nW8 => k_ne); (case nWD => k_ne); (case nD1 => k_ne); (case nD2 => k_ne); (case nD3 => k_ne); (case nD4 => k_ne); (case nD5 => k_ne); (case nD6 => k_ne); (case nD7 => k_ne); (case nD8 => k_ne); (case hW => assumption); (case hws => assumption); (case hR => assumption); (case hrw => exact rfl); (case hP => assumption); (case hC => (repeat' (first | exact IntsAre.nil | refine IntsAre.cons _ _ ?_))); (case hD => (repeat' (first | exact IntsAre.nil | refine IntsAre.cons _ _ ?_))); (case hQ => assumption))))
  exact True.intro
local macro_rules | `(tactic| walk_at "call ref") => `(tactic| k_extra "g25x8r0")
local macro_rules | `(tactic| walk_at "call ref") => `(tactic| k_extra "g25x8r1")
local macro_rules | `(tactic| walk_at "call ref") => `(tactic| k_extra "g25x8r2")
local macro_rules | `(tactic| k_ne) => `(tactic| k_extra "g25x8r3")
local macro_rules | `(tactic| walk_at "execs cons For cons") => `(tactic| k_extra "g25x8r4")
theorem t0 {w : World} {loose : List Str} {mean : ExcName → Option Value} {mg mb : Str → Option Value} {dp un : Nat} {gd : Option (List Code)} {fr : List Env} {fa : Addr} {cdv : Value} {base g : Heap} {L : Addr} {h : Heap} {m : Str → Option Value} {gens : Array GenState} {drawn : Drawn} {tk : Nat} {os : OsState} {R : Result → Shared → Prop}
    {o1 o2 o3 o4 o5 o6 o7 o8 : Obj} {v1 v2 v3 v4 v5 v6 v7 v8 : Option Value} {lS : Addr} {vs : List Value} {ns : List Int}
    (hB : Below (lawTop dp un gd fr) base fr g) (hX : (hd01.heap_39 w.params).In g) (hT : Top Mine.hdq loose mean mg mb g) (hdp : dp + 200 < recursionLimit) (hun : un + 8 * 200 < cLine) (F : Fr g L h (fun z => if z = Str.ofString "script" then some (.ref lS) else m z)) (N : News g L h ((L + 1 + 1 + 1 + 1 + 1 + 1 + 1 + 1, o8) :: (L + 1 + 1 + 1 + 1 + 1 + 1 + 1, o7) :: (L + 1 + 1 + 1 + 1 + 1 + 1, o6) :: (L + 1 + 1 + 1 + 1 + 1, o5) :: (L + 1 + 1 + 1 + 1, o4) :: (L + 1 + 1 + 1, o3) :: (L + 1 + 1, o2) :: (L + 1, o1) :: [])) (d1 : o1.data = .cell v1) (d2 : o2.data = .cell v2) (d3 : o3.data = .cell v3) (d4 : o4.data = .cell v4) (d5 : o5.data = .cell v5) (d6 : o6.data = .cell v6) (d7 : o7.data = .cell v7) (d8 : o8.data = .cell v8) (hS : g.IsList lS vs.toArray) (hI : IntsAre vs ns) (hl : ns.length ≤ 63) (hQ : ∀ h' tk' m', Fr g L h' m' → R (.ok (.ret (.bool true))) ⟨h', gens, drawn, tk', os⟩) :
    wpAny (model Challenge.rw_pw0004_01.prog w) ((lawTop dp un gd fr).deeper (envOfC (Str.ofString "law") (lawScope w) L fa cdv)) (execs ((lawBody w).drop 0) (envOfC (Str.ofString "law") (lawScope w) L fa cdv))
      (fun fl s' => CEnd R (match fl with | .ret v => v | _ => .none) s')
      (fun e s' => wpAny (model Challenge.rw_pw0004_01.prog w) ((lawTop dp un gd fr).deeper (envOfC (Str.ofString "law") (lawScope w) L fa cdv)) (leaving (envOfC (Str.ofString "law") (lawScope w) L fa cdv) e) (fun _ s'' => R (.error e) s'') (fun e' s'' => R (.error e') s'') s')
      ⟨h, gens, drawn, tk, os⟩ := by
  revert hX
  k_fill
  intro hX
  unfold lawBody lawScope
  simp only [List.drop]
  (try k_fold)
  k_steps
local macro_rules | `(tactic| k_qdec) => `(tactic| decide +kernel)
theorem top_law : PySem.Challenge.rw_pw0004_01.Holds := hd01 (by
  k_go0
  k_dflt (refine' t0 (R := fun r s' => GoodW _ _ _ _ _ r s') ?hB ?hX ?hT ?hdp ?hun ?F ?N ?d1 ?d2 ?d3 ?d4 ?d5 ?d6 ?d7 ?d8 ?hS ?hI ?hl ?hQ; (case hB => k_asm); (case hX => k_asm); (case hT => k_asm); (case hdp => first | assumption | decide); (case hun => first | assumption | decide | (have hcL9 := cLine_is; omega)); (case F => exact Fr_one (by k_asm) (by exact rfl)); (case N => k_asm); (case d1 => assumption); (case d2 => assumption); (case d3 => assumption); (case d4 => assumption); (case d5 => assumption); (case d6 => assumption); (case d7 => assumption); (case d8 => assumption); (case hS => assumption); (case hI => assumption); (case hl => first | assumption | omega); (case hQ => (intro h9 t9 m9 F9; first | (k_end; wrow_close) | wrow_close))))
end
end Mine
set_option maxRecDepth 100000 in
set_option maxHeartbeats 8000000 in
theorem PySem.Challenge.cw_pw0004_01_holds : PySem.Challenge.rw_pw0004_01.Holds := by
  exact Mine.top_law
