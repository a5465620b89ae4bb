import PyProof.Rows.All
import Wide.All
import OpenK.AllK
import Wide.FinOn
import PySem.Challenge.RW_oc0020_01
set_option Elab.async false

section THd
open PySem PySem.W PyProof.Rows
namespace Mine
set_option maxRecDepth 100000 in
set_option maxHeartbeats 8000000 in
open_top hd for PySem.Challenge.rw_oc0020_01
end Mine
end THd

section TBs
open PySem PySem.W PySem.Calls PyProof.Rows
namespace Mine

abbrev Ar (dp un : Nat) (gd : Option (List Code)) (frs : List Env) : Around := { handled := none, depth := dp, frames := some frs, guards := gd, units := un }

/-- what a call of a def stands on: the top's facts, and the frames' objects -/
def Sd (w : World) (frs : List Env) (h : Heap) : Prop :=
  ∃ (hb : Heap) (p : Program) (loose : List Str) (mean : ExcName → Option Value) (mg mb : Str → Option Value) (fos : List (Addr × Obj)),
    hb.StaysIn h ∧ (hd.heap_39 w.params).In hb ∧ Top p loose mean mg mb hb ∧ TI.Frs frs fos ∧ ∀ q ∈ fos, h.get? q.1 = some q.2 ∧ hb.get? q.1 = none

theorem Sd.get {w : World} {frs : List Env} {h : Heap} (H : Sd w frs h) : ∃ (p : Program) (loose : List Str) (mean : ExcName → Option Value) (mg mb : Str → Option Value), (hd.heap_39 w.params).In h ∧ Top p loose mean mg mb h := by
  obtain ⟨hb, p, loose, mean, mg, mb, fos, st, X, T, _, _⟩ := H
  exact ⟨p, loose, mean, mg, mb, X.keeps st, T.keeps st⟩

theorem frs_cons {env : Env} {frs : List Env} {fos : List (Addr × Obj)} {L : Addr} {oL : Obj} (Fs : TI.Frs frs fos) (hf : env.frame = some L) (hk : env.scope.kind = .function) (hd : ∃ es ep, oL.data = .dict es ep) : TI.Frs (env :: frs) ((L, oL) :: fos) :=
  ⟨by rw [hk]; decide, hf, hd, Fs⟩

/-- from a frame whose base is all that stood at the call -/
theorem Sd.use {w : World} {h₀ h : Heap} {frs : List Env} {L : Addr} {m : Str → Option Value} {env : Env} (H : Sd w frs h₀) (F : Fr h₀ L h m) (hf : env.frame = some L) (hk : env.scope.kind = .function) : Sd w (env :: frs) h := by
  obtain ⟨hb, p, loose, mean, mg, mb, fos, st, X, T, Fs, Z⟩ := H
  obtain ⟨oL, es, ep, hL, hLd, r⟩ := F.ns
  refine ⟨hb, p, loose, mean, mg, mb, (L, oL) :: fos, fun b o e => F.keep b o (st b o e), X, T, frs_cons Fs hf hk ⟨es, ep, hLd⟩, fun q hq => ?_⟩
  rcases List.mem_cons.mp hq with rfl | hq
  · refine ⟨hL, ?_⟩
    cases e : hb.get? L with
    | none => rfl
    | some o => exact absurd (Heap.lt_size (st _ _ e)) (Nat.not_lt.mpr F.above)
  · exact ⟨F.keep _ _ (Z q hq).1, (Z q hq).2⟩

/-- from a frame whose base is without the frames: they stand in the ledger -/
theorem Sd.useM {w : World} {h₀ h : Heap} {frs : List Env} {L : Addr} {m : Str → Option Value} {env : Env} {fos news : List (Addr × Obj)} {p : Program} {loose : List Str} {mean : ExcName → Option Value} {mg mb : Str → Option Value}
    (Fs : TI.Frs frs fos) (X : (hd.heap_39 w.params).In h₀) (T : Top p loose mean mg mb h₀) (F : Fr h₀ L h m) (N : News h₀ L h news) (hsub : ∀ q ∈ fos, q ∈ news) (hf : env.frame = some L) (hk : env.scope.kind = .function) : Sd w (env :: frs) h := by
  obtain ⟨oL, es, ep, hL, hLd, r⟩ := F.ns
  refine ⟨h₀, p, loose, mean, mg, mb, (L, oL) :: fos, F.keep, X, T, frs_cons Fs hf hk ⟨es, ep, hLd⟩, fun q hq => ?_⟩
  rcases List.mem_cons.mp hq with rfl | hq
  · exact ⟨hL, Heap.get?_none_of_le F.above⟩
  · exact ⟨(N q (hsub q hq)).1, (N q (hsub q hq)).2.2⟩

section
variable {prog : Program} {w : World} {A : Around} {s : Shared} {K : Frag}
  {R : Result → Shared → Prop} {name qual : Str} {params : Arguments} {body : List Stmt} {scope : Scope} {dV kV doc pm cdv ct oc : Value} {an od : Option Addr} {osl : Array (Option Value)} {f : Addr} {args : Args} {binds : List (Str × Value)}
  {p : Program} {loose : List Str} {mean : ExcName → Option Value} {mg mb : Str → Option Value}

/-- a def is entered: all that stood before is the base -/
theorem enter (X : K.In s.heap) (T : Top p loose mean mg mb s.heap)
    (ho : K.lookup f = some ⟨oc, od, .func (fnOf name qual params body scope dV kV doc pm an cdv ct), osl⟩) (hcd : codeIn K cdv qual = true) (hroom : A.depth < recursionLimit)
    (hbind : BindsTo s (fnOf name qual params body scope dV kV doc pm an cdv ct) args binds) (hloc : ∀ y ∈ binds, scope.names.lookup y.1 = some .local)
    (h : ∀ L' h₁, Fr s.heap L' h₁ (fun y => binds.reverse.lookup y) → News s.heap L' h₁ [] →
      wpAny (model prog w) (A.deeper (envOf qual scope L' f cdv)) (execs body (envOf qual scope L' f cdv))
        (fun fl s' => R (.ok (.ret (match fl with | .ret v => v | _ => .none))) s')
        (fun e s' => wpAny (model prog w) (A.deeper (envOf qual scope L' f cdv)) (leaving (envOf qual scope L' f cdv) e) (fun _ s'' => R (.error e) s'') (fun e' s'' => R (.error e') s'') s')
        { s with heap := h₁, toks := s.toks + binds.length })
    (hco : scope.isCoroutine = false) (hgen : scope.isGenerator = false) (hk : scope.kind = .function)
    (hcell : ∀ x ∈ scope.names, x.2 ≠ .cell) : codeAny (model prog w) A (.call (.ref f) args) R s :=
  codeAny_call_def (fd := fnOf name qual params body scope dV kV doc pm an cdv ct) (body := body) (binds := binds) hroom (X _ _ ho) rfl T.nolimit (codeRec_of X hcd) rfl hbind hcell hloc
    (fun h₁ hns hk₁ => h s.heap.objs.size h₁ ⟨hns, hk₁, Nat.le_refl _⟩ News.nil) hco hgen hk

/-- a def whose names are captured -/
theorem enterC (X : K.In s.heap) (T : Top p loose mean mg mb s.heap)
    (ho : K.lookup f = some ⟨oc, od, .func (fnOf name qual params body scope dV kV doc pm an cdv ct), osl⟩) (hcd : codeIn K cdv qual = true) (hroom : A.depth < recursionLimit)
    (hbind : BindsTo s (fnOf name qual params body scope dV kV doc pm an cdv ct) args binds)
    (hkind : (binds.all fun y => scope.names.lookup y.1 == some .local || scope.names.lookup y.1 == some .cell) = true)
    (hnd : ((cellsFrom 0 scope.names []).map (·.1)).Nodup)
    (h : ∀ L' h₁ tk cells, Fr s.heap L' h₁ (bindL (envOfC qual scope L' f cdv).kindOf binds fun _ => none) → News s.heap L' h₁ cells →
      CellsAre (bindC (envOfC qual scope L' f cdv).kindOf binds fun _ => none) (cellsFrom (L' + 1) scope.names []) cells →
      wpAny (model prog w) (A.deeper (envOfC qual scope L' f cdv)) (execs body (envOfC qual scope L' f cdv))
        (fun fl s' => R (.ok (.ret (match fl with | .ret v => v | _ => .none))) s')
        (fun e s' => wpAny (model prog w) (A.deeper (envOfC qual scope L' f cdv)) (leaving (envOfC qual scope L' f cdv) e) (fun _ s'' => R (.error e) s'') (fun e' s'' => R (.error e') s'') s')
        { s with heap := h₁, toks := tk })
    (hco : scope.isCoroutine = false) (hgen : scope.isGenerator = false) (hk : scope.kind = .function) : codeAny (model prog w) A (.call (.ref f) args) R s := by
  refine codeAny_call_function hroom (X _ _ ho) rfl hco hgen rfl (codeRec_of X hcd) (hbind _ _ _ _ ?_)
  refine wpAny_newFunctionEnv_cells hk (kindsX hkind _) fun env' he s' x => ?_
  subst he
  refine ⟨T.nolimit.keeps x.toInCall.keep, codeAny_func ?_⟩
  obtain ⟨h₁, tk, rfl, _⟩ := x.done
  have hk₁ := x.toInCall.keep
  obtain ⟨cells, NC, Y⟩ := Cl.news (h₀ := s.heap) (Nat.le_refl _) fun n c hm => ⟨x.cell n c (lookup_of_mem_nodup (cellsFrom_names scope.names 0 (s.heap.objs.size + 1) [] [] rfl ▸ hnd) hm), x.above n c hm⟩
  exact h s.heap.objs.size h₁ tk cells ⟨x.toInCall.ns, hk₁, Nat.le_refl _⟩ NC Y

/-- a def that may turn the objects of the ledger news: all else is the base -/
theorem enterH {hb : Heap} {news : List (Addr × Obj)} (st : hb.StaysIn s.heap) (X : K.In hb) (T : Top p loose mean mg mb hb) (hN : ∀ q ∈ news, s.heap.get? q.1 = some q.2 ∧ hb.get? q.1 = none)
    (ho : K.lookup f = some ⟨oc, od, .func (fnOf name qual params body scope dV kV doc pm an cdv ct), osl⟩) (hcd : codeIn K cdv qual = true) (hroom : A.depth < recursionLimit)
    (hbind : BindsTo s (fnOf name qual params body scope dV kV doc pm an cdv ct) args binds) (hloc : ∀ y ∈ binds, scope.names.lookup y.1 = some .local)
    (h : ∀ g L' h₁, (∀ b o, b ∉ news.map (·.1) → s.heap.get? b = some o → g.get? b = some o) → hb.StaysIn g → Fr g L' h₁ (fun y => binds.reverse.lookup y) → News g L' h₁ news → K.In g → Top p loose mean mg mb g →
      wpAny (model prog w) (A.deeper (envOf qual scope L' f cdv)) (execs body (envOf qual scope L' f cdv))
        (fun fl s' => R (.ok (.ret (match fl with | .ret v => v | _ => .none))) s')
        (fun e s' => wpAny (model prog w) (A.deeper (envOf qual scope L' f cdv)) (leaving (envOf qual scope L' f cdv) e) (fun _ s'' => R (.error e) s'') (fun e' s'' => R (.error e') s'') s')
        { s with heap := h₁, toks := s.toks + binds.length })
    (hco : scope.isCoroutine = false) (hgen : scope.isGenerator = false) (hk : scope.kind = .function)
    (hcell : ∀ x ∈ scope.names, x.2 ≠ .cell) : codeAny (model prog w) A (.call (.ref f) args) R s := by
  refine codeAny_call_def (fd := fnOf name qual params body scope dV kV doc pm an cdv ct) (body := body) (binds := binds) hroom ((X.keeps st) _ _ ho) rfl (T.nolimit.keeps st) (codeRec_of (X.keeps st) hcd) rfl hbind hcell hloc (fun h₁ hns hk₁ => ?_) hco hgen hk
  have st2 : hb.StaysIn (hideAll s.heap (news.map (·.1))) := fun b o e => hideAll_get _ (st b o e) fun q => by
    obtain ⟨p, hp, rfl⟩ := List.mem_map.mp q
    rw [(hN p hp).2] at e; cases e
  have X2 := X.keeps st2
  have T2 := T.keeps st2
  exact h (hideAll s.heap (news.map fun q => q.1)) s.heap.objs.size h₁ (fun b o hb e => hideAll_get _ e hb) st2 ⟨hns, fun b o e => hk₁ b o (of_hideAll _ e), Nat.le_of_eq (hideAll_size _ _)⟩
    (fun p hp => ⟨hk₁ _ _ (hN p hp).1, Nat.ne_of_lt (Heap.lt_size (hN p hp).1), hideAll_none _ (List.mem_map_of_mem hp)⟩) X2 T2
end

section
variable {h₀ : Heap} {L : Addr} {m : Str → Option Value} {news : List (Addr × Obj)}
theorem off1_of {l : Addr} : ∀ {ns : List (Addr × Obj)}, (∀ p ∈ ns, p.1 ≠ l) → LCg.Off1 l ns
  | [], _ => trivial
  | _ :: _, hh => ⟨hh _ List.mem_cons_self, off1_of fun q hq => hh q (List.mem_cons_of_mem _ hq)⟩
theorem news_new {h h' : Heap} {l : Addr} {o : Obj} (F : Fr h₀ L h m) (N : News h₀ L h news) (k : h.StaysIn h') (e : h.get? l = none) (e' : h'.get? l = some o) :
    Fr h₀ L h' m ∧ News h₀ L h' ((l, o) :: news) ∧ LCg.Off1 l news := by
  refine ⟨F.keeps k, fun p hp => ?_, off1_of fun p hp q => ?_⟩
  · rcases List.mem_cons.mp hp with rfl | hp
    · refine ⟨e', fun q => ?_, ?_⟩
      · obtain ⟨oL, _, _, hL, _⟩ := F.ns
        have q' : l = L := q
        rw [q', hL] at e; cases e
      · cases q : h₀.get? l with
        | none => rfl
        | some o' => have := F.keep _ _ q; rw [e] at this; cases this
    · exact (N.grown k) p hp
  · have := (N p hp).1
    rw [q, e] at this; cases this
end
theorem retI {s : Shared} {Q : Value → Shared → Prop} {h' : Heap} {tk' : Nat} {x y : Int} {t : Tok} {L : Addr} {m : Str → Option Value}
    (hret : ∀ t h' tk', s.heap.StaysIn h' → Q (.int x t) { s with heap := h', toks := tk' }) (e : y = x) (F : Fr s.heap L h' m) : Q (.int y t) { s with heap := h', toks := tk' } := by
  subst e; exact hret t h' tk' F.keep
end Mine
end TBs

section TC1
open PySem PySem.W PySem.Calls PyProof.Rows
namespace Mine
local macro_rules | `(tactic| walk_at "mine enter") => `(tactic| (refine wpAny_call ?_; k_dflt (refine' enter ?X ?T ?k6 ?k7 ?k8 ?k9 ?kB ?_ ?c2 ?c3 ?c4 ?c5; (case X => k_asm); (case T => k_asm); (case k6 => k_is); (case k7 => k_is); (case k8 => ktr_room); (case k9 => exact BindsTo.of_eq rfl); (case c5 => decide); (case kB => exact locs rfl); (case c2 => exact rfl); (case c3 => exact rfl); (case c4 => exact rfl); k_whole); intro L' h' F' N'; (try dsimp only); (try k_fold)))

theorem fm2 (n : Int) (k : Int) (hk : 0 ≤ k) : n.fmod k = n % k := Int.fmod_eq_emod_of_nonneg n hk
theorem fd2 (n : Int) (k : Int) (hk : 0 ≤ k) : n.fdiv k = n / k := Int.fdiv_eq_ediv_of_nonneg n hk

def halvF : Nat → Int → Int
  | 0, _ => 0
  | k+1, n => if n % 2 = 0 then halvF k (n / 2) + 1 else 0
def halv (n : Int) : Int := halvF n.toNat n
theorem halvF_stable : ∀ (k j : Nat) (n : Int), 0 < n → n.toNat ≤ k → n.toNat ≤ j → halvF k n = halvF j n := by
  intro k
  induction k with
  | zero => intro j n h h1; omega
  | succ k ih =>
    intro j n h h1 h2
    cases j with
    | zero => omega
    | succ j =>
      unfold halvF
      split
      · rw [ih j (n/2) (by omega) (by omega) (by omega)]
      · rfl
theorem halv_even {n : Int} (h : 0 < n) (he : n % 2 = 0) : halv n = halv (n / 2) + 1 := by
  unfold halv
  obtain ⟨k, hk⟩ : ∃ k, n.toNat = k + 1 := ⟨n.toNat - 1, by omega⟩
  rw [hk]
  conv => lhs; unfold halvF
  rw [if_pos he, halvF_stable k (n/2).toNat (n/2) (by omega) (by omega) (by omega)]
theorem halv_odd {n : Int} (h : 0 < n) (he : ¬ n % 2 = 0) : halv n = 0 := by
  unfold halv
  obtain ⟨k, hk⟩ : ∃ k, n.toNat = k + 1 := ⟨n.toNat - 1, by omega⟩
  rw [hk]
  conv => lhs; unfold halvF
  rw [if_neg he]
theorem halv_turn {n c k : Int} (h2 : halv n = c + halv k) (h1 : 0 < k) (he : k.fmod 2 = 0) : 0 < k.fdiv 2 ∧ halv n = (c + 1) + halv (k.fdiv 2) := by
  rw [fm2 _ _ (by decide)] at he
  rw [fd2 _ _ (by decide)]
  refine ⟨by omega, ?_⟩
  rw [h2, halv_even h1 he]; omega
theorem halv_less {k : Int} (h : 0 < k) : (k.fdiv 2).toNat < k.toNat := by
  rw [fd2 _ _ (by decide)]; omega
theorem halv_end {n c k : Int} (h2 : halv n = c + halv k) (h1 : 0 < k) (he : ¬ k.fmod 2 = 0) : c = halv n := by
  rw [fm2 _ _ (by decide)] at he
  rw [h2, halv_odd h1 he]; omega

set_option maxRecDepth 100000 in
set_option maxHeartbeats 8000000 in
theorem C_halv {w : World} {dp un : Nat} {gd : Option (List Code)} {frs : List Env} {s : Shared} {Q E : Value → Shared → Prop} (H : Sd w frs s.heap) (hdp : dp + 1 < recursionLimit)
    {n : Int} {t : Tok} (hn : 0 < n)
    (hret : ∀ t h' tk', s.heap.StaysIn h' → Q (.int (halv n) t) { s with heap := h', toks := tk' }) :
    wpAny (model PySem.Challenge.rw_oc0020_01.prog w) (Ar dp un gd frs) (call (.ref 63) [.int n t]) Q E s := by
  obtain ⟨p, loose, mean, mg, mb, X, T⟩ := H.get
  revert X
  k_fill
  intro X
  walk_at "mine enter"
  k_with_none
  w_top off
  k_with "exec While Compare cons nil" => k_while_given ["number!"] (fun n₀ _ c k => 0 < k ∧ halv n₀ = c + halv k ) (fun _ _ _ k => k.toNat) "count" "number"
  k_with "state" => exact halv_turn (by assumption) (by assumption) (by assumption)
  k_with "measure" => exact halv_less (by assumption)
  k_steps
  exact retI hret (halv_end (by assumption) (by assumption) (by assumption)) (by assumption)

def carrF : Nat → Int → Int → Int → Int
  | 0, _, _, _ => 0
  | k+1, a, b, o => if 0 < a ∨ 0 < b ∨ 0 < o then (a % 16 + b % 16 + o) / 16 + carrF k (a / 16) (b / 16) ((a % 16 + b % 16 + o) / 16) else 0
def carr3 (a b o : Int) : Int := carrF (2 * (a + b) + o).toNat a b o
def carr (a b : Int) : Int := carr3 a b 0
theorem carrF_stable : ∀ (k j : Nat) (a b o : Int), 0 ≤ a → 0 ≤ b → 0 ≤ o → o ≤ 1 → (2 * (a + b) + o).toNat ≤ k → (2 * (a + b) + o).toNat ≤ j → carrF k a b o = carrF j a b o := by
  intro k
  induction k with
  | zero =>
    intro j a b o h1 h2 h3 h4 h5 h6
    have ha : a = 0 := by omega
    have hb : b = 0 := by omega
    have ho : o = 0 := by omega
    subst ha; subst hb; subst ho
    cases j with
    | zero => rfl
    | succ j => simp [carrF]
  | succ k ih =>
    intro j a b o h1 h2 h3 h4 h5 h6
    cases j with
    | zero =>
      have ha : a = 0 := by omega
      have hb : b = 0 := by omega
      have ho : o = 0 := by omega
      subst ha; subst hb; subst ho
      simp [carrF]
    | succ j =>
      unfold carrF
      split
      · rename_i hc
        rw [ih j (a/16) (b/16) ((a % 16 + b % 16 + o) / 16) (by omega) (by omega) (by omega) (by omega) (by omega) (by omega)]
      · rfl
theorem carr3_step {a b o : Int} (h1 : 0 ≤ a) (h2 : 0 ≤ b) (h3 : 0 ≤ o) (h4 : o ≤ 1) (hc : 0 < a ∨ 0 < b ∨ 0 < o) :
    carr3 a b o = (a % 16 + b % 16 + o) / 16 + carr3 (a / 16) (b / 16) ((a % 16 + b % 16 + o) / 16) := by
  unfold carr3
  obtain ⟨k, hk⟩ : ∃ k, (2 * (a + b) + o).toNat = k + 1 := ⟨(2 * (a + b) + o).toNat - 1, by omega⟩
  rw [hk]
  conv => lhs; unfold carrF
  rw [if_pos hc, carrF_stable k _ (a/16) (b/16) ((a % 16 + b % 16 + o) / 16) (by omega) (by omega) (by omega) (by omega) (by omega) (Nat.le_refl _)]
theorem carr3_zero : carr3 0 0 0 = 0 := by decide
theorem carr_turn {A B c a b o : Int} (h : carr A B = c + carr3 a b o) (h1 : 0 ≤ a) (h2 : 0 ≤ b) (h3 : 0 ≤ o) (h4 : o ≤ 1) (hc : 0 < a ∨ 0 < b ∨ 0 < o) :
    0 ≤ a.fdiv 16 ∧ 0 ≤ b.fdiv 16 ∧ 0 ≤ (a.fmod 16 + b.fmod 16 + o).fdiv 16 ∧ (a.fmod 16 + b.fmod 16 + o).fdiv 16 ≤ 1 ∧ carr A B = c + (a.fmod 16 + b.fmod 16 + o).fdiv 16 + carr3 (a.fdiv 16) (b.fdiv 16) ((a.fmod 16 + b.fmod 16 + o).fdiv 16) := by
  simp only [fm2 _ 16 (by decide), fd2 _ 16 (by decide)]
  refine ⟨by omega, by omega, by omega, by omega, ?_⟩
  rw [h, carr3_step h1 h2 h3 h4 hc]; omega
theorem carr_less {a b o : Int} (h1 : 0 ≤ a) (h2 : 0 ≤ b) (h3 : 0 ≤ o) (h4 : o ≤ 1) (hc : 0 < a ∨ 0 < b ∨ 0 < o) :
    (2 * (a.fdiv 16 + b.fdiv 16) + (a.fmod 16 + b.fmod 16 + o).fdiv 16).toNat < (2 * (a + b) + o).toNat := by
  simp only [fm2 _ 16 (by decide), fd2 _ 16 (by decide)]
  omega
theorem carr_end {A B c a b o : Int} (h : carr A B = c + carr3 a b o) (h1 : 0 ≤ a) (h2 : 0 ≤ b) (h3 : 0 ≤ o) (hc : ¬ (0 < a ∨ 0 < b ∨ 0 < o)) : c = carr A B := by
  have ha : a = 0 := by omega
  have hb : b = 0 := by omega
  have ho : o = 0 := by omega
  subst ha; subst hb; subst ho
  rw [h, carr3_zero]; omega

set_option maxRecDepth 100000 in
set_option maxHeartbeats 8000000 in
theorem C_carr {w : World} {dp un : Nat} {gd : Option (List Code)} {frs : List Env} {s : Shared} {Q E : Value → Shared → Prop} (H : Sd w frs s.heap) (hdp : dp + 1 < recursionLimit)
    {a b : Int} {t u : Tok} (ha : 0 ≤ a) (hb : 0 ≤ b)
    (hret : ∀ t h' tk', s.heap.StaysIn h' → Q (.int (carr a b) t) { s with heap := h', toks := tk' }) :
    wpAny (model PySem.Challenge.rw_oc0020_01.prog w) (Ar dp un gd frs) (call (.ref 56) [.int a t, .int b u]) Q E s := by
  obtain ⟨p, loose, mean, mg, mb, X, T⟩ := H.get
  revert X
  k_fill
  intro X
  walk_at "mine enter"
  k_with_none
  w_top off
  k_with "exec While BoolOp cons nil" => k_while_given ["a!", "b!"] (fun a₀ b₀ _ c o a b => 0 ≤ a ∧ 0 ≤ b ∧ 0 ≤ o ∧ o ≤ 1 ∧ carr a₀ b₀ = c + carr3 a b o) (fun _ _ _ _ o a b => (2 * (a + b) + o).toNat) "count" "over" "a" "b"
  k_with "state" => exact carr_turn (by assumption) (by assumption) (by assumption) (by assumption) (by assumption) (by omega)
  k_with "measure" => exact carr_less (by assumption) (by assumption) (by assumption) (by assumption) (by omega)
  k_steps
  all_goals exact retI hret (carr_end (by assumption) (by assumption) (by assumption) (by assumption) (by omega)) (by assumption)
end Mine
end TC1

section TC2
open PySem PySem.W PySem.Calls PyProof.Rows
namespace Mine
local macro_rules | `(tactic| walk_at "mine enterC") => `(tactic| (refine wpAny_call ?_; k_dflt (refine' enterC ?X ?T ?k6 ?k7 ?k8 ?k9 ?kB ?kD ?_ ?c2 ?c3 ?c4; (case X => k_asm); (case T => k_asm); (case k6 => k_is); (case k7 => k_is); (case k8 => ktr_room); (case k9 => exact BindsTo.of_eq rfl); (case kB => exact rfl); (case kD => decide +kernel); (case c2 => exact rfl); (case c3 => exact rfl); (case c4 => exact rfl); k_whole); intro L' h' tk' cells' F' N' Y'; k_cells Y'; (try dsimp only); (try k_fold)))
section
variable {w : World} {h₀ : Heap} {frs : List Env} {L : Addr} {m : Str → Option Value} {news : List (Addr × Obj)} {dp un : Nat} {gd : Option (List Code)} {s : Shared} {Q E : Value → Shared → Prop}
theorem K_halv (H : Sd w frs s.heap) (F : Fr h₀ L s.heap m) (N : News h₀ L s.heap news) (hdp : dp + 1 < recursionLimit) {n : Int} {t : Tok} (hn : 0 < n)
    (h : ∀ t h' tk', Fr h₀ L h' m → News h₀ L h' news → Q (.int (halv n) t) { s with heap := h', toks := tk' }) :
    wpAny (model PySem.Challenge.rw_oc0020_01.prog w) (Ar dp un gd frs) (call (.ref 63) [.int n t]) Q E s :=
  C_halv H hdp hn fun t h' tk' k => h t h' tk' (F.keeps k) (N.grown k)
end
local macro_rules | `(tactic| walk_at "call ref") => `(tactic| (k_here; (with_reducible show wpAny _ _ (call (Value.ref 63) [Value.int _ _]) _ _ _); k_dflt (refine' K_halv ?kH ?k2 ?k8 ?kd ?kp ?_; (case kH => exact Sd.use (by assumption) (by k_asm) rfl rfl); (case k2 => k_asm); (case k8 => k_asm); (case kd => ktr_room); (case kp => omega); k_whole); intro t9 h9 tk9 F' N'; (try dsimp only); (try k_sweep)))

def twos (total number : Int) : Int := ((rangeKs 1 number.toNat).map (fun m => halv (total + m) - halv m)).sum

set_option maxRecDepth 100000 in
set_option maxHeartbeats 8000000 in
theorem C_twos {w : World} {dp un : Nat} {gd : Option (List Code)} {frs : List Env} {s : Shared} {Q E : Value → Shared → Prop} (H : Sd w frs s.heap) (hdp : dp + 2 < recursionLimit)
    {a b : Int} {t u : Tok} (ha : 0 ≤ a) (hb : 0 ≤ b) (hb1 : b < 1000)
    (hret : ∀ t h' tk', s.heap.StaysIn h' → Q (.int (twos a b) t) { s with heap := h', toks := tk' }) :
    wpAny (model PySem.Challenge.rw_oc0020_01.prog w) (Ar dp un gd frs) (call (.ref 68) [.int a t, .int b u]) Q E s := by
  obtain ⟨p, loose, mean, mg, mb, X, T⟩ := H.get
  revert X
  k_fill
  intro X
  walk_at "mine enterC"
  k_with_none
  w_top off
  k_steps
  exact retI hret (by unfold twos; rw [show b + 1 - 1 = b by omega]) (by assumption)
end Mine
end TC2

section TC3
open PySem PySem.W PySem.Calls PyProof.Rows
namespace Mine
local macro_rules | `(tactic| walk_at "mine enter") => `(tactic| (refine wpAny_call ?_; k_dflt (refine' enter ?X ?T ?k6 ?k7 ?k8 ?k9 ?kB ?_ ?c2 ?c3 ?c4 ?c5; (case X => k_asm); (case T => k_asm); (case k6 => k_is); (case k7 => k_is); (case k8 => ktr_room); (case k9 => exact BindsTo.of_eq rfl); (case c5 => decide); (case kB => exact locs rfl); (case c2 => exact rfl); (case c3 => exact rfl); (case c4 => exact rfl); k_whole); intro L' h' F' N'; (try dsimp only); (try k_fold)))

local macro_rules | `(tactic| walk_at "eval ListComp") => `(tactic| (k_here; k_dflt (refine LCg.ListComp_U (F₀ := by k_asm) (by with_unfolding_all rfl) (by decide) (by rfl) (by decide) (by rfl) ?_)))
theorem size_le {vs : List Value} {ns : List Int} (hi : IntsAre vs ns) (hsz : ns.length ≤ 100) : vs.toArray.size ≤ sizeLine := by
  rw [List.size_toArray, PySem.sizeLine_eq]; have := hi.length; omega
local macro_rules | `(tactic| walk_at "CompSrc") => `(tactic| (k_here; k_dflt (refine LCg.CompSrc.base (by rfl) (by k_asm) (by k_asm) (by assumption) (size_le (by assumption) (by assumption)) ?_; intro g'; (refine' kcf_list _ (by assumption) (fun k' t' I' oI' C' oC' D' m' ys' h' tk' E' hk' hC' hx' F' N' off' ne' hMark' => ?_) ?_); (all_goals (try (simp only [LCg.Off3, and_true] at off'))); kcf_last)))
def worth (ns : List Int) : Int := (ns.map (fun x => x - 65)).sum
set_option maxRecDepth 100000 in
set_option maxHeartbeats 8000000 in
theorem C_worth {w : World} {dp un : Nat} {gd : Option (List Code)} {frs : List Env} {s : Shared} {Q E : Value → Shared → Prop} (H : Sd w frs s.heap) (hdp : dp + 2 < recursionLimit)
    {l : Addr} {vs : List Value} {ns : List Int} (hl : s.heap.IsList l vs.toArray) (hi : IntsAre vs ns) (hsz : ns.length ≤ 100)
    (hret : ∀ t h' tk', s.heap.StaysIn h' → Q (.int (worth ns) t) { s with heap := h', toks := tk' }) :
    wpAny (model PySem.Challenge.rw_oc0020_01.prog w) (Ar dp un gd frs) (call (.ref 73) [.ref l]) Q E s := by
  obtain ⟨p, loose, mean, mg, mb, X, T⟩ := H.get
  revert X
  k_fill
  intro X
  walk_at "mine enter"
  k_with_none
  w_top off
  k_steps
  exact retI hret rfl (by assumption)

end Mine
end TC3

section TC4
open PySem PySem.W PySem.Calls PyProof.Rows
namespace Mine
local macro_rules | `(tactic| walk_at "idle") => `(tactic| fail "idle")
local macro_rules | `(tactic| walk_at "mine enter") => `(tactic| (refine wpAny_call ?_; k_dflt (refine' enter ?X ?T ?k6 ?k7 ?k8 ?k9 ?kB ?_ ?c2 ?c3 ?c4 ?c5; (case X => k_asm); (case T => k_asm); (case k6 => k_is); (case k7 => k_is); (case k8 => ktr_room); (case k9 => exact BindsTo.of_eq rfl); (case c5 => decide); (case kB => exact locs rfl); (case c2 => exact rfl); (case c3 => exact rfl); (case c4 => exact rfl); k_whole); intro L' h' F' N'; (try dsimp only); (try k_fold)))

def apF : Nat → Int → List Int → List Int
  | 0, _, acc => acc
  | k+1, n, acc => if n = 0 then acc else apF k (n / 16) ((65 + n % 16) :: acc)
def apG (n : Int) (acc : List Int) : List Int := apF n.toNat n acc
theorem apF_stable : ∀ (k j : Nat) (n : Int) (acc : List Int), 0 ≤ n → n.toNat ≤ k → n.toNat ≤ j → apF k n acc = apF j n acc := by
  intro k
  induction k with
  | zero =>
    intro j n acc h0 h1 _
    have : n = 0 := by omega
    subst this
    cases j with
    | zero => rfl
    | succ j => simp [apF]
  | succ k ih =>
    intro j n acc h0 h1 h2
    cases j with
    | zero =>
      have : n = 0 := by omega
      subst this
      simp [apF]
    | succ j =>
      unfold apF
      split
      · rfl
      · exact ih j (n / 16) _ (by omega) (by omega) (by omega)
theorem apG_zero (acc : List Int) : apG 0 acc = acc := rfl
theorem apG_step {n : Int} {acc : List Int} (h0 : 0 ≤ n) (hn : n ≠ 0) : apG n acc = apG (n / 16) ((65 + n % 16) :: acc) := by
  unfold apG
  obtain ⟨k, hk⟩ : ∃ k, n.toNat = k + 1 := ⟨n.toNat - 1, by omega⟩
  rw [hk]
  conv => lhs; unfold apF
  rw [if_neg hn]
  exact apF_stable k _ (n / 16) _ (by omega) (by omega) (Nat.le_refl _)

abbrev ap16 : Array UInt8 := #[65, 66, 67, 68, 69, 70, 71, 72, 73, 74, 75, 76, 77, 78, 79, 80]
abbrev ap16L : List Int := [65, 66, 67, 68, 69, 70, 71, 72, 73, 74, 75, 76, 77, 78, 79, 80]
theorem ap_cutF : ∀ k : Fin 16, (ap16L.drop (clipAt ap16L.length ((k.val : Nat) : Int))).take (clipAt ap16L.length (((k.val : Nat) : Int) + 1) - clipAt ap16L.length ((k.val : Nat) : Int)) = [65 + ((k.val : Nat) : Int)] := by decide
theorem ap_cut {k : Int} (h0 : 0 ≤ k) (h1 : k < 16) : (ap16L.drop ((some k).elim 0 (clipAt ap16L.length))).take ((some (k + 1)).elim ap16L.length (clipAt ap16L.length) - (some k).elim 0 (clipAt ap16L.length)) = [65 + k] := by
  obtain ⟨j, rfl⟩ := Int.eq_ofNat_of_zero_le h0
  exact ap_cutF ⟨j, by omega⟩

section
variable {prog : Program} {w : World} {A : Around} {E : Value → Shared → Prop} {s : Shared} {value slice : PySem.Expr} {t t1 t2 : Tok} {h₀ : Heap} {L : Addr} {m : PySem.Str → Option Value} {news : List (Addr × Obj)} {Q : Value → Shared → Prop} {k : Int}
theorem ap_slice (hF : Fr h₀ L s.heap m) (hN : News h₀ L s.heap news) (h0 : 0 ≤ k) (h1 : k < 16)
    (h : ∀ b' h' t' tk, Fr h₀ L h' m → News h₀ L h' news → KBw.bInts b' = [65 + k] → Q (.bytes b' t') { s with heap := h', toks := tk })
    (hs : subscripted slice false (.bytes ap16 t) (.ref s.heap.objs.size) = operate [.ref s.heap.objs.size, .bytes ap16 t] (getItem (.bytes ap16 t) (.ref s.heap.objs.size)) := by with_unfolding_all rfl)
    (ht : ∀ r, letTemporaryGo value (.bytes ap16 t) r = pure () := by intro _; with_unfolding_all rfl) :
    wpAny (model prog w) A (subscriptTail value slice (.bytes ap16 t) (.ref s.heap.objs.size)) Q E { s with heap := s.heap.push { cls := .type "slice", data := .fields #[.int k t1, .int (k + 1) t2, .none] } } :=
  KBc.slice_K (ks := ap16L) hF hN rfl (.int k t1) (.int (k + 1) t2) (by decide) (fun h' t' tk F N e => h _ h' t' tk F N (e.trans (ap_cut h0 h1))) hs ht
theorem ap_add {b c : Array UInt8} {x : Int} (hb : KBw.bInts b = [x]) (hc : c.size ≤ 5000) (h : ∀ b' t' k, KBw.bInts b' = x :: KBw.bInts c → b'.size = c.size + 1 → Q (.bytes b' t') { s with toks := k }) :
    wpAny (model prog w) A (binaryOp .Add (.bytes b t) (.bytes c t1)) Q E s := by
  refine KBa.add_K hb rfl ?_ fun t' k e => h _ t' k e ?_
  · rw [KBw.ints_length]; simp; omega
  · rw [← KBw.ints_length, e]; simp [KBw.ints_length]
end
theorem ap_lo (n : Int) : 0 ≤ n.fmod 16 := by rw [fm2 _ _ (by decide)]; omega
theorem ap_hi (n : Int) : n.fmod 16 < 16 := by rw [fm2 _ _ (by decide)]; omega
local macro_rules | `(tactic| walk_at "subscriptTail") => `(tactic| (k_here; (with_reducible show wpAny _ _ (subscriptTail _ (Expr.Slice _ _ none _) (Value.bytes _ _) (Value.ref _)) _ _ _); (with_reducible rename Fr _ _ _ _ => F'); (with_reducible rename News _ _ _ _ => N'); (refine ap_slice (s := ⟨_, _, _, _, _⟩) F' N' (ap_lo _) (ap_hi _) ?_); intro b' h' t' tk' F' N' kbcK))
local macro_rules | `(tactic| walk_at "binaryOp Add bytes bytes") => `(tactic| (k_here; (refine ap_add (by assumption) (by omega) ?_); intro b' t' tk' kbcA kbcS))
theorem ap_turn {n k : Int} {v b : Array UInt8} (h : apG n [] = apG k (KBw.bInts v)) (h0 : 0 ≤ k) (h1 : k < 4096) (h2 : (v.size : Int) + k ≤ n) (hk : k ≠ 0) (e : KBw.bInts b = (65 + k.fmod 16) :: KBw.bInts v) (e2 : b.size = v.size + 1) :
    0 ≤ k.fdiv 16 ∧ k.fdiv 16 < 4096 ∧ (b.size : Int) + k.fdiv 16 ≤ n ∧ apG n [] = apG (k.fdiv 16) (KBw.bInts b) := by
  rw [fm2 _ _ (by decide)] at e
  rw [fd2 _ _ (by decide), e, e2, h, apG_step h0 hk]
  refine ⟨by omega, by omega, by omega, rfl⟩
theorem ap_less {k : Int} (h0 : 0 ≤ k) (hk : k ≠ 0) : (k.fdiv 16).toNat < k.toNat := by
  rw [fd2 _ _ (by decide)]; omega
theorem ap_end {s : Shared} {Q : Value → Shared → Prop} {h' : Heap} {tk' : Nat} {n k : Int} {t : Tok} {L : Addr} {m : Str → Option Value} {v : Array UInt8}
    (hret : ∀ b t h' tk', KBw.bInts b = apG n [] → s.heap.StaysIn h' → Q (.bytes b t) { s with heap := h', toks := tk' }) (h0 : 0 ≤ n) (e : apG (if n < 0 then -n else n) [] = apG k (KBw.bInts v)) (hk : k = 0) (F : Fr s.heap L h' m) :
    Q (.bytes v t) { s with heap := h', toks := tk' } := by
  rw [if_neg (by omega), hk, apG_zero] at e
  exact hret v t h' tk' e.symm F.keep

set_option maxRecDepth 100000 in
set_option maxHeartbeats 8000000 in
theorem C_ap {w : World} {dp un : Nat} {gd : Option (List Code)} {frs : List Env} {s : Shared} {Q E : Value → Shared → Prop} (H : Sd w frs s.heap) (hdp : dp + 1 < recursionLimit)
    {n : Int} {t : Tok} (h0 : 0 ≤ n) (hn : n < 4096)
    (hret : ∀ b t h' tk', KBw.bInts b = apG n [] → s.heap.StaysIn h' → Q (.bytes b t) { s with heap := h', toks := tk' }) :
    wpAny (model PySem.Challenge.rw_oc0020_01.prog w) (Ar dp un gd frs) (call (.ref 21) [.int n t]) Q E s := by
  obtain ⟨p, loose, mean, mg, mb, X, T⟩ := H.get
  revert X
  k_fill
  intro X
  walk_at "mine enter"
  k_with_none
  w_top off
  k_with "exec While Name cons nil" => k_while_given ["num!"] (fun n₀ _ k v => 0 ≤ k ∧ k < 4096 ∧ (v.size : Int) + k ≤ n₀ ∧ apG n₀ [] = apG k (KBw.bInts v)) (fun _ _ k _ => k.toNat) "num" "val"
  k_with "state" => exact ap_turn (by assumption) (by assumption) (by assumption) (by assumption) (by assumption) (by assumption) (by assumption)
  k_with "measure" => exact ap_less (by assumption) (by assumption)
  k_steps
  dsimp only
  refine ap_end hret h0 (by assumption) (by assumption) (by assumption)
end Mine
end TC4

section TC5a
open PySem PySem.W PySem.Calls PyProof.Rows
namespace Mine

theorem kf_of {vs : List Value} {ns : List Int} (h : IntsAre vs ns) : kf_ints vs = true := by
  induction h with
  | nil => rfl
  | cons n t _ ih => exact ih
theorem ints_at {x : Int} : ∀ {vs : List Value} {ns : List Int}, IntsAre vs ns → x ∈ ns → ∃ j, kf_at x vs = some j ∧ IntsAre (vs.eraseIdx j) (ns.erase x) ∧ j < vs.length
  | _, _, .nil, h => nomatch h
  | _, _, .cons (vs := vs) (ns := ns) n t hi, h => by
    by_cases e : n = x
    · subst e
      refine ⟨0, by simp [kf_at, isInt], ?_, Nat.zero_lt_succ _⟩
      simp only [List.eraseIdx_cons_zero, List.erase_cons_head]
      exact hi
    · have h' : x ∈ ns := by
        rcases List.mem_cons.mp h with q | q
        · exact absurd q.symm e
        · exact q
      obtain ⟨j, h1, h2, h3⟩ := ints_at hi h'
      refine ⟨j + 1, ?_, ?_, Nat.succ_lt_succ h3⟩
      · have hb : (n == x) = false := by simpa using e
        simp [kf_at, isInt, hb, h1]
      · rw [List.erase_cons_tail (by simpa using e), List.eraseIdx_cons_succ]
        exact .cons n t h2
theorem ints_no {x : Int} : ∀ {vs : List Value} {ns : List Int}, IntsAre vs ns → x ∉ ns → ∀ y ∈ vs, isInt x y = false
  | _, _, .nil, _, _, h => nomatch h
  | _, _, .cons n t hi, h, y, hy => by
    rcases List.mem_cons.mp hy with rfl | hy
    · have : n ≠ x := fun q => h (by rw [q]; exact List.mem_cons_self)
      simpa [isInt] using this
    · exact ints_no hi (fun q => h (List.mem_cons_of_mem _ q)) y hy

section
variable {prog : Program} {w : World} {A : Around} {E : Value → Shared → Prop} {s : Shared} {h₀ : Heap} {L a : Addr} {m : Str → Option Value} {news : List (Addr × Obj)} {g : Obj → List (Addr × Obj)} {rs : List Value} {ys : List Int} {n : Nat} {x : Int} {t : Tok}

theorem uld_truthy {Q : Bool → Shared → Prop} (N : News h₀ L s.heap news) (hm : (a, listOf rs.toArray n) ∈ news) (ia : IntsAre rs ys) (hz : ys.length ≤ 100)
    (h1 : ys ≠ [] → Q true { s with toks := s.toks + 1 + 1 }) (h2 : ys = [] → Q false { s with toks := s.toks + 1 + 1 }) : wpAny (model prog w) A (truthy (.ref a)) Q E s := by
  have hl := ia.length
  refine wpAny_truthy_list (PySem.IsL.isList (n := n) (N _ hm).1) (by rw [List.size_toArray]; omega) ?_
  cases ia with
  | nil => exact h2 rfl
  | cons n t hi => exact h1 (by simp)

theorem uld_remove {Q : Value → Shared → Prop} (hh : A.handled = none) (F : Fr h₀ L s.heap m) (N : News h₀ L s.heap news) (U : UpdF a (listOf rs.toArray n) news g) (ia : IntsAre rs ys) (hz : ys.length ≤ 100)
    (hin : x ∈ ys → ∀ h' rs', Fr h₀ L h' m → News h₀ L h' (g (listOf rs'.toArray (n + 1))) → IntsAre rs' (ys.erase x) → Q .none { s with heap := h' })
    (hout : x ∉ ys → ∀ h' tk e', Heap.NewExc s.heap h' e' "ValueError" → E (.ref e') { s with heap := h', toks := tk }) :
    wpAny (model prog w) A (call (.builtin "list.remove") [.ref a, .int x t]) Q E s := by
  obtain ⟨pre, post, rfl, hg, a', b'⟩ := U.split
  have z := N (a, listOf rs.toArray n) (List.mem_append.mpr (.inr (.head _)))
  have hlen := ia.length
  have heq : ∀ y, y ∈ rs.toArray → MeetsSeq.EqGives y (.int x t) (isInt x y) := fun y hy => kf_eq (kf_of ia) y (by simpa using hy)
  by_cases hx : x ∈ ys
  · obtain ⟨j, h1, h2, h3⟩ := ints_at ia hx
    obtain ⟨ja, jb, jc⟩ := kf_at_spec h1
    have hs : rs.toArray.size = rs.length := List.size_toArray
    refine call_meets PySem.F.slot_list_remove ⟨_, z.1, rfl⟩ PySem.F.entry_list_remove (PySem.F.args_list_remove_2 _ _)
      (MeetsSeq.list_remove a rs.toArray n (.int x t) (isInt x) heq j (by rw [hs]; exact ja) (by simpa using jb) (fun i hi hlt => (by simpa using jc i (by rw [hs] at hi; exact hi) hlt)) (by rw [hs, PySem.sizeLine_eq]; omega)) ⟨z.1, ?_⟩
    refine hin hx _ (rs.eraseIdx j) (F.change (Heap.SameBut.update ..) z.2.1 z.2.2) ?_ h2
    rw [hg]
    refine ki_turn _ N a' b' ?_ ?_
    · show rs.toArray.eraseIdxIfInBounds j = (rs.eraseIdx j).toArray
      apply Array.toList_inj.mp
      simp
    · have hq : (rs.eraseIdx j).toArray.size ≠ rs.toArray.size := by rw [List.size_toArray, List.size_toArray, List.length_eraseIdx, if_pos h3]; omega
      rw [if_neg (by simpa using hq)]
  · refine call_meets PySem.F.slot_list_remove ⟨_, z.1, rfl⟩ PySem.F.entry_list_remove (PySem.F.args_list_remove_2 _ _)
      (MeetsSeq.list_remove_none a rs.toArray n (.int x t) (isInt x) heq (fun i hi => ints_no ia hx _ (by simp))) ⟨z.1, hh, fun h' tk e' hn => ?_⟩
    exact hout hx h' tk e' hn
end

section
variable {prog : Program} {w : World} {A₀ : Around} {E : Value → Shared → Prop} {s' : Shared} {hb h : Heap} {L a e : Addr} {m : Str → Option Value} {name : Str} {scope : Scope} {cd : Value} {l : List Env} {frs new : List (Addr × Obj)} {K : Frag}
  {b₀ : Stmt} {suite : List Stmt} {pos np : Pos} {rest : List ExceptHandler} {Q : Flow → Shared → Prop} {p : Program} {loose : List Str} {mean : ExcName → Option Value} {mg mb : Str → Option Value}
theorem uld_caught (hfr : A₀.frames = some l) (Fs : TI.Frs l frs) (hx : Heap.NewExc h s'.heap e "ValueError") (F : Fr hb L h m) (N : News hb L h (new ++ frs)) (hap : ∀ p ∈ new, p.1 ∉ L :: frs.map (·.1))
    (X : K.In hb) (T : Top p loose mean mg mb hb) (hnb : nsIn K mainGlobals (Str.ofString "ValueError") = some none)
    (k : ∀ h' frs', TI.SameUp frs frs' → TI.Frs l frs' → Fr hb L h' m → News hb L h' (new ++ frs') →
      wpAny (model prog w) ((A₀.deeper (envOf name scope L a cd)).mark (some (.ref e))) (execs (b₀ :: suite) (envOf name scope L a cd)) Q E { s' with heap := h' })
    (hk : scope.kind = .function := by rfl) (hxk : (envOf name scope L a cd).kindOf (Str.ofString "ValueError") = some .globalImplicit := by rfl)
    (hE : PassesOwnAt (model prog w) ((A₀.deeper (envOf name scope L a cd)).mark (some (.ref e))) (A₀.deeper (envOf name scope L a cd)) (envOf name scope L a cd) E := by passes_own) :
    wpAny (model prog w) (A₀.deeper (envOf name scope L a cd)) (noteFrame (.ref e) (envOf name scope L a cd))
      (fun _ s₂ => wpAny (model prog w) (A₀.deeper (envOf name scope L a cd)) (setFlight (.ref e) none) (fun _ s₃ =>
        wpAny (model prog w) (A₀.deeper (envOf name scope L a cd)) (handleBy (.ref e) (envOf name scope L a cd) (.ExceptHandler (some (.Name (Str.ofString "ValueError") np)) none (b₀ :: suite) pos :: rest)) Q E s₃) E s₂) E s' := by
  refine TLg.noted_newA hfr Fs hx F N hap (fun h₁ frs₁ SU Fs₁ H => ?_) hk
  refine TT.HeldNA.land (s' := { s' with heap := h₁ }) H fun h₂ H₂ => ?_
  refine wpAny_handleBy_builtin (X := "ValueError") (T := "ValueError") (b := true) PySem.F.isExc_ValueError PySem.F.notTuple_ValueError (by rw [isSubtype_type]; kernel_rfl)
    (wpAny_passesOwnAt hE (nameX_B (cl := []) (s := { s' with heap := h₂ }) H₂.held.fr X (topRead_of T) hnb PyProof.Rows.Boot.«ValueError» (by decide) ⟨rfl, H₂.isA, ?_⟩ hk hxk))
  rw [if_pos rfl]
  exact TT.HeldNA.lands (s' := { s' with heap := h₂ }) H₂ fun h₃ F₃ N₃ => wpAny_passesOwnAt hE (k h₃ frs₁ SU Fs₁ F₃ N₃)
end
end Mine
end TC5a

section TC5
open PySem PySem.W PySem.Calls PyProof.Rows
namespace Mine
local macro_rules | `(tactic| walk_at "mine enterH") => `(tactic| (refine wpAny_call ?_; k_dflt (refine' enterH ?st ?X ?T ?hN ?k6 ?k7 ?k8 ?k9 ?kB ?_ ?c2 ?c3 ?c4 ?c5; (case st => assumption); (case X => k_asm); (case T => k_asm); (case hN => assumption); (case k6 => k_is); (case k7 => k_is); (case k8 => ktr_room); (case k9 => exact BindsTo.of_eq rfl); (case c5 => decide); (case kB => exact locs rfl); (case c2 => exact rfl); (case c3 => exact rfl); (case c4 => exact rfl); k_whole); intro g' L' h' hg' hbg' F' N' X' T'; (try dsimp only); (try k_fold)))

theorem uld_pos {vs : List Value} {ns : List Int} (hi : IntsAre vs ns) (h : ns ≠ []) : 0 < vs.length := by
  rw [hi.length]; exact List.length_pos_iff.mpr h
theorem uld_room {vs : List Value} {ns : List Int} (hi : IntsAre vs ns) (h : ns.length ≤ 100) : vs.length ≤ sizeLine := by
  rw [hi.length, PySem.sizeLine_eq]; omega

local macro_rules | `(tactic| walk_at "truthy ref") => `(tactic| (k_here; k_dflt (refine' uld_truthy ?N ?m ?i ?z ?h1 ?h2; (case N => k_asm); (case m => k_mem); (case i => assumption); (case z => omega)); all_goals intro hT'))
local macro_rules | `(tactic| walk_at "call builtin:list.pop") => `(tactic| (k_here; k_dflt (refine' kpa_pop ?F ?N ?U ?i ?l ?z ?_; (case F => k_asm); (case N => k_asm); (case U => k_upd); (case i => assumption); (case l => exact uld_pos (by assumption) (by assumption)); (case z => exact uld_room (by assumption) (by omega))); (intro h' t' F' N' hI'; (try dsimp only [List.nil_append, List.cons_append] at N'))))
local macro_rules | `(tactic| walk_at "call builtin:list.remove") => `(tactic| (k_here; k_dflt (refine' uld_remove ?hh ?F ?N ?U ?i ?z ?h1 ?h2; (case hh => rfl); (case F => k_asm); (case N => k_asm); (case U => k_updF); (case i => assumption); (case z => omega)); all_goals (first | (refine fun hX' h' tk' e' (hNew' : Heap.NewExc _ _ _ _) => ?_; (try dsimp only)) | (refine fun hX' h' rs2' (F' : Fr _ _ _ _) N' hI2' => ?_; (try dsimp only at N'); (try k_sweep)))))
def uldGo : List Int → List Int → List Int → List Int × List Int
  | [], ys, ms => (ms, ys)
  | x :: r, ys, ms => if x ∈ ys then uldGo r (ys.erase x) ms else uldGo r ys (ms ++ [x])
def uld (xs ys : List Int) : List Int × List Int := uldGo xs.reverse ys []

structure US where
  es : List Value
  rs : List Value
  ms : List Value
  xs : List Int
  ys : List Int
  zs : List Int
  n1 : Nat
  n2 : Nat
  n3 : Nat
  fos : List (Addr × Obj)

def US.led (e a mi : Addr) (c : US) : List (Addr × Obj) := (mi, listOf c.ms.toArray c.n3) :: (e, listOf c.es.toArray c.n1) :: (a, listOf c.rs.toArray c.n2) :: c.fos
def US.ok (e a mi : Addr) (xs ys : List Int) (fos : List (Addr × Obj)) (c : US) : Prop :=
  (@Ne Nat e a ∧ @Ne Nat e mi ∧ @Ne Nat a mi) ∧ ((∀ p ∈ c.fos, p.1 ≠ e) ∧ (∀ p ∈ c.fos, p.1 ≠ a) ∧ (∀ p ∈ c.fos, p.1 ≠ mi)) ∧ IntsAre c.es c.xs ∧ IntsAre c.rs c.ys ∧ IntsAre c.ms c.zs ∧ TI.SameUp fos c.fos ∧ uldGo c.xs.reverse c.ys c.zs = uld xs ys ∧ c.xs.length + c.zs.length ≤ 100 ∧ c.ys.length ≤ 100

theorem frs_dict : ∀ {l : List Env} {fos : List (Addr × Obj)}, TI.Frs l fos → ∀ p ∈ fos, ∃ es ep, p.2.data = .dict es ep
  | [], [], _, _, h => nomatch h
  | [], _ :: _, h, _, _ => False.elim h
  | _ :: _, [], h, _, _ => False.elim h
  | _ :: l, q :: r, h, p, hp => by
    rcases List.mem_cons.mp hp with rfl | hp
    · exact h.2.2.1
    · exact frs_dict h.2.2.2 p hp
theorem fos_ne {h : Heap} {l : List Env} {fos : List (Addr × Obj)} {e : Addr} {its : Array Value} {n : Nat} (Fs : TI.Frs l fos) (Z : ∀ q ∈ fos, h.get? q.1 = some q.2) (he : h.get? e = some (listOf its n)) : ∀ p ∈ fos, p.1 ≠ e := fun p hp q => by
  obtain ⟨es, ep, hd⟩ := frs_dict Fs p hp
  have h1 := Z p hp
  rw [q, he] at h1
  have h2 := Option.some.inj h1
  rw [← h2] at hd
  cases hd
theorem us_start {g h : Heap} {L e a mi : Addr} {l : List Env} {fos : List (Addr × Obj)} {es rs : List Value} {xs ys : List Int} {n1 n2 : Nat} (Fs : TI.Frs l fos) (N : News g L h (US.led e a mi ⟨es, rs, [], xs, ys, [], n1, n2, 0, fos⟩)) (hea : e ≠ a) (h1 : @Ne Nat e mi) (h2 : @Ne Nat a mi)
    (hie : IntsAre es xs) (hia : IntsAre rs ys) (hxs : xs.length ≤ 100) (hys : ys.length ≤ 100) : US.ok e a mi xs ys fos ⟨es, rs, [], xs, ys, [], n1, n2, 0, fos⟩ := by
  have Z : ∀ q ∈ fos, h.get? q.1 = some q.2 := fun q hq => (N q (List.mem_cons_of_mem _ (List.mem_cons_of_mem _ (List.mem_cons_of_mem _ hq)))).1
  have ze := (N _ (List.mem_cons_of_mem _ List.mem_cons_self)).1
  have za := (N _ (List.mem_cons_of_mem _ (List.mem_cons_of_mem _ List.mem_cons_self))).1
  have zm := (N _ List.mem_cons_self).1
  exact ⟨⟨hea, h1, h2⟩, ⟨fos_ne Fs Z ze, fos_ne Fs Z za, fos_ne Fs Z zm⟩, hie, hia, .nil, TI.SameUp.refl fos, rfl, by simpa using hxs, hys⟩
theorem us_hap {g h : Heap} {L : Addr} {p1 p2 p3 : Addr × Obj} {fos : List (Addr × Obj)} (N : News g L h (p1 :: p2 :: p3 :: fos)) (h1 : ∀ p ∈ fos, p.1 ≠ p1.1) (h2 : ∀ p ∈ fos, p.1 ≠ p2.1) (h3 : ∀ p ∈ fos, p.1 ≠ p3.1) :
    ∀ p ∈ [p1, p2, p3], p.1 ∉ L :: fos.map (·.1) := by
  intro p hp hm
  rcases List.mem_cons.mp hm with q | hm
  · refine (N p ?_).2.1 q
    simp only [List.mem_cons, List.not_mem_nil, or_false] at hp ⊢
    rcases hp with h | h | h
    · exact .inl h
    · exact .inr (.inl h)
    · exact .inr (.inr (.inl h))
  · obtain ⟨q, hq, e⟩ := List.mem_map.mp hm
    simp only [List.mem_cons, List.not_mem_nil, or_false] at hp
    rcases hp with rfl | rfl | rfl
    · exact h1 q hq e
    · exact h2 q hq e
    · exact h3 q hq e
theorem rev_last : ∀ (xs : List Int), xs ≠ [] → xs.reverse = xs.getLastD 0 :: xs.dropLast.reverse := by
  intro xs h
  have e : xs = xs.dropLast ++ [xs.getLast h] := (List.dropLast_concat_getLast h).symm
  have e2 : xs.getLastD 0 = xs.getLast h := by rw [List.getLastD_eq_getLast?, List.getLast?_eq_some_getLast h]; rfl
  rw [e2]
  conv => lhs; rw [e]
  rw [List.reverse_append]; rfl
theorem uld_step_in {xs ys zs : List Int} (h : xs ≠ []) (hm : xs.getLastD 0 ∈ ys) : uldGo xs.reverse ys zs = uldGo xs.dropLast.reverse (ys.erase (xs.getLastD 0)) zs := by
  rw [rev_last xs h]
  conv => lhs; unfold uldGo
  rw [if_pos hm]
theorem uld_step_out {xs ys zs : List Int} (h : xs ≠ []) (hm : xs.getLastD 0 ∉ ys) : uldGo xs.reverse ys zs = uldGo xs.dropLast.reverse ys (zs ++ [xs.getLastD 0]) := by
  rw [rev_last xs h]
  conv => lhs; unfold uldGo
  rw [if_neg hm]
theorem sameUp_addr {xs : Addr} : ∀ {f1 f2 : List (Addr × Obj)}, TI.SameUp f1 f2 → (∀ p ∈ f1, p.1 ≠ xs) → ∀ p ∈ f2, p.1 ≠ xs
  | [], [], _, _, _, h => nomatch h
  | [], _ :: _, h, _, _, _ => False.elim h
  | _ :: _, [], h, _, _, _ => False.elim h
  | p :: r, q :: r', h, hh, y, hy => by
    rcases List.mem_cons.mp hy with rfl | hy
    · rw [h.1]; exact hh p List.mem_cons_self
    · exact sameUp_addr h.2.2 (fun z hz => hh z (List.mem_cons_of_mem _ hz)) y hy
theorem len_pos {xs : List Int} (h : xs ≠ []) : 0 < xs.length := List.length_pos_iff.mpr h
theorem us_in {e a mi : Addr} {xs ys : List Int} {fos fos' : List (Addr × Obj)} {es rs ms es2 rs2 : List Value} {xs' ys' zs' : List Int} {n1 n2 n3 k1 k2 : Nat} (h : US.ok e a mi xs ys fos ⟨es, rs, ms, xs', ys', zs', n1, n2, n3, fos'⟩) (hx : xs' ≠ []) (hm : xs'.getLastD 0 ∈ ys')
    (h1 : IntsAre es2 xs'.dropLast) (h2 : IntsAre rs2 (ys'.erase (xs'.getLastD 0))) : US.ok e a mi xs ys fos ⟨es2, rs2, ms, xs'.dropLast, ys'.erase (xs'.getLastD 0), zs', k1, k2, n3, fos'⟩ := by
  obtain ⟨a1, a2, a3, a4, a5, a6, a7, a8, a9⟩ := h
  have hl := len_pos hx
  refine ⟨a1, a2, h1, h2, a5, a6, (uld_step_in hx hm).symm.trans a7, ?_, ?_⟩
  · simp only [List.length_dropLast]; simp only at a8; omega
  · exact Nat.le_trans List.length_erase_le a9
theorem us_out {e a mi : Addr} {xs ys : List Int} {fos fos' fos2 : List (Addr × Obj)} {es rs ms es2 : List Value} {xs' ys' zs' : List Int} {n1 n2 n3 k1 k3 : Nat} {t : Tok} (h : US.ok e a mi xs ys fos ⟨es, rs, ms, xs', ys', zs', n1, n2, n3, fos'⟩) (hx : xs' ≠ []) (hm : xs'.getLastD 0 ∉ ys')
    (h1 : IntsAre es2 xs'.dropLast) (su : TI.SameUp fos' fos2) : US.ok e a mi xs ys fos ⟨es2, rs, ms ++ [.int (xs'.getLastD 0) t], xs'.dropLast, ys', zs' ++ [xs'.getLastD 0], k1, n2, k3, fos2⟩ := by
  obtain ⟨a1, a2, a3, a4, a5, a6, a7, a8, a9⟩ := h
  have hl := len_pos hx
  refine ⟨a1, ⟨sameUp_addr su a2.1, sameUp_addr su a2.2.1, sameUp_addr su a2.2.2⟩, h1, a4, IntsAre.append a5 (.cons _ t .nil), a6.trans su, (uld_step_out hx hm).symm.trans a7, ?_, a9⟩
  simp only [List.length_dropLast, List.length_append, List.length_cons, List.length_nil]; simp only at a8; omega
theorem us_less {xs : List Int} (h : xs ≠ []) : xs.dropLast.length < xs.length := by
  have := len_pos h
  simp only [List.length_dropLast]; omega
local macro_rules | `(tactic| k_all) => `(tactic| first | assumption | exact sameUp_addr (by assumption) (by assumption))
theorem uld_room2 {vs : List Value} {ns : List Int} (hi : IntsAre vs ns) (h : ns.length ≤ 100) : vs.toArray.size ≤ sizeLine := by
  rw [List.size_toArray]; exact uld_room hi h
local macro_rules | `(tactic| walk_at "call builtin:list.append") => `(tactic| (k_here; k_dflt (refine' append_K ?k1 ?k2 ?k3 ?_ ?z; (case k1 => k_asm); (case k2 => k_asm); (case k3 => k_upd); (case z => exact uld_room2 (by assumption) (by omega)); k_whole); intro h' F' N'; (try k_sweep)))
local macro_rules | `(tactic| walk_at "noteFrame ref") => `(tactic| (k_here; (rename Heap.NewExc _ _ _ _ => hNew9); (rename News _ _ _ _ => nN9); (rename TI.SameUp _ _ => sU9); (rename TI.Frs _ _ => fS9); k_dflt (refine' uld_caught (new := [_, _, _]) rfl (fS9.up sU9) hNew9 ?F nN9 ?hap ?X ?T ?k6 ?_; (case F => k_asm); (case hap => exact us_hap nN9 (by assumption) (by assumption) (by assumption)); (case X => k_asm); (case T => k_asm); (case k6 => k_is)); (intro h' frs' sU' fS' F' N'); (try simp only [List.nil_append, List.cons_append] at N'); clear nN9 hNew9; (try k_sweep)))

theorem allLt_mem {d : Nat} : ∀ {l : List (Addr × Obj)}, AllLt d l → ∀ p ∈ l, p.1 < d
  | [], _, _, h => nomatch h
  | q :: r, h, p, hp => by
    rcases List.mem_cons.mp hp with rfl | hp
    · exact h.1
    · exact allLt_mem h.2 p hp
abbrev UldRet (s : Shared) (Q : Value → Shared → Prop) (e a : Addr) (xs ys : List Int) (fos : List (Addr × Obj)) : Prop :=
  ∀ (tp mi : Addr) (ms rs' : List Value) (n3 n4 : Nat) (h' : Heap) (tk' : Nat) (fos' : List (Addr × Obj)), IntsAre ms (uld xs ys).1 → IntsAre rs' (uld xs ys).2 →
      (∀ b o, b ≠ e → b ≠ a → b ∉ fos.map (·.1) → s.heap.get? b = some o → h'.get? b = some o) → TI.SameUp fos fos' → (∀ q ∈ fos', h'.get? q.1 = some q.2) →
      h'.get? tp = some { cls := .type "tuple", data := .seq #[.ref mi, .ref a] } → h'.get? mi = some (listOf ms.toArray n3) → h'.get? a = some (listOf rs'.toArray n4) → s.heap.get? tp = none → s.heap.get? mi = none → tp ≠ mi →
      Q (.ref tp) { s with heap := h', toks := tk' }
theorem us_end {s : Shared} {Q : Value → Shared → Prop} {g h' : Heap} {L' e a mi tp : Addr} {m' : Str → Option Value} {xs ys xs' ys' zs' : List Int} {fos fos' : List (Addr × Obj)} {es' rs' ms' : List Value} {n1' n2' n3' tk' : Nat} {eo ao : Obj}
    (hret : UldRet s Q e a xs ys fos) (hg : ∀ b o, b ∉ ((e, eo) :: (a, ao) :: fos).map (·.1) → s.heap.get? b = some o → g.get? b = some o) (F : Fr g L' h' m')
    (N : News g L' h' ((tp, { cls := .type "tuple", data := .seq #[.ref mi, .ref a] }) :: (mi, listOf ms'.toArray n3') :: (e, listOf es'.toArray n1') :: (a, listOf rs'.toArray n2') :: fos'))
    (hOk : US.ok e a mi xs ys fos ⟨es', rs', ms', xs', ys', zs', n1', n2', n3', fos'⟩) (hx : xs' = []) (l : mi < tp ∧ e < tp ∧ a < tp ∧ AllLt tp fos') : Q (.ref tp) { s with heap := h', toks := tk' } := by
  obtain ⟨a1, a2, a3, a4, a5, a6, a7, a8, a9⟩ := hOk
  subst hx
  have e1 : uld xs ys = (zs', ys') := by rw [← a7]; rfl
  have nf : ∀ b, (∀ p ∈ fos', p.1 ≠ b) → b ∉ fos.map (·.1) := fun b hb hm => by
    obtain ⟨q, hq, rfl⟩ := List.mem_map.mp hm
    obtain ⟨sl, hs⟩ := a6.back q hq
    exact hb _ hs rfl
  have fresh : ∀ b, g.get? b = none → b ≠ e → b ≠ a → (∀ p ∈ fos', p.1 ≠ b) → s.heap.get? b = none := fun b hb h1 h2 h3 => by
    cases q : s.heap.get? b with
    | none => rfl
    | some o =>
      have := hg b o (fun hm => by
        rcases List.mem_cons.mp hm with z | hm
        · exact h1 z
        · rcases List.mem_cons.mp hm with z | hm
          · exact h2 z
          · exact nf b h3 hm) q
      rw [hb] at this; cases this
  have z1 := N _ List.mem_cons_self
  have z2 := N _ (List.mem_cons_of_mem _ List.mem_cons_self)
  have z4 := N _ (List.mem_cons_of_mem _ (List.mem_cons_of_mem _ (List.mem_cons_of_mem _ List.mem_cons_self)))
  refine hret tp mi ms' rs' n3' n2' h' tk' fos' (by rw [e1]; exact a5) (by rw [e1]; exact a4) (fun b o h1 h2 h3 e0 => F.keep b o (hg b o (fun hm => ?_) e0)) a6 (fun q hq => (N q (List.mem_cons_of_mem _ (List.mem_cons_of_mem _ (List.mem_cons_of_mem _ (List.mem_cons_of_mem _ hq))))).1) z1.1 z2.1 z4.1
    (fresh tp z1.2.2 (Ne.symm (Nat.ne_of_lt l.2.1)) (Ne.symm (Nat.ne_of_lt l.2.2.1)) fun p hp => Nat.ne_of_lt (allLt_mem l.2.2.2 p hp)) (fresh mi z2.2.2 (Ne.symm a1.2.1) (Ne.symm a1.2.2) a2.2.2) (Ne.symm (Nat.ne_of_lt l.1))
  rcases List.mem_cons.mp hm with z | hm
  · exact h1 z
  · rcases List.mem_cons.mp hm with z | hm
    · exact h2 z
    · exact h3 hm

set_option maxRecDepth 100000 in
set_option maxHeartbeats 8000000 in
theorem C_uld {w : World} {dp un : Nat} {gd : Option (List Code)} {frs : List Env} {s : Shared} {Q E : Value → Shared → Prop} (hdp : dp + 1 < recursionLimit)
    {hb : Heap} {p : Program} {loose : List Str} {mean : ExcName → Option Value} {mg mb : Str → Option Value} {fos : List (Addr × Obj)} (st : hb.StaysIn s.heap) (X : (hd.heap_39 w.params).In hb) (T : Top p loose mean mg mb hb)
    (Fs : TI.Frs frs fos) (Z : ∀ q ∈ fos, s.heap.get? q.1 = some q.2 ∧ hb.get? q.1 = none)
    {e a : Addr} {es rs : List Value} {xs ys : List Int} {n1 n2 : Nat} (he : s.heap.get? e = some (listOf es.toArray n1)) (heb : hb.get? e = none) (ha : s.heap.get? a = some (listOf rs.toArray n2)) (hab : hb.get? a = none) (hea : e ≠ a)
    (hie : IntsAre es xs) (hia : IntsAre rs ys) (hxs : xs.length ≤ 100) (hys : ys.length ≤ 100)
    (hret : UldRet s Q e a xs ys fos) :
    wpAny (model PySem.Challenge.rw_oc0020_01.prog w) (Ar dp un gd frs) (call (.ref 28) [.ref e, .ref a]) Q E s := by
  revert X
  k_fill
  intro X
  have hN : ∀ q ∈ (e, listOf es.toArray n1) :: (a, listOf rs.toArray n2) :: fos, s.heap.get? q.1 = some q.2 ∧ hb.get? q.1 = none := by
    intro q hq
    rcases List.mem_cons.mp hq with rfl | hq
    · exact ⟨he, heb⟩
    · rcases List.mem_cons.mp hq with rfl | hq
      · exact ⟨ha, hab⟩
      · exact Z q hq
  walk_at "mine enterH"
  k_with_none
  w_top off
  k_with "exec While Name cons nil" => ((rename Fr _ _ _ _ => fW); (rename News _ _ _ _ => nW); (with_unfolding_all refine' ksw_while (US.led e a _) (fun _ => []) (fun _ => True) [Str.ofString "item"] (US.ok e a _ xs ys fos) (fun c => c.xs.length) ⟨es, rs, [], xs, ys, [], n1, n2, 0, fos⟩ fW nW trivial (fun _ h => nomatch h) (us_start Fs nW hea (by omega) (by omega) hie hia hxs hys) ?_); (clear fW nW); rintro ⟨es', rs', ms', xs', ys', zs', n1', n2', n3', fos'⟩ u h tk - hOk F N; obtain ⟨⟨ne1, ne2, ne3⟩, ⟨nf1, nf2, nf3⟩, ie, ia, im, su, eq, z1, z2⟩ := id hOk; (dsimp only at ne1 ne2 ne3 nf1 nf2 nf3 ie ia im su eq z1 z2); (simp only [US.led] at N); (all_goals (try k_fold)))
  k_steps
  · (rename News _ _ _ _ => nE'); refine ksw_end ⟨_, _, _, xs'.dropLast, ys'.erase (xs'.getLastD 0), zs', _, _, _, _⟩ (by assumption) nE' (fun _ hp => hp) trivial (fun _ h => nomatch h) (by intro z _ h3; simp only [List.contains_cons, List.contains_nil, Bool.or_false, beq_eq_false_iff_ne, ne_eq] at h3; simp [h3, kstB]) (us_in hOk (by assumption) (by assumption) (by assumption) (by assumption)) (us_less (by assumption))
  · (rename News _ _ _ _ => nE'); (simp only [List.push_toArray] at nE'); refine ksw_end ⟨_, _, _, xs'.dropLast, ys', zs' ++ [xs'.getLastD 0], _, _, _, _⟩ (by assumption) nE' (fun _ hp => hp) trivial (fun _ h => nomatch h) (by intro z _ h3; simp only [List.contains_cons, List.contains_nil, Bool.or_false, beq_eq_false_iff_ne, ne_eq] at h3; simp [h3, kstB]) (us_out hOk (by assumption) (by assumption) (by assumption) (by assumption)) (us_less (by assumption))
  · try k_unfold
    try dsimp only
    exact us_end hret (by assumption) (by assumption) (by assumption) hOk (by assumption) (by assumption)
end Mine
end TC5

section TLc
open PySem PySem.W PySem.Calls PyProof.Rows
namespace Mine
open LCg LCt
section
variable {prog : Program} {w : World} {A : Around} {E : Value → Shared → Prop} {s : Shared} {h₀ : Heap} {L : Addr} {m : Str → Option Value} {env : Env}

/-- a source whose iterator is I -/
structure Src (prog : Program) (w : World) (A : Around) (h₀ : Heap) (L : Addr) (m : Str → Option Value) (news : List (Addr × Obj)) (s₂ : Shared) (I : Addr) (fp : List Addr) (n : Nat) (P : Nat → Value → Prop) (St : Nat → Heap → Prop) (S : List (Addr × Obj) → Prop) : Prop where
  walks : Walks prog w A I fp [I] n P St
  sz : n ≤ sizeLine
  io : ∀ i h, St i h → ∃ o, h.get? I = some o
  st : ∀ i h h' o nw, St i h → h.get? I = some o → h'.get? I = some o → (∀ b o, h₀.get? b = some o → h'.get? b = some o) → News h₀ L h' nw → S nw → St i h'
  st0 : St 0 s₂.heap
  fp_lt : ∀ b ∈ fp, b < s₂.heap.objs.size
  F : Fr h₀ L s₂.heap m
  N : News h₀ L s₂.heap news
  ne : L ≠ I
  new : h₀.get? I = none
  off : ∀ p ∈ news, p.1 ≠ I
  hS : S news

theorem fin_E {s₂ : Shared} {Q : Value → Shared → Prop} {D C : Addr} {h : Heap} {tk : Nat} {m' : Str → Option Value} {ys : List Value} {news' : List (Addr × Obj)} (F' : Fr h₀ L h m) (N' : News h₀ L h ((D, lst ys) :: news')) (o1 : Off1 D news') (hn : h.Ns C m') (hC₀ : h₀.get? C = none) (hCL : C ≠ L) (hCD : C ≠ D)
    (offC : ∀ p ∈ news', p.1 ≠ C) (fin : FinE h₀ L m s₂ Q ys news') : ∃ m, ({ s₂ with heap := h, toks := tk } : Shared).heap.Ns C m ∧ ∀ h', Heap.SameBut C h h' → Q (.ref D) { s₂ with heap := h', toks := tk } := by
  refine ⟨m', hn, fun h'' hs'' => fin D h'' tk (F'.change hs'' hCL hC₀) (fun p hp => ?_) o1⟩
  refine ⟨hs''.extBut _ _ ?_ (N' p hp).1, (N' p hp).2⟩
  rcases List.mem_cons.mp hp with rfl | hp
  · exact Ne.symm hCD
  · exact offC p hp

theorem ListComp_WT {ct elt iter : Expr} {x : Str} {px : Pos} {scope : Scope} {cl : List (Str × Addr)} {pos : Pos} {Q : Value → Shared → Prop} (_F₀ : Fr h₀ L s.heap m)
    (hclos : closureFor scope env = pure cl) (hcell : ∀ y ∈ scope.names, y.2 ≠ .cell) (hkind : scope.kind = .function)
    (hnames : ∀ y ∈ scope.names, y.2 = .local → scope.names.lookup y.1 = some .local) (hx : scope.names.lookup x = some .local)
    (h : wpAny (model prog w) A (eval iter env) (fun xv s₁ => wpAny (model prog w) A (pyIter xv) (fun it s₂ => ∃ I fp n P St S news, it = .ref I ∧ Src prog w A h₀ L m news s₂ I fp n P St S ∧
      CompRestT prog w A h₀ L m env ct elt x scope cl s₂ S P (FinE h₀ L m s₂ Q) n 0 [] news) E s₁) E s)
    (hs : ∀ x, foldedSetIterable iter env x = pure x := by intro _; rfl) :
    wpAny (model prog w) A (eval (.ListComp elt [⟨.Name x px, iter, [ct], 0⟩] scope pos) env) Q E s := by
  rw [eval_ListComp]
  refine wpAny_comprehension_free (use := none) rfl hs hclos hkind hnames (wpAny_mono h (fun xv s₁ h₁ => wpAny_mono h₁ (fun it s₂ h₂ => ?_) fun _ _ e => e) fun _ _ e => e)
  obtain ⟨I, fp, n, P, St, S, news, rfl, X, R⟩ := h₂
  exact block_T X.walks X.sz X.io X.st hcell hkind hx X.st0 X.fp_lt X.F X.N X.ne X.new X.off X.hS R
    fun D C h tk m' ys news' F' N' o1 hn hC₀ hD₀ hCL hDL hCD offC fin => fin_E F' N' o1 hn hC₀ hCL hCD offC fin

theorem ListComp_WU {elt iter : Expr} {x : Str} {px : Pos} {scope : Scope} {cl : List (Str × Addr)} {pos : Pos} {Q : Value → Shared → Prop} (_F₀ : Fr h₀ L s.heap m)
    (hclos : closureFor scope env = pure cl) (hcell : ∀ y ∈ scope.names, y.2 ≠ .cell) (hkind : scope.kind = .function)
    (hnames : ∀ y ∈ scope.names, y.2 = .local → scope.names.lookup y.1 = some .local) (hx : scope.names.lookup x = some .local)
    (h : wpAny (model prog w) A (eval iter env) (fun xv s₁ => wpAny (model prog w) A (pyIter xv) (fun it s₂ => ∃ I fp n P St S news, it = .ref I ∧ Src prog w A h₀ L m news s₂ I fp n P St S ∧
      CompRest prog w A h₀ L m env elt x scope cl s₂ S P (FinE h₀ L m s₂ Q) n 0 [] news) E s₁) E s)
    (hs : ∀ x, foldedSetIterable iter env x = pure x := by intro _; rfl) :
    wpAny (model prog w) A (eval (.ListComp elt [⟨.Name x px, iter, [], 0⟩] scope pos) env) Q E s := by
  rw [eval_ListComp]
  refine wpAny_comprehension_free (use := none) rfl hs hclos hkind hnames (wpAny_mono h (fun xv s₁ h₁ => wpAny_mono h₁ (fun it s₂ h₂ => ?_) fun _ _ e => e) fun _ _ e => e)
  obtain ⟨I, fp, n, P, St, S, news, rfl, X, R⟩ := h₂
  exact block_U X.walks X.sz X.io X.st hcell hkind hx X.st0 X.fp_lt X.F X.N X.ne X.new X.off X.hS R
    fun D C h tk m' ys news' F' N' o1 hn hC₀ hD₀ hCL hDL hCD offC fin => fin_E F' N' o1 hn hC₀ hCL hCD offC fin

/-- a tuple of the ledger as source -/
theorem src_tup {news : List (Addr × Obj)} {ax : Addr} {its : Array Value} {k : Nat} {Q : Value → Shared → Prop} (hh : A.handled = none) (F : Fr h₀ L s.heap m) (N : News h₀ L s.heap news) (hm : (ax, ({ cls := .type "tuple", data := .seq its k } : Obj)) ∈ news) (hsz : its.size ≤ sizeLine)
    (h : ∀ g I St, Src prog w A h₀ L m news { s with heap := g } I [I, ax] its.size (fun i v => its[i]? = some v) St (fun nw => (ax, ({ cls := .type "tuple", data := .seq its k } : Obj)) ∈ nw) → Q (.ref I) { s with heap := g }) :
    wpAny (model prog w) A (pyIter (.ref ax)) Q E s := by
  have hl : s.heap.IsTuple ax its := ⟨_, (N _ hm).1, rfl, k, rfl⟩
  have hlt : ax < s.heap.objs.size := Heap.lt_size (N _ hm).1
  refine wpAny_pyIter_tuple hl ?_
  have up : ∀ b o, s.heap.get? b = some o → (s.heap.push { cls := .type "tuple_iterator", data := .fields #[.ref ax, .int 0 0] }).get? b = some o := fun b o e => Heap.get?_push_of_some _ e
  refine h _ s.heap.objs.size (fun i h => h.IsTupleIter s.heap.objs.size ax i ∧ h.IsTuple ax its) ⟨Walks.tuple hh s.heap.objs.size ax (Nat.ne_of_lt hlt) its, hsz, fun i h st => ?_, fun i h h' o nw st e e' _ N' S' => ?_, ?_, fun b hb => ?_, F.keeps up, N.grown up, Nat.ne_of_lt F.ns.lt, next_is_new F, fun p hp => Nat.ne_of_lt (Heap.lt_size (N p hp).1), hm⟩
  · obtain ⟨o, e, _⟩ := st.1; exact ⟨o, e⟩
  · refine ⟨?_, _, (N' _ S').1, rfl, k, rfl⟩
    obtain ⟨o', q, r⟩ := st.1
    rw [e] at q; cases q; exact ⟨o, e', r⟩
  · exact ⟨⟨_, Heap.get?_push_size _ rfl, rfl, rfl⟩, ⟨_, up _ _ (N _ hm).1, rfl, k, rfl⟩⟩
  · show b < (s.heap.push _).objs.size
    rw [Heap.size_push]
    rcases List.mem_cons.mp hb with rfl | hb
    · exact Nat.lt_succ_self _
    · rw [List.mem_singleton.mp hb]; exact Nat.lt_succ_of_lt hlt

/-- a list, of the base or of the ledger -/
theorem src_list {news : List (Addr × Obj)} {ax : Addr} {its : Array Value} {Q : Value → Shared → Prop} (hh : A.handled = none) (F : Fr h₀ L s.heap m) (N : News h₀ L s.heap news) (S : SrcAt h₀ ax its news) (hsz : its.size ≤ sizeLine)
    (h : ∀ g I St, Src prog w A h₀ L m news { s with heap := g } I [I, ax] its.size (fun i v => its[i]? = some v) St (SrcAt h₀ ax its) → Q (.ref I) { s with heap := g }) :
    wpAny (model prog w) A (pyIter (.ref ax)) Q E s := by
  have hl := S.list F.keep N
  have hlt : ax < s.heap.objs.size := by obtain ⟨_, e, _⟩ := hl; exact Heap.lt_size e
  refine wpAny_pyIter_list hl ?_
  have up : ∀ b o, s.heap.get? b = some o → (s.heap.push { cls := .type "list_iterator", data := .fields #[.ref ax, .int 0 0] }).get? b = some o := fun b o e => Heap.get?_push_of_some _ e
  refine h _ s.heap.objs.size _ ⟨Walks.list hh s.heap.objs.size ax (Nat.ne_of_lt hlt) its, hsz, fun i h st => by obtain ⟨o, e, _⟩ := st.1; exact ⟨o, e⟩, list_st, ⟨⟨_, Heap.get?_push_size _ rfl, rfl, rfl⟩, hl.push _⟩, fun b hb => ?_, F.keeps up, N.grown up, Nat.ne_of_lt F.ns.lt, next_is_new F, fun p hp => Nat.ne_of_lt (Heap.lt_size (N p hp).1), S⟩
  show b < (s.heap.push _).objs.size
  rw [Heap.size_push]
  rcases List.mem_cons.mp hb with rfl | hb
  · exact Nat.lt_succ_self _
  · rw [List.mem_singleton.mp hb]; exact Nat.lt_succ_of_lt hlt

/-- a range with any step -/
theorem src_range {news : List (Addr × Obj)} {r : Addr} {a b c : Int} {t u v : Tok} {n : Nat} {Q : Value → Shared → Prop} (hh : A.handled = none) (F : Fr h₀ L s.heap m) (N : News h₀ L s.heap news) (hr : IsRange s.heap r a b c t u v) (hsm : Builtin.Range.small a b c = true) (hn : Builtin.Range.rangeSize a b c = ((n : Nat) : Int)) (hsz : n ≤ sizeLine)
    (h : ∀ g I St, Src prog w A h₀ L m news { s with heap := g } I [I] n (fun i v => ∃ t, v = .int (a + i * c) t) St (fun _ => True) → Q (.ref I) { s with heap := g }) :
    wpAny (model prog w) A (pyIter (.ref r)) Q E s := by
  refine wpAny_pyIter_range hr hsm ?_
  refine h _ s.heap.objs.size _ ⟨Walks.range hh s.heap.objs.size a c n, hsz, fun i h st => ⟨_, st⟩, fun i h h' o nw st e e' _ _ _ => ?_, ?_, fun b hb => ?_, F.keeps fun _ _ e => Heap.get?_push_of_some _ e, N.grown fun _ _ e => Heap.get?_push_of_some _ e, Nat.ne_of_lt F.ns.lt, next_is_new F, fun p hp => Nat.ne_of_lt (Heap.lt_size (N p hp).1), trivial⟩
  · have st' : h.get? s.heap.objs.size = some _ := st
    show h'.get? s.heap.objs.size = some _
    rw [e', ← e]; exact st'
  · show IsRangeIter _ _ _ _ _
    rw [hn]; simpa using Heap.get?_push_size _ rfl
  · rw [List.mem_singleton.mp hb]
    show s.heap.objs.size < (s.heap.push _).objs.size
    rw [Heap.size_push]; exact Nat.lt_succ_self _

/-- the turns over ints, with a test -/
theorem restT {ct elt : Expr} {x : Str} {scope : Scope} {cl : List (Str × Addr)} {S : List (Addr × Obj) → Prop} {P : Nat → Value → Prop} {Fin : List Value → List (Addr × Obj) → Prop} {news : List (Addr × Obj)} {n : Nat} {ks : List Int} (p : Int → Bool) (g : Int → Int)
    (hks : ks.length = n) (hP : ∀ i v, i < n → P i v → ∃ k t, ks[i]? = some k ∧ v = .int k t)
    (turn : ∀ k t I oI C oC D m₂ ys h tk (E' : Value → Shared → Prop), k ∈ ks → NsObj oC m₂ → m₂ x = some (.int k t) → Fr h₀ L h m → News h₀ L h ((I, oI) :: (C, oC) :: (D, lst ys) :: news) → Off3 I C D news → ((@Ne Nat I C) ∧ (@Ne Nat I D) ∧ (@Ne Nat C D)) →
      wpAny (model prog w) A (isTrue ct (compEnvC scope cl C env) (eval ct (compEnvC scope cl C env))) (fun ok s' => if ok = true then
        wpAny (model prog w) A (eval elt (compEnvC scope cl C env)) (CompEnd h₀ L m { s with heap := h, toks := tk } I oI C oC D (lst ys) S (fun y news' => p k = true ∧ KCfEl news (g k) y news')) E' s'
        else CompEnd h₀ L m { s with heap := h, toks := tk } I oI C oC D (lst ys) S (fun _ news' => p k = false ∧ news' = news) Value.none s') E' { s with heap := h, toks := tk })
    (fin : ∀ ys, IntsAre ys ((ks.filter p).map g) → Fin ys news) : CompRestT prog w A h₀ L m env ct elt x scope cl s S P Fin n 0 [] news := by
  have key : ∀ (j i : Nat) (ys : List Value), i + j = n → IntsAre ys (((ks.take i).filter p).map g) → CompRestT prog w A h₀ L m env ct elt x scope cl s S P Fin j i ys news := by
    intro j
    induction j with
    | zero =>
      intro i ys hi hy
      have e : i = ks.length := by omega
      subst e
      rw [List.take_length] at hy
      exact CompRestT.zero (fin ys hy)
    | succ j ih =>
      intro i ys hi hy
      refine CompRestT.succ ?_
      intro v I oI C oC D m₂ h tk E' hv hC hx F N off ne
      obtain ⟨k, t, hk, hv'⟩ := hP i v (by omega) hv
      rw [hv'] at hx
      refine wpAny_mono (turn k t I oI C oC D m₂ ys h tk E' (List.mem_of_getElem? hk) hC hx F N off ne) (fun ok s' hq => ?_) fun _ _ e => e
      cases ok with
      | true =>
        simp only [if_true] at hq ⊢
        refine wpAny_mono hq (fun y s₂ hq => ?_) fun _ _ e => e
        obtain ⟨h', tk', nw, e, F', N', off', hS, hp, hn, t', hy'⟩ := hq
        rw [hn] at N' off' hS
        refine ⟨h', tk', news, e, F', N', off', hS, ?_⟩
        rw [hy']
        refine ih (i + 1) _ (by omega) ?_
        rw [List.take_add_one, hk, List.filter_append]
        simp only [Option.toList_some, List.filter_cons, hp, if_true, List.filter_nil, List.map_append, List.map_cons, List.map_nil]
        exact IntsAre.append hy (.cons (g k) t' .nil)
      | false =>
        simp only [Bool.false_eq_true, if_false] at hq ⊢
        obtain ⟨h', tk', nw, e, F', N', off', hS, hp, hn⟩ := hq
        rw [hn] at N' off' hS
        refine ⟨h', tk', news, e, F', N', off', hS, ?_⟩
        refine ih (i + 1) _ (by omega) ?_
        rw [List.take_add_one, hk, List.filter_append]
        simpa [List.filter_cons, hp] using hy
  exact key n 0 [] (by omega) (by simpa using IntsAre.nil)
end
end Mine
end TLc

section TC6
open PySem PySem.W PySem.Calls PyProof.Rows
namespace Mine
local macro_rules | `(tactic| walk_at "mine enterC") => `(tactic| (refine wpAny_call ?_; k_dflt (refine' enterC ?X ?T ?k6 ?k7 ?k8 ?k9 ?kB ?kD ?_ ?c2 ?c3 ?c4; (case X => k_asm); (case T => k_asm); (case k6 => k_is); (case k7 => k_is); (case k8 => ktr_room); (case k9 => exact BindsTo.of_eq rfl); (case kB => exact rfl); (case kD => decide +kernel); (case c2 => exact rfl); (case c3 => exact rfl); (case c4 => exact rfl); k_whole); intro L' h' tk' cells' F' N' Y'; k_cells Y'; (try dsimp only); (try k_fold)))

local macro_rules | `(tactic| walk_at "eval ListComp") => `(tactic| (k_here; k_dflt (refine ListComp_WT (by k_asm) (by with_unfolding_all rfl) (by decide) (by rfl) (by decide) (by rfl) ?_)))
local macro_rules | `(tactic| lcg_src) => `(tactic| ((try dsimp only); k_mem))
local macro_rules | `(tactic| walk_at "pyIter ref") => `(tactic| (k_here; k_dflt (refine' src_tup ?hh ?F ?N ?m ?z ?_; (case hh => rfl); (case F => k_asm); (case N => k_asm); (case m => k_mem); (case z => exact Nat.le_of_ble_eq_true rfl)); intro g' I' St' hSrc'; refine ⟨_, _, _, _, _, _, _, rfl, hSrc', ?_⟩; clear hSrc'))
theorem p2 : (16 : Int) ^ Int.toNat 2 = 256 := by decide
theorem p1 : (16 : Int) ^ Int.toNat 1 = 16 := by decide
theorem p0 : (16 : Int) ^ Int.toNat 0 = 1 := by decide
theorem w_3 {n : Int} {t1 t2 t3 : Tok} (h1 : 16 ^ Int.toNat 2 ≤ n) (hn : n < 4096) : IntsAre [.int (65 + (n.fdiv (16 ^ Int.toNat 2)).fmod 16) t1, .int (65 + (n.fdiv (16 ^ Int.toNat 1)).fmod 16) t2, .int (65 + (n.fdiv (16 ^ Int.toNat 0)).fmod 16) t3] (apG n []) := by
  rw [p2] at h1
  have e : apG n [] = [65 + (n.fdiv (16 ^ Int.toNat 2)).fmod 16, 65 + (n.fdiv (16 ^ Int.toNat 1)).fmod 16, 65 + (n.fdiv (16 ^ Int.toNat 0)).fmod 16] := by
    rw [p2, p1, p0]
    simp only [fm2 _ 16 (by decide), fd2 _ 256 (by decide), fd2 _ 16 (by decide), fd2 _ 1 (by decide)]
    rw [apG_step (by omega) (by omega), apG_step (by omega) (by omega), apG_step (by omega) (by omega), show n / 16 / 16 / 16 = 0 by omega, apG_zero]
    rw [show n / 16 / 16 = n / 256 by omega, show n / 1 = n by omega]
  rw [e]
  exact .cons _ _ (.cons _ _ (.cons _ _ .nil))
theorem w_2 {n : Int} {t2 t3 : Tok} (h1 : 16 ^ Int.toNat 1 ≤ n) (h2 : ¬ 16 ^ Int.toNat 2 ≤ n) : IntsAre [.int (65 + (n.fdiv (16 ^ Int.toNat 1)).fmod 16) t2, .int (65 + (n.fdiv (16 ^ Int.toNat 0)).fmod 16) t3] (apG n []) := by
  rw [p1] at h1
  rw [p2] at h2
  have e : apG n [] = [65 + (n.fdiv (16 ^ Int.toNat 1)).fmod 16, 65 + (n.fdiv (16 ^ Int.toNat 0)).fmod 16] := by
    rw [p1, p0]
    simp only [fm2 _ 16 (by decide), fd2 _ 16 (by decide), fd2 _ 1 (by decide)]
    rw [apG_step (by omega) (by omega), apG_step (by omega) (by omega), show n / 16 / 16 = 0 by omega, apG_zero, show n / 1 = n by omega]
  rw [e]
  exact .cons _ _ (.cons _ _ .nil)
theorem w_1 {n : Int} {t3 : Tok} (h1 : 16 ^ Int.toNat 0 ≤ n) (h2 : ¬ 16 ^ Int.toNat 1 ≤ n) : IntsAre [.int (65 + (n.fdiv (16 ^ Int.toNat 0)).fmod 16) t3] (apG n []) := by
  rw [p0] at h1
  rw [p1] at h2
  have e : apG n [] = [65 + (n.fdiv (16 ^ Int.toNat 0)).fmod 16] := by
    rw [p0]
    simp only [fm2 _ 16 (by decide), fd2 _ 1 (by decide)]
    rw [apG_step (by omega) (by omega), show n / 16 = 0 by omega, apG_zero, show n / 1 = n by omega]
  rw [e]
  exact .cons _ _ .nil
theorem w_0 {n : Int} (h1 : ¬ 16 ^ Int.toNat 0 ≤ n) (h0 : 0 ≤ n) : IntsAre [] (apG n []) := by
  rw [p0] at h1
  have e : n = 0 := by omega
  subst e
  rw [apG_zero]; exact .nil
theorem w_bad1 {n : Int} (h1 : 16 ^ Int.toNat 2 ≤ n) (h2 : ¬ 16 ^ Int.toNat 1 ≤ n) : False := by rw [p2] at h1; rw [p1] at h2; omega
theorem w_bad0 {n : Int} (h1 : 16 ^ Int.toNat 1 ≤ n) (h2 : ¬ 16 ^ Int.toNat 0 ≤ n) : False := by rw [p1] at h1; rw [p0] at h2; omega
abbrev ListRet (s : Shared) (Q : Value → Shared → Prop) (ns : List Int) : Prop :=
  ∀ l vs k h' tk', IntsAre vs ns → s.heap.StaysIn h' → h'.get? l = some (listOf vs.toArray k) → s.heap.get? l = none → Q (.ref l) { s with heap := h', toks := tk' }
theorem retL {s : Shared} {Q : Value → Shared → Prop} {h' : Heap} {tk' : Nat} {ns : List Int} {L D : Addr} {m : Str → Option Value} {ys : List Value} {r : List (Addr × Obj)} (hret : ListRet s Q ns) (F : Fr s.heap L h' m) (N : News s.heap L h' ((D, LCg.lst ys) :: r)) (hy : IntsAre ys ns) :
    Q (.ref D) { s with heap := h', toks := tk' } := by
  have z := N _ List.mem_cons_self
  exact hret D ys _ h' tk' hy F.keep z.1 z.2.2

set_option maxRecDepth 100000 in
set_option maxHeartbeats 8000000 in
theorem C_word {w : World} {dp un : Nat} {gd : Option (List Code)} {frs : List Env} {s : Shared} {Q E : Value → Shared → Prop} (H : Sd w frs s.heap) (hdp : dp + 2 < recursionLimit)
    {n : Int} {t : Tok} (h0 : 0 ≤ n) (hn : n < 4096)
    (hret : ListRet s Q (apG n [])) :
    wpAny (model PySem.Challenge.rw_oc0020_01.prog w) (Ar dp un gd frs) (call (.ref 49) [.int n t]) Q E s := by
  obtain ⟨p, loose, mean, mg, mb, X, T⟩ := H.get
  revert X
  k_fill
  intro X
  walk_at "mine enterC"
  k_with_none
  w_top off
  k_steps
  all_goals first
    | exact absurd (by assumption) (w_bad1 (n := n) (by assumption))
    | exact absurd (by assumption) (w_bad0 (n := n) (by assumption))
    | exact retL hret (by assumption) (by assumption) (w_3 (by assumption) (by assumption))
    | exact retL hret (by assumption) (by assumption) (w_2 (by assumption) (by assumption))
    | exact retL hret (by assumption) (by assumption) (w_1 (by assumption) (by assumption))
    | exact retL hret (by assumption) (by assumption) (w_0 (by assumption) (by assumption))
end Mine
end TC6

section TLc2
open PySem PySem.W PySem.Calls PyProof.Rows
namespace Mine
open LCg
theorem ne_10 (n : Nat) : n + 1 ≠ n := by omega
theorem ne_12 (n : Nat) : n + 1 ≠ n + 2 := by omega
theorem ne_02 (n : Nat) : n ≠ n + 2 := by omega
theorem apart3 {b n : Nat} (h : b < n) : b ≠ n + 2 ∧ b ≠ n ∧ b ≠ n + 1 := ⟨by omega, by omega, by omega⟩
/-- three objects made one after another, the last then filled: where they stand, and that all else stands as it stood -/
structure Three (H : Heap) (oi od : Obj) (h₁ : Heap) : Prop where
  sd : (H.push oi).objs.size = H.objs.size + 1
  sc : ((H.push oi).push od).objs.size = H.objs.size + 2
  gi : h₁.get? H.objs.size = some oi
  gd : h₁.get? (H.push oi).objs.size = some od
  nd : H.get? (H.push oi).objs.size = none
  kept : ∀ b o, H.get? b = some o → h₁.get? b = some o
theorem three_new {H h₁ : Heap} {oi od oc : Obj} (hsb : Heap.SameBut ((H.push oi).push od).objs.size (((H.push oi).push od).push oc) h₁) (fi : oi.isFreed = false) (fd : od.isFreed = false) : Three H oi od h₁ := by
  have sd : (H.push oi).objs.size = H.objs.size + 1 := Heap.size_push ..
  have sc : ((H.push oi).push od).objs.size = H.objs.size + 2 := (Heap.size_push ..).trans (congrArg (· + 1) sd)
  have up : ∀ b o, b < H.objs.size + 2 → ((H.push oi).push od).get? b = some o → h₁.get? b = some o := fun b o hb e => hsb.extBut b o (by rw [sc]; exact Nat.ne_of_lt hb) (Heap.get?_push_of_some _ e)
  refine ⟨sd, sc, up _ _ (by omega) ?_, up _ _ (by rw [sd]; omega) (Heap.get?_push_size _ fd), Heap.get?_none_of_le (by rw [sd]; omega), fun b o e => up b o ?_ ?_⟩
  · exact Heap.get?_push_of_some _ (Heap.get?_push_size _ fi)
  · exact Nat.lt_of_lt_of_le (Heap.lt_size e) (Nat.le_add_right _ 2)
  · exact Heap.get?_push_of_some _ (Heap.get?_push_of_some _ e)
section
variable {prog : Program} {w : World} {A : Around} {E : Value → Shared → Prop} {s : Shared}

theorem compTurn_two0 (elt t0 it0 t1 it1 : Expr) (scope : Scope) (pos : Pos) (it acc : Value) (env : Env) :
    compTurn (.ListComp elt [⟨t0, it0, [], 0⟩, ⟨t1, it1, [], 0⟩] scope pos) 0 it acc env = (do
      standAt it0.pos
      match ← pyNext it with
      | none => pure (.done .next)
      | some v =>
        letOwnedTupleGo t0 it v
        assign t0 env v
        let x ← eval it1 env
        standAt it1.pos
        let x ← foldedSetIterable it1 env x
        let _ ← runOwn (.compStart (.ListComp elt [⟨t0, it0, [], 0⟩, ⟨t1, it1, [], 0⟩] scope pos) 1 (← holding [x] (pyIter x)) acc env) env
        again (.compLoop (.ListComp elt [⟨t0, it0, [], 0⟩, ⟨t1, it1, [], 0⟩] scope pos) 0 it acc env)) := by
  unfold compTurn
  simp only [List.getElem?_cons_zero, List.getElem?_cons_succ, List.forIn_nil]
  rfl
theorem compTurn_two1 (elt t0 it0 t1 it1 : Expr) (scope : Scope) (pos : Pos) (it acc : Value) (env : Env) :
    compTurn (.ListComp elt [⟨t0, it0, [], 0⟩, ⟨t1, it1, [], 0⟩] scope pos) 1 it acc env = (do
      standAt it1.pos
      match ← pyNext it with
      | none => pure (.done .next)
      | some v =>
        letOwnedTupleGo t1 it v
        assign t1 env v
        (do let _ ← call (.builtin "list.append") [acc, ← eval elt env])
        again (.compLoop (.ListComp elt [⟨t0, it0, [], 0⟩, ⟨t1, it1, [], 0⟩] scope pos) 1 it acc env)) := by
  unfold compTurn
  simp only [List.getElem?_cons_zero, List.getElem?_cons_succ, List.getElem?_nil, List.forIn_nil]
  rfl

theorem compStart_two1 {elt t0 it0 t1 it1 : Expr} {scope : Scope} {pos : Pos} {it acc : Value} {env : Env} {R : Result → Shared → Prop}
    (h0 : codeAny (model prog w) A (.compLoop (.ListComp elt [⟨t0, it0, [], 0⟩, ⟨t1, it1, [], 0⟩] scope pos) 1 it acc env) R s)
    (h : wpAny (model prog w) A (pyIter it) (fun it' s' => codeAny (model prog w) A (.compLoop (.ListComp elt [⟨t0, it0, [], 0⟩, ⟨t1, it1, [], 0⟩] scope pos) 1 it' acc env) R s')
      (notedBy (model prog w) A env fun x s' => R (.error x) s') s) :
    codeAny (model prog w) A (.compStart (.ListComp elt [⟨t0, it0, [], 0⟩, ⟨t1, it1, [], 0⟩] scope pos) 1 it acc env) R s := by
  refine codeAny_of_tree ?_
  show wpAny _ _ ((compStart (.ListComp elt [⟨t0, it0, [], 0⟩, ⟨t1, it1, [], 0⟩] scope pos) 1 it acc env).onRaise (fun x => do noteFrame x env; standAt theWindowsPlace)) _ _ s
  refine wpAny_notedAt ?_
  unfold compStart
  show wpAny _ _ (ask >>= _) _ _ s
  refine wpAny_bind (wpAny_askSetting (wpAny_ite ?_))
  split
  · first
      | exact wpAny_bind (wpAny_pure (wpAny_pure (And.intro rfl h0)))
      | exact wpAny_pure (And.intro rfl h0)
  · first
      | exact wpAny_bind (wpAny_rule (wpAny_bind (wpAny_standAt (wpAny_bind (wpAny_mono h (fun it' s' h' => wpAny_pure (And.intro rfl h')) fun _ _ x => x)))))
      | (refine wpAny_bind (wpAny_rule ?_); show wpAny _ _ (standAt it1.pos >>= _) _ _ s; exact wpAny_bind (wpAny_standAt (wpAny_bind (wpAny_mono h (fun it' s' h' => wpAny_pure (And.intro rfl h')) fun _ _ x => x))))

/-- the inner turns over a written tuple of ints -/
theorem inner_two {elt t0 it0 it1 : Expr} {y : Str} {py : Pos} {scope : Scope} {pos : Pos} {T J D : Addr} {cenv : Env} {tits : Array Value} {ks : List Int} {R : Result → Shared → Prop} {m : Str → Option Value} {ys₀ : List Value} {zs₀ : List Int} (g : Int → Int)
    (hh : A.handled = none) (hy : cenv.kindOf y = some .local) (hp : (cenv.scope.kind == .class || (cenv.scope.kind == .module && cenv.locals != cenv.globals)) = false)
    (hTJ : T ≠ J) (hTC : T ≠ cenv.locals) (hTD : T ≠ D) (hJC : J ≠ cenv.locals) (hJD : J ≠ D) (hDC : D ≠ cenv.locals)
    (hit : s.heap.IsTupleIter J T 0) (hT : s.heap.IsTuple T tits) (hD : s.heap.get? D = some (lst ys₀)) (hn : s.heap.Ns cenv.locals m)
    (hi : IntsAre ys₀ zs₀) (hk : IntsAre tits.toList ks) (hsz : zs₀.length + ks.length ≤ 10000)
    (helt : ∀ k t s₂ m₂ E', k ∈ ks → s₂.heap.Ns cenv.locals m₂ → m₂ y = some (.int k t) → (∀ z, z ≠ y → m₂ z = m z) → wpAny (model prog w) A (eval elt cenv) (fun v s₃ => (∃ t', v = .int (g k) t') ∧ ∃ tk, s₃ = { s₂ with toks := tk }) E' s₂)
    (hR : ∀ h' tk m' ys, h'.Ns cenv.locals m' → (∀ z, z ≠ y → m' z = m z) → h'.get? D = some (lst ys) → IntsAre ys (zs₀ ++ ks.map g) → (∀ b o, b ≠ cenv.locals → b ≠ J → b ≠ D → s.heap.get? b = some o → h'.get? b = some o) → R (.ok .next) { s with heap := h', toks := tk }) :
    codeAny (model prog w) A (.compLoop (.ListComp elt [⟨t0, it0, [], 0⟩, ⟨.Name y py, it1, [], 0⟩] scope pos) 1 (.ref J) (.ref D) cenv) R s := by
  have hsize : tits.size = ks.length := by rw [← Array.length_toList]; exact hk.length
  refine codeAny_loop rfl
    (fun n s' => ∃ h' tk m' ys j, s' = { s with heap := h', toks := tk } ∧ h'.IsTupleIter J T j ∧ h'.IsTuple T tits ∧ h'.get? D = some (lst ys) ∧ h'.Ns cenv.locals m' ∧ (∀ z, z ≠ y → m' z = m z) ∧
      IntsAre ys (zs₀ ++ (ks.take j).map g) ∧ j ≤ ks.length ∧ n = ks.length + 1 - j ∧ ∀ b o, b ≠ cenv.locals → b ≠ J → b ≠ D → s.heap.get? b = some o → h'.get? b = some o) ?_ (ks.length + 1)
    ⟨s.heap, s.toks, m, ys₀, 0, rfl, hit, hT, hD, hn, fun _ _ => rfl, by simpa using hi, Nat.zero_le _, rfl, fun _ _ _ _ _ e => e⟩
  rintro n s' ⟨H, tk, m', ys, j, rfl, hit', hT', hD', hn', hm', hF, hj, rfl, hkp⟩
  show wpAny _ A ((compTurn (.ListComp elt [⟨t0, it0, [], 0⟩, ⟨.Name y py, it1, [], 0⟩] scope pos) 1 (.ref J) (.ref D) cenv).onRaise (fun x => do noteFrame x cenv; theTreesLotGoes x)) _ _ _
  refine wpAny_noted ?_
  rw [compTurn_two1]
  refine wpAny_bind (wpAny_standAt (wpAny_bind ?_))
  cases hv : tits[j]? with
  | none =>
    have hle : ks.length ≤ j := by rw [← hsize]; simpa using hv
    refine wpAny_pyNext_tuple_end hh hit' hT' hv fun h₁ he₁ => ?_
    refine wpAny_pure ?_
    refine hR h₁ tk m' ys (hn'.extBut he₁ (Ne.symm hJC)) hm' (he₁ _ _ (Ne.symm hJD) hD') ?_ fun b o h1 h2 h3 e => he₁ b o h2 (hkp b o h1 h2 h3 e)
    rwa [List.take_of_length_le hle] at hF
  | some v =>
    have hlt : j < ks.length := by rw [← hsize]; exact (Array.getElem?_eq_some_iff.mp hv).1
    obtain ⟨k, t, hv', hkj⟩ := IntsAre.at hk j v (by simpa using hv)
    refine wpAny_pyNext_tuple_item hit' hT' hv fun h₁ hit₁ hs₁ => ?_
    refine wpAny_bind (wpAny_of_eq (show letOwnedTupleGo (.Name y py) (.ref J) v = pure () from rfl) ?_)
    refine wpAny_bind (wpAny_assign_Name (wpAny_storeName_local hy (hn'.sameBut hs₁ (Ne.symm hJC)) (fun h₂ hn₂ hs₂ => ?_) hp))
    have up : ∀ b o, b ≠ cenv.locals → b ≠ J → H.get? b = some o → h₂.get? b = some o := fun b o hb hb' e => hs₂.extBut b o hb (hs₁.extBut b o hb' e)
    refine wpAny_bind (wpAny_bind (wpAny_mono (helt k t _ _ _ (List.mem_of_getElem? hkj) hn₂ (by simp [hv']) fun z hz => by simp [hz, hm' z hz]) (fun r s₃ h₃ => ?_) fun _ _ e => e))
    obtain ⟨⟨t', rfl⟩, tk₃, rfl⟩ := h₃
    have hyl := hF.length
    have hsz' : ys.toArray.size ≤ sizeLine := by
      rw [List.size_toArray, hyl, PySem.sizeLine_eq]
      simp only [List.length_append, List.length_map, List.length_take]
      omega
    refine wpAny_bind (append_at (hsz := hsz') (up _ _ hDC (Ne.symm hJD) hD') fun h₅ hs₅ hD₅ => ?_)
    · refine wpAny_pure (wpAny_pure ⟨rfl, ks.length + 1 - (j + 1), by omega, h₅, tk₃, _, ys ++ [.int (g k) t'], j + 1, rfl, (hit₁.extBut hs₂.extBut hJC).extBut hs₅.extBut hJD, ?_, hD₅.trans (congrArg some (lst_snoc ys _)), hn₂.sameBut hs₅ (Ne.symm hDC), fun z hz => by simp [hz, hm' z hz], ?_, hlt, rfl, fun b o h1 h2 h3 e => hs₅.extBut b o h3 (up b o h1 h2 (hkp b o h1 h2 h3 e))⟩)
      · exact (hT'.at fun o e => up T o hTC hTJ e).extBut hs₅.extBut hTD
      · rw [List.take_add_one, hkj]
        simp only [Option.toList_some, List.map_append, List.map_cons, List.map_nil]
        rw [← List.append_assoc]
        exact IntsAre.append hF (.cons (g k) t' .nil)

/-- the outer turns over a list of ints -/
theorem outer_two {elt it0 it1 : Expr} {x y : Str} {px py : Pos} {scope : Scope} {pos : Pos} {I ax D : Addr} {cenv : Env} {vs : List Value} {ns ks : List Int} {R : Result → Shared → Prop} {m : Str → Option Value} (g : Int → Int → Int)
    (hh : A.handled = none) (hx : cenv.kindOf x = some .local) (hy : cenv.kindOf y = some .local) (hxy : x ≠ y) (hp : (cenv.scope.kind == .class || (cenv.scope.kind == .module && cenv.locals != cenv.globals)) = false)
    (hDI : D ≠ I) (hDC : D ≠ cenv.locals) (hIC : I ≠ cenv.locals) (haI : ax ≠ I) (haC : ax ≠ cenv.locals) (haD : ax ≠ D)
    (hit : s.heap.IsListIter I ax 0) (hl : s.heap.IsList ax vs.toArray) (hD : s.heap.get? D = some (lst [])) (hn : s.heap.Ns cenv.locals m)
    (hi : IntsAre vs ns) (hsz : ns.length ≤ 100) (hsk : ks.length ≤ 10) (hs : ∀ v, foldedSetIterable it1 cenv v = pure v)
    (hit1 : ∀ (s₂ : Shared) (E' : Value → Shared → Prop), wpAny (model prog w) A (eval it1 cenv) (fun xv s₃ => ∃ T tits h' tk, xv = .ref T ∧ s₃ = { s₂ with heap := h', toks := tk } ∧ s₂.heap.StaysIn h' ∧ s₂.heap.get? T = none ∧ h'.IsTuple T tits ∧ IntsAre tits.toList ks) E' s₂)
    (helt : ∀ a t k u (s₂ : Shared) m₂ (E' : Value → Shared → Prop), a ∈ ns → k ∈ ks → s₂.heap.Ns cenv.locals m₂ → m₂ x = some (.int a t) → m₂ y = some (.int k u) → wpAny (model prog w) A (eval elt cenv) (fun v s₃ => (∃ t', v = .int (g a k) t') ∧ ∃ tk, s₃ = { s₂ with toks := tk }) E' s₂)
    (hR : ∀ h' tk m' ys, h'.Ns cenv.locals m' → h'.get? D = some (lst ys) → IntsAre ys (ns.flatMap fun a => ks.map (g a)) → (∀ b o, b ≠ cenv.locals → b ≠ I → b ≠ D → s.heap.get? b = some o → h'.get? b = some o) → R (.ok .next) { s with heap := h', toks := tk }) :
    codeAny (model prog w) A (.compLoop (.ListComp elt [⟨.Name x px, it0, [], 0⟩, ⟨.Name y py, it1, [], 0⟩] scope pos) 0 (.ref I) (.ref D) cenv) R s := by
  have hsize : vs.toArray.size = ns.length := by rw [List.size_toArray]; exact hi.length
  refine codeAny_loop rfl
    (fun n s' => ∃ h' tk m' ys i, s' = { s with heap := h', toks := tk } ∧ h'.IsListIter I ax i ∧ h'.IsList ax vs.toArray ∧ h'.get? D = some (lst ys) ∧ h'.Ns cenv.locals m' ∧
      IntsAre ys ((ns.take i).flatMap fun a => ks.map (g a)) ∧ i ≤ ns.length ∧ n = ns.length + 1 - i ∧ ∀ b o, b ≠ cenv.locals → b ≠ I → b ≠ D → s.heap.get? b = some o → h'.get? b = some o) ?_ (ns.length + 1)
    ⟨s.heap, s.toks, m, [], 0, rfl, hit, hl, hD, hn, by simpa using IntsAre.nil, Nat.zero_le _, rfl, fun _ _ _ _ _ e => e⟩
  rintro n s' ⟨H, tk, m', ys, i, rfl, hit', hl', hD', hn', hF, hj, rfl, hkp⟩
  show wpAny _ A ((compTurn (.ListComp elt [⟨.Name x px, it0, [], 0⟩, ⟨.Name y py, it1, [], 0⟩] scope pos) 0 (.ref I) (.ref D) cenv).onRaise (fun x => do noteFrame x cenv; theTreesLotGoes x)) _ _ _
  refine wpAny_noted ?_
  rw [compTurn_two0]
  refine wpAny_bind (wpAny_standAt (wpAny_bind ?_))
  cases hv : vs.toArray[i]? with
  | none =>
    have hle : ns.length ≤ i := by rw [← hsize]; simpa using hv
    refine wpAny_pyNext_list_end hh hit' hl' hv fun h₁ he₁ => ?_
    refine wpAny_pure ?_
    refine hR h₁ tk m' ys (hn'.extBut he₁ (Ne.symm hIC)) (he₁ _ _ hDI hD') ?_ fun b o h1 h2 h3 e => he₁ b o h2 (hkp b o h1 h2 h3 e)
    rwa [List.take_of_length_le hle] at hF
  | some v =>
    have hlt : i < ns.length := by rw [← hsize]; exact (Array.getElem?_eq_some_iff.mp hv).1
    obtain ⟨a, t, hv', hki⟩ := IntsAre.at hi i v (by simpa using hv)
    refine wpAny_pyNext_list_item hit' hl' hv fun h₁ hit₁ hs₁ => ?_
    refine wpAny_bind (wpAny_of_eq (show letOwnedTupleGo (.Name x px) (.ref I) v = pure () from rfl) ?_)
    refine wpAny_bind (wpAny_assign_Name (wpAny_storeName_local hx (hn'.sameBut hs₁ (Ne.symm hIC)) (fun h₂ hn₂ hs₂ => ?_) hp))
    have up : ∀ b o, b ≠ cenv.locals → b ≠ I → H.get? b = some o → h₂.get? b = some o := fun b o hb hb' e => hs₂.extBut b o hb (hs₁.extBut b o hb' e)
    refine wpAny_bind (wpAny_mono (hit1 _ _) (fun xv s₃ h₃ => ?_) fun _ _ e => e)
    obtain ⟨T, tits, h₃, tk₃, rfl, rfl, st₃, hTn, hT, hkT⟩ := h₃
    refine wpAny_bind (wpAny_standAt (wpAny_bind (wpAny_of_eq (hs _) (wpAny_bind (wpAny_holding (wpAny_pyIter_tuple hT ?_))))))
    have hit₂ : h₂.IsListIter I ax (i + 1) := hit₁.extBut hs₂.extBut hIC
    have hl₂ : h₂.IsList ax vs.toArray := hl'.at fun o e => up ax o haC haI e
    have hD₂ : h₂.get? D = some (lst ys) := up _ _ hDC hDI hD'
    have hTne : ∀ b o, h₂.get? b = some o → T ≠ b := fun b o e q => by
      have hTn' : h₂.get? T = none := hTn
      rw [q, e] at hTn'; cases hTn'
    have hCo : ∃ o, h₂.get? cenv.locals = some o := let ⟨o, _, _, e, _⟩ := hn₂; ⟨o, e⟩
    have hIo : ∃ o, h₂.get? I = some o := let ⟨o, e, _⟩ := hit₂; ⟨o, e⟩
    obtain ⟨oC, hoC⟩ := hCo
    obtain ⟨oI, hoI⟩ := hIo
    obtain ⟨oT, hoT, _⟩ := id hT
    have hJ : ∀ b o, h₃.get? b = some o → b ≠ h₃.objs.size := fun b o e => Nat.ne_of_lt (Heap.lt_size e)
    have old : ∀ b o, h₂.get? b = some o → (h₃.push { cls := .type "tuple_iterator", data := .fields #[.ref T, .int 0 0] }).get? b = some o := fun b o e => Heap.get?_push_of_some _ (st₃ b o e)
    have hz : (((ns.take i).flatMap fun a => ks.map (g a))).length ≤ 1000 := by
      rw [List.length_flatMap]
      simp only [List.length_map]
      have : ∀ l : List Int, (l.map fun _ => ks.length).sum = l.length * ks.length := by
        intro l
        induction l with
        | nil => simp
        | cons q r ih => simp only [List.map_cons, List.sum_cons, ih, List.length_cons, Nat.succ_mul]; omega
      rw [this, List.length_take]
      have h1 : min i ns.length ≤ 100 := by omega
      exact Nat.le_trans (Nat.mul_le_mul h1 hsk) (by decide)
    have loop : codeAny (model prog w) A (.compLoop (.ListComp elt [⟨.Name x px, it0, [], 0⟩, ⟨.Name y py, it1, [], 0⟩] scope pos) 1 (.ref h₃.objs.size) (.ref D) cenv)
        (fun r s' => match r with
          | .ok _ => ∃ h' tk' m'' ys', s' = { s with heap := h', toks := tk' } ∧ h'.IsListIter I ax (i + 1) ∧ h'.IsList ax vs.toArray ∧ h'.get? D = some (lst ys') ∧ h'.Ns cenv.locals m'' ∧ IntsAre ys' ((ns.take (i + 1)).flatMap fun a => ks.map (g a)) ∧ ∀ b o, b ≠ cenv.locals → b ≠ I → b ≠ D → s.heap.get? b = some o → h'.get? b = some o
          | .error e => cameBackBy (model prog w) A cenv (notedBy (model prog w) A cenv fun e s' => R (.error e) s') e s')
        { s with heap := h₃.push { cls := .type "tuple_iterator", data := .fields #[.ref T, .int 0 0] }, toks := tk₃ } := by
      refine inner_two (g a) (ys₀ := ys) (zs₀ := (ns.take i).flatMap fun a => ks.map (g a)) (ks := ks) hh hy hp (hJ _ _ hoT) (hTne _ _ hoC) (hTne _ _ hD₂) (Ne.symm (hJ _ _ (st₃ _ _ hoC))) (Ne.symm (hJ _ _ (st₃ _ _ hD₂))) hDC
        ⟨_, Heap.get?_push_size _ rfl, rfl, rfl⟩ (hT.at fun o e => Heap.get?_push_of_some _ e) (old _ _ hD₂) (hn₂.keeps old) hF hkT (by omega) (fun k u s₄ m₄ E' hk hn₄ hy₄ hm₄ => helt a t k u s₄ m₄ E' (List.mem_of_getElem? hki) hk hn₄ ?_ hy₄) fun h' tk' m'' ys' hn'' hm'' hD'' hI'' hk'' => ?_
      · rw [hm₄ x hxy]; simp [hv']
      · refine ⟨h', tk', m'', ys', rfl, (hit₂.at fun o e => hk'' I o hIC (hJ _ _ (st₃ _ _ hoI)) (Ne.symm hDI) (old _ _ e)), (hl₂.at fun o e => hk'' ax o haC (hJ _ _ (st₃ _ _ e)) haD (old _ _ e)), hD'', hn'', ?_, fun b o h1 h2 h3 e => ?_⟩
        · rw [List.take_add_one, hki, List.flatMap_append]
          simpa using hI''
        · have e2 := up b o h1 h2 (hkp b o h1 h2 h3 e)
          exact hk'' b o h1 (hJ _ _ (st₃ _ _ e2)) h3 (old _ _ e2)
    refine wpAny_bind (wpAny_runOwn (codeAny_mono (compStart_two1 loop (wpAny_pyIter_tupleiter ⟨_, Heap.get?_push_size _ rfl, rfl, rfl⟩ loop)) fun r s' hr => ?_))
    cases r with
    | error e => exact hr
    | ok f =>
      obtain ⟨h', tk', m'', ys', rfl, b1, b2, b3, b4, b5, b6⟩ := hr
      exact wpAny_pure ⟨rfl, ns.length + 1 - (i + 1), by omega, h', tk', m'', ys', i + 1, rfl, b1, b2, b3, b4, b5, hlt, rfl, b6⟩

variable {env : Env} {h₀ : Heap} {L : Addr} {m : Str → Option Value}
def TwoEnd (h₀ : Heap) (L : Addr) (m : Str → Option Value) (ks : List Int) (ok : List Int → Prop) (g : Int → Int → Int) (Q : Value → Shared → Prop) (xv : Value) (s₁ : Shared) : Prop :=
  ∃ ax vs ns news, xv = .ref ax ∧ s₁.heap.IsList ax vs.toArray ∧ IntsAre vs ns ∧ ns.length ≤ 100 ∧ ok ns ∧ Fr h₀ L s₁.heap m ∧ News h₀ L s₁.heap news ∧
    ∀ D h' tk ys, Fr h₀ L h' m → News h₀ L h' ((D, lst ys) :: news) → Off1 D news → IntsAre ys (ns.flatMap fun a => ks.map (g a)) → Q (.ref D) { s₁ with heap := h', toks := tk }
theorem ListComp_two {elt it0 it1 : Expr} {x y : Str} {px py : Pos} {scope : Scope} {pos : Pos} {Q : Value → Shared → Prop} {ks : List Int} (ok : List Int → Prop) (g : Int → Int → Int) (_F₀ : Fr h₀ L s.heap m)
    (hh : A.handled = none) (hfree : ∀ z ∈ scope.names, z.2 ≠ .free) (hcell : ∀ z ∈ scope.names, z.2 ≠ .cell) (hkind : scope.kind = .function) (hnames : ∀ z ∈ scope.names, z.2 = .local → scope.names.lookup z.1 = some .local)
    (hx : scope.names.lookup x = some .local) (hy : scope.names.lookup y = some .local) (hxy : x ≠ y) (hsk : ks.length ≤ 10) (hs1 : ∀ (C : Addr) v, foldedSetIterable it1 (compEnv scope C env) v = pure v)
    (hit1 : ∀ (C : Addr) (s₂ : Shared) (E' : Value → Shared → Prop), wpAny (model prog w) A (eval it1 (compEnv scope C env)) (fun xv s₃ => ∃ T tits h' tk, xv = .ref T ∧ s₃ = { s₂ with heap := h', toks := tk } ∧ s₂.heap.StaysIn h' ∧ s₂.heap.get? T = none ∧ h'.IsTuple T tits ∧ IntsAre tits.toList ks) E' s₂)
    (helt : ∀ (C : Addr) ns a t k u (s₂ : Shared) m₂ (E' : Value → Shared → Prop), ok ns → a ∈ ns → k ∈ ks → s₂.heap.Ns C m₂ → m₂ x = some (.int a t) → m₂ y = some (.int k u) → wpAny (model prog w) A (eval elt (compEnv scope C env)) (fun v s₃ => (∃ t', v = .int (g a k) t') ∧ ∃ tk, s₃ = { s₂ with toks := tk }) E' s₂)
    (h : wpAny (model prog w) A (eval it0 env) (TwoEnd h₀ L m ks ok g Q) E s)
    (hs : ∀ v, foldedSetIterable it0 env v = pure v := by intro _; rfl) :
    wpAny (model prog w) A (eval (.ListComp elt [⟨.Name x px, it0, [], 0⟩, ⟨.Name y py, it1, [], 0⟩] scope pos) env) Q E s := by
  refine wpAny_ListComp hfree hkind hnames (wpAny_mono h (fun xv s₁ h₁ => ?_) fun _ _ e => e) hs
  obtain ⟨ax, vs, ns, news, rfl, hl, hi, hsz, hok, F, N, hQ⟩ := h₁
  refine wpAny_pyIter_list hl (wpAny_newObj_type (hd := by size_fits) (wpAny_newFunctionEnv hcell (by intro y hy; simp at hy) (fun h₁ hns₁ hsb₁ => ?_) hkind))
  have Z := three_new hsb₁ rfl rfl
  obtain ⟨ol, hol, hol'⟩ := id hl
  have hax : ax < s₁.heap.objs.size := Heap.lt_size hol
  have zd := Z.sd
  have zc := Z.sc
  have hacc := Z.gd
  have hnew := Z.nd
  have old := Z.kept
  have hit : h₁.IsListIter s₁.heap.objs.size ax 0 := ⟨_, Z.gi, rfl, rfl⟩
  have hl₁ : h₁.IsList ax vs.toArray := ⟨ol, old _ _ hol, hol'⟩
  clear Z
  dsimp only at hns₁ zd zc hacc hnew ⊢
  generalize ((s₁.heap.push { cls := .type "list_iterator", data := .fields #[.ref ax, .int 0 0] }).push { cls := .type "list", dict := none, data := .seq ([] : List Value).toArray }).objs.size = aC at hns₁ zc ⊢
  generalize (s₁.heap.push { cls := .type "list_iterator", data := .fields #[.ref ax, .int 0 0] }).objs.size = aD at zd hacc hnew ⊢
  clear hsb₁
  subst zd zc
  have apart : ∀ b, b < s₁.heap.objs.size → b ≠ s₁.heap.objs.size + 2 ∧ b ≠ s₁.heap.objs.size ∧ b ≠ s₁.heap.objs.size + 1 := fun b hb => apart3 hb
  have loop : ∀ s₂ : Shared, s₂ = { s₁ with heap := h₁, toks := s₁.toks + ([] : List (Str × Value)).length } →
      codeAny (model prog w) A (.compLoop (.ListComp elt [⟨.Name x px, it0, [], 0⟩, ⟨.Name y py, it1, [], 0⟩] scope pos) 0 (.ref s₁.heap.objs.size) (.ref (s₁.heap.objs.size + 1)) (compEnv scope (s₁.heap.objs.size + 2) env))
        (fun r s' => ∃ m, s'.heap.Ns (s₁.heap.objs.size + 2) m ∧ ∀ h', Heap.SameBut (s₁.heap.objs.size + 2) s'.heap h' →
          match r with | .ok _ => Q (.ref (s₁.heap.objs.size + 1)) { s' with heap := h' } | .error x => wpAny (model prog w) A (passOn "comprehension.variables-let-go" x (compEnv scope (s₁.heap.objs.size + 2) env)) Q E { s' with heap := h' }) s₂ := by
    rintro s₂ rfl
    refine outer_two (cenv := compEnv scope (s₁.heap.objs.size + 2) env) (ks := ks) g hh hx hy hxy (by simp [compEnv, hkind]) (ne_10 _) (ne_12 _) (ne_02 _) (apart ax hax).2.1 (apart ax hax).1 (apart ax hax).2.2 hit hl₁ hacc hns₁ hi hsz hsk (hs1 _) (hit1 _)
      (fun a t k u s₂ m₂ E' ha hk hn hxa hyk => helt _ ns a t k u s₂ m₂ E' hok ha hk hn hxa hyk) fun h' tk m' ys hn ha hF hk => ?_
    refine ⟨m', hn, fun h'' hs'' => ?_⟩
    have up : ∀ b o, s₁.heap.get? b = some o → h''.get? b = some o := fun b o e =>
      hs''.extBut b o (apart b (Heap.lt_size e)).1 (hk b o (apart b (Heap.lt_size e)).1 (apart b (Heap.lt_size e)).2.1 (apart b (Heap.lt_size e)).2.2 (old b o e))
    obtain ⟨F', N', O'⟩ := news_new F N up hnew (hs''.extBut _ _ (ne_12 _) ha)
    exact hQ _ h'' tk ys F' N' O' hF
  exact codeAny_compStart_list (loop _ rfl) (wpAny_pyIter_listiter hit (loop _ rfl))
end
end Mine
end TLc2

section TC7
open PySem PySem.W PySem.Calls PyProof.Rows
namespace Mine
local macro_rules | `(tactic| walk_at "mine enter") => `(tactic| (refine wpAny_call ?_; k_dflt (refine' enter ?X ?T ?k6 ?k7 ?k8 ?k9 ?kB ?_ ?c2 ?c3 ?c4 ?c5; (case X => k_asm); (case T => k_asm); (case k6 => k_is); (case k7 => k_is); (case k8 => ktr_room); (case k9 => exact BindsTo.of_eq rfl); (case c5 => decide); (case kB => exact locs rfl); (case c2 => exact rfl); (case c3 => exact rfl); (case c4 => exact rfl); k_whole); intro L' h' F' N'; (try dsimp only); (try k_fold)))

def onesOf (a k : Int) : Int := ((a - 65).fdiv k).fmod 2
def ones (ns : List Int) : Int := (ns.flatMap fun a => [1, 2, 4, 8].map (onesOf a)).sum
section
variable {M : Model} {A : Around} {E : Value → Shared → Prop} {s : Shared} {env : Env}
theorem ones_it {p1 p2 p3 p4 pt : Pos} {k : Nat} : wpAny M A (eval (.Tuple [.Constant (.int 1) 0 p1, .Constant (.int 2) 0 p2, .Constant (.int 4) 0 p3, .Constant (.int 8) 0 p4] k pt) env)
    (fun xv s₃ => ∃ T tits h' tk, xv = .ref T ∧ s₃ = { s with heap := h', toks := tk } ∧ s.heap.StaysIn h' ∧ s.heap.get? T = none ∧ h'.IsTuple T tits ∧ IntsAre tits.toList [1, 2, 4, 8]) E s := by
  refine Tuple_ (spliced_more (wpAny_Constant_int (spliced_more (wpAny_Constant_int (spliced_more (wpAny_Constant_int (spliced_more (wpAny_Constant_int (spliced_none ?_)))))))))
  refine wpAny_newObj_type ⟨s.heap.objs.size, _, _, _, rfl, rfl, fun b o e => Heap.get?_push_of_some _ e, Heap.get?_none_of_le (Nat.le_refl _), ⟨_, Heap.get?_push_size _ rfl, rfl, _, rfl⟩, ?_⟩
  exact .cons _ _ (.cons _ _ (.cons _ _ (.cons _ _ .nil)))
end

set_option maxRecDepth 100000 in
set_option maxHeartbeats 8000000 in
theorem C_ones {w : World} {dp un : Nat} {gd : Option (List Code)} {frs : List Env} {s : Shared} {Q E : Value → Shared → Prop} (H : Sd w frs s.heap) (hdp : dp + 2 < recursionLimit)
    {l : Addr} {vs : List Value} {ns : List Int} (hl : s.heap.IsList l vs.toArray) (hi : IntsAre vs ns) (hsz : ns.length ≤ 100)
    (hret : ∀ t h' tk', s.heap.StaysIn h' → Q (.int (ones ns) t) { s with heap := h', toks := tk' }) :
    wpAny (model PySem.Challenge.rw_oc0020_01.prog w) (Ar dp un gd frs) (call (.ref 78) [.ref l]) Q E s := by
  obtain ⟨p, loose, mean, mg, mb, X, T⟩ := H.get
  revert X
  k_fill
  intro X
  walk_at "mine enter"
  k_with_none
  w_top off
  k_with "eval ListComp BinOp cons" => (k_dflt (refine ListComp_two (ks := [1, 2, 4, 8]) (fun _ => True) onesOf (by k_asm) (by rfl) (by decide) (by decide) (by rfl) (by decide) (by rfl) (by rfl) (by decide) (by decide) (fun _ _ => rfl) (fun _ _ _ => ones_it) ?elt ?_); (case elt => (intro C ns a t k u s₂ m₂ E' _ _ hk hn hx hy; (have hk0 : k ≠ 0 ∧ k.natAbs < 1073741824 := (by (simp only [List.mem_cons, List.not_mem_nil, or_false] at hk); omega)); exact wpAny_BinOp (wpAny_BinOp (wpAny_BinOp (wpAny_Name (wpAny_loadName_local rfl rfl hn hx (wpAny_Constant_int (sub_int' (wpAny_Name (wpAny_loadName_local rfl rfl hn hy (floordiv_int hk0.1 (wpAny_Constant_int (mod_int' (by decide) ⟨⟨_, rfl⟩, _, rfl⟩)) (Or.inl (PyProof.noPylong_small hk0.2)))) (by decide)))) ) (by decide)))))))
  k_with "TwoEnd" => (refine ⟨_, vs, ns, _, rfl, stays_list (Fr.keep (by k_asm)) hl, hi, hsz, trivial, by k_asm, by k_asm, ?_⟩; intro D' h' tk' ys' F' N' o1' hI'; (try simp only [LCg.Off1, and_true] at o1'); (try dsimp only))
  k_steps
  exact retI hret rfl (by assumption)
end Mine
end TC7

section TLb
open PySem PySem.W PySem.Calls PyProof.Rows
set_option maxRecDepth 100000
namespace Mine
section
variable {prog : Program} {w : World} {A : Around} {E : Value → Shared → Prop} {s : Shared}
abbrev ByteAt (b : Array UInt8) (i : Nat) (v : Value) : Prop := ∃ c u, b[i]? = some c ∧ v = .int (c.toNat : Int) u

theorem ext_bytes {R : Result → Shared → Prop} (hh : A.handled = none) (b : Array UInt8) (t : Tok) (S : Addr) (res : Value) (c₀ : Nat) (hS : s.heap.get? S = some { cls := .type "list", data := .seq #[] c₀ })
    (hR : ∀ h' tk acc' c', (∀ b o, b ≠ S → s.heap.get? b = some o → h'.get? b = some o) → h'.get? S = some { cls := .type "list", dict := none, data := .seq acc' c', slots := #[] } →
      ItemsOf (ByteAt b) acc' b.size → R (.ok (.ret res)) { s with heap := h', toks := tk }) (hn : b.size ≤ sizeLine) :
    wpAny (model prog w) A.in1 (Builtin.List.listExtendWith (.ref S) (.bytes b t) res)
      (fun fin s' => match fin with | .done f => R (.ok f) s' | .again c' => c'.quiet = true ∧ codeAny (model prog w) A c' R s') (fun e s' => R (.error e) s') s := by
  have hSI : S ≠ s.heap.objs.size := Nat.ne_of_lt (Heap.lt_size hS)
  have hSf : S ∉ [s.heap.objs.size] := fun hm => hSI (List.mem_singleton.mp hm)
  unfold Builtin.List.listExtendWith
  refine wpAny_bind (wpAny_typeOf (T := "bytes") (v := .bytes b t) rfl ?_)
  have h1 : Builtin.List.listSameRef (.ref S) (.bytes b t) = false := rfl
  have h2 : (Value.type "bytes" == Value.type "list") = false := by decide
  have h3 : (Value.type "bytes" == Value.type "tuple") = false := by decide
  simp only [h1, h2, h3, Bool.or_false, Bool.false_eq_true, if_false]
  refine wpAny_bind (KBw.pyIter_bytes ?_)
  refine wpAny_bind (wpAny_holding ?_)
  unfold Builtin.List.listLengthHint
  refine wpAny_bind (wpAny_specialOf (T := "bytes") (v := .bytes b t) rfl FB.slot_bytes_len.lookup ?_)
  wp_delta
  refine wpAny_bind (wpAny_isInstance (T := "bytes") (v := .bytes b t) (b := true) rfl (by rw [isSubtype_type]; kernel_rfl) ?_)
  show wpAny _ _ (typeOf (Value.bytes b t) >>= _) _ _ _
  refine wpAny_bind (wpAny_typeOf (T := "bytes") (v := .bytes b t) rfl ?_)
  refine wpAny_pure ?_
  rw [if_neg (by decide)]
  refine wpAny_pure ⟨plainId_quiet F.plain_extend_loop _, codeAny_extend_loopS (KBw.walks (A := A.in1) hh s.heap.objs.size b t).toS hn _ hSf _ b.size 0 _ _ _ rfl (Nat.zero_le _) ⟨_, Heap.get?_push_size _ rfl, rfl, rfl⟩ (Heap.get?_push_of_some _ hS) (ItemsOf.nil _) fun s' acc' c' hm hS' hacc => ?_⟩
  rw [Moved.eq_with hm]
  refine hR s'.heap s'.toks acc' c' (fun b ob hb e => hm.heap b ob (fun hmem => ?_) (Heap.get?_push_of_some _ e)) hS' hacc
  rcases List.mem_cons.mp hmem with e' | hmem
  · exact hb e'
  · exact absurd (Heap.lt_size e) (by rw [List.mem_singleton.mp hmem]; exact Nat.lt_irrefl _)

theorem init_bytes {R : Result → Shared → Prop} (hh : A.handled = none) (x : Array UInt8) (t : Tok) (S : Addr) (hS : s.heap.get? S = some { cls := .type "list", data := .seq #[] })
    (hR : ∀ h' tk acc' c', (∀ b o, b ≠ S → s.heap.get? b = some o → h'.get? b = some o) → h'.get? S = some { cls := .type "list", dict := none, data := .seq acc' c', slots := #[] } →
      ItemsOf (ByteAt x) acc' x.size → R (.ok (.ret .none)) { s with heap := h', toks := tk }) (hn : x.size ≤ sizeLine) :
    wpAny (model prog w) A.in1 (Builtin.«list.__init__» ⟨[.ref S, .bytes x t], []⟩)
      (fun fin s' => match fin with | .done f => R (.ok f) s' | .again c' => c'.quiet = true ∧ codeAny (model prog w) A c' R s') (fun e s' => R (.error e) s') s := by
  show wpAny _ _ (do let old ← Builtin.List.listItems (.ref S); Builtin.List.listUpdate (.ref S) (fun _ => #[]); letGo old.toList.reverse; Builtin.List.listExtendWith (.ref S) (.bytes x t) .none) _ _ s
  refine wpAny_bind ?_
  unfold Builtin.List.listItems
  refine wpAny_bind (wpAny_seqItems hS rfl (wpAny_pure ?_))
  show wpAny _ _ (updateSeq S (fun _ => #[]) >>= fun _ => letGo (#[] : Array Value).toList.reverse >>= fun _ => Builtin.List.listExtendWith (.ref S) (.bytes x t) .none) _ _ s
  refine wpAny_bind (wpAny_updateSeq hS rfl ?_)
  have hS₂ := Heap.get?_update_self (Obj.mapSeq (fun _ => (#[] : Array Value))) hS rfl
  have oth : ∀ b o, b ≠ S → s.heap.get? b = some o → (s.heap.update S (Obj.mapSeq (fun _ => (#[] : Array Value)))).get? b = some o :=
    fun b o hb e => (Heap.get?_update_other _ _ (Ne.symm hb)).trans e
  refine wpAny_bind (wpAny_letGo ?_)
  refine ext_bytes (hn := hn) hh x t S .none _ hS₂ fun h' tk acc' c' hk hS' hacc => ?_
  exact hR h' tk acc' c' (fun b o hb e => hk b o hb (oth b o hb e)) hS' hacc

theorem ints_of_items : ∀ {b : List UInt8} {acc : List Value}, acc.length = b.length → (∀ (j : Nat) (v : Value), acc[j]? = some v → ∃ (c : UInt8) (u : Tok), b[j]? = some c ∧ v = Value.int (c.toNat : Int) u) → IntsAre acc (b.map fun c => (c.toNat : Int))
  | [], [], _, _ => .nil
  | [], _ :: _, h, _ => by simp at h
  | _ :: _, [], h, _ => by simp at h
  | c :: r, v :: acc, h, hh => by
    obtain ⟨c', u, e1, e2⟩ := hh 0 v rfl
    have : c = c' := by simpa using e1
    subst this
    subst e2
    exact .cons _ _ (ints_of_items (by simpa using h) fun j v hj => hh (j + 1) v (by simpa using hj))

theorem list_bytes {Q : Value → Shared → Prop} (hh : A.handled = none) (x : Array UInt8) (t : Tok)
    (hQ : ∀ h' tk vs c', s.heap.StaysIn h' → h'.get? s.heap.objs.size = some (listOf vs.toArray c') → IntsAre vs (KBw.bInts x) → Q (.ref s.heap.objs.size) { s with heap := h', toks := tk }) (hn : x.size ≤ sizeLine) :
    wpAny (model prog w) A (call (.type "list") [.bytes x t]) Q E s := by
  refine callType_codes (Q₁ := fun obj s₁ => obj = .ref s.heap.objs.size ∧ s₁ = { s with heap := s.heap.push { cls := .type "list", data := .seq #[] } }) F.called_list (F.typeCall_list_1 _) F.entry_list_init
    (code_list_new _ ⟨rfl, rfl⟩) fun obj s₁ h₁ => ?_
  obtain ⟨rfl, rfl⟩ := h₁
  have hS : (s.heap.push { cls := .type "list", data := .seq #[] }).get? s.heap.objs.size = some { cls := .type "list", data := .seq #[] } := Heap.get?_push_size _ rfl
  refine ⟨⟨_, hS, rfl⟩, F.args_list_init_2 _ _, init_bytes (A := A.in1) (hn := hn) hh x t _ hS fun h' tk acc' c' hk hS' hacc => ?_⟩
  refine ⟨rfl, hQ h' tk acc'.toList c' (fun b o e => hk b o (Nat.ne_of_lt (Heap.lt_size e)) (Heap.get?_push_of_some _ e)) (by simpa using hS') ?_⟩
  exact ints_of_items (by simpa using hacc.1) fun j v hj => by
    obtain ⟨c, u, e1, e2⟩ := hacc.2 j v (by simpa using hj)
    exact ⟨c, u, by simpa using e1, e2⟩

theorem list_bytesK {Q : Value → Shared → Prop} {h₀ : Heap} {L : Addr} {m : Str → Option Value} {news : List (Addr × Obj)} (hh : A.handled = none) (F : Fr h₀ L s.heap m) (N : News h₀ L s.heap news) (x : Array UInt8) (t : Tok) {ns : List Int} (hx : KBw.bInts x = ns) (hn : ns.length ≤ 100)
    (h : ∀ D h' tk vs c', Fr h₀ L h' m → News h₀ L h' ((D, listOf vs.toArray c') :: news) → (∀ p ∈ news, p.1 < D) → IntsAre vs ns → Q (.ref D) { s with heap := h', toks := tk }) :
    wpAny (model prog w) A (call (.type "list") [.bytes x t]) Q E s := by
  refine list_bytes hh x t (fun h' tk vs c' k e i => ?_) (by rw [← KBw.ints_length, hx, PySem.sizeLine_eq]; omega)
  obtain ⟨F', N', _⟩ := news_new F N k (Heap.get?_none_of_le (Nat.le_refl _)) e
  exact h _ h' tk vs c' F' N' (fun p hp => Heap.lt_size (N p hp).1) (hx ▸ i)
end
end Mine
end TLb

section TKu
open PySem PySem.W PySem.Calls PyProof.Rows
namespace Mine
theorem ap_3 {n : Int} (h0 : 0 ≤ n) (hn : n < 4096) : (apG n []).length ≤ 3 := by
  by_cases h1 : n = 0
  · subst h1; decide
  · rw [apG_step h0 h1]
    by_cases h2 : n / 16 = 0
    · rw [h2, apG_zero]; simp
    · rw [apG_step (by omega) h2]
      by_cases h3 : n / 16 / 16 = 0
      · rw [h3, apG_zero]; simp
      · rw [apG_step (by omega) h3, show n / 16 / 16 / 16 = 0 by omega, apG_zero]; simp

section
variable {w : World} {h₀ : Heap} {frs outer : List Env} {L : Addr} {m : Str → Option Value} {news : List (Addr × Obj)} {dp un : Nat} {gd : Option (List Code)} {s : Shared} {Q E : Value → Shared → Prop} {env : Env}
  {p : Program} {loose : List Str} {mean : ExcName → Option Value} {mg mb : Str → Option Value}
theorem K_ap (H : Sd w frs s.heap) (F : Fr h₀ L s.heap m) (N : News h₀ L s.heap news) (hdp : dp + 1 < recursionLimit) {n : Int} {t : Tok} (h0 : 0 ≤ n) (hn : n < 4096)
    (h : ∀ b t h' tk', KBw.bInts b = apG n [] → (apG n []).length ≤ 3 → Fr h₀ L h' m → News h₀ L h' news → Q (.bytes b t) { s with heap := h', toks := tk' }) :
    wpAny (model PySem.Challenge.rw_oc0020_01.prog w) (Ar dp un gd frs) (call (.ref 21) [.int n t]) Q E s :=
  C_ap H hdp h0 hn fun b t h' tk' e k => h b t h' tk' e (ap_3 h0 hn) (F.keeps k) (N.grown k)

theorem K_uld {fos keep : List (Addr × Obj)} (Fs : TI.Frs outer fos) (X : (hd.heap_39 w.params).In h₀) (T : Top p loose mean mg mb h₀) (F : Fr h₀ L s.heap m) (N : News h₀ L s.heap news) (hf : env.frame = some L) (hk : env.scope.kind = .function)
    (hsub : ∀ q ∈ fos, q ∈ news) (hdp : dp + 1 < recursionLimit)
    {e a : Addr} {es rs : List Value} {xs ys : List Int} {n1 n2 : Nat} (he : (e, listOf es.toArray n1) ∈ news) (ha : (a, listOf rs.toArray n2) ∈ news) (hea : e ≠ a) (hie : IntsAre es xs) (hia : IntsAre rs ys) (hxs : xs.length ≤ 100) (hys : ys.length ≤ 100)
    (hkeep : ∀ q ∈ keep, q ∈ news) (hke : ∀ q ∈ keep, q.1 ≠ e) (hka : ∀ q ∈ keep, q.1 ≠ a) (hkf : ∀ q ∈ keep, q.1 ∉ fos.map (·.1))
    (h : ∀ (tp mi : Addr) (ms rs' : List Value) (n3 n4 : Nat) (h' : Heap) (tk' : Nat) (fos' : List (Addr × Obj)), IntsAre ms (uld xs ys).1 → IntsAre rs' (uld xs ys).2 → TI.SameUp fos fos' → TI.Frs outer fos' → Fr h₀ L h' m →
      News h₀ L h' ((tp, { cls := .type "tuple", data := .seq #[.ref mi, .ref a] }) :: (mi, listOf ms.toArray n3) :: (a, listOf rs'.toArray n4) :: (keep ++ fos')) →
      (∀ b o, b ≠ e → b ≠ a → b ≠ L → b ∉ fos.map (·.1) → s.heap.get? b = some o → h'.get? b = some o) →
      s.heap.get? tp = none → s.heap.get? mi = none → tp ≠ mi → Q (.ref tp) { s with heap := h', toks := tk' }) :
    wpAny (model PySem.Challenge.rw_oc0020_01.prog w) (Ar dp un gd (env :: outer)) (call (.ref 28) [.ref e, .ref a]) Q E s := by
  obtain ⟨oL, les, lep, hL, hLd, hLr⟩ := F.ns
  have hL0 : h₀.get? L = none := Heap.get?_none_of_le F.above
  have Z : ∀ q ∈ (L, oL) :: fos, s.heap.get? q.1 = some q.2 ∧ h₀.get? q.1 = none := fun q hq => by
    rcases List.mem_cons.mp hq with rfl | hq
    · exact ⟨hL, hL0⟩
    · exact ⟨(N q (hsub q hq)).1, (N q (hsub q hq)).2.2⟩
  have ze := N _ he
  have za := N _ ha
  refine C_uld hdp F.keep X T (frs_cons Fs hf hk ⟨les, lep, hLd⟩) Z ze.1 ze.2.2 za.1 za.2.2 hea hie hia hxs hys ?_
  intro tp mi ms rs' n3 n4 h' tk' fos2 i1 i2 kp su hz t1 t2 t3 f1 f2 tm
  cases fos2 with
  | nil => exact False.elim su
  | cons q fos' =>
    obtain ⟨q1, ⟨sl, q2⟩, su'⟩ := su
    have hL' : h'.get? L = some { oL with slots := sl } := by
      have := hz q List.mem_cons_self
      rw [q1, q2] at this; exact this
    have keepH : ∀ b o, b ≠ e → b ≠ a → b ≠ L → b ∉ fos.map (·.1) → s.heap.get? b = some o → h'.get? b = some o := fun b o h1 h2 h3 h4 e0 => kp b o h1 h2 (fun hm => by
      rcases List.mem_cons.mp hm with z | z
      · exact h3 z
      · exact h4 z) e0
    have nofos : ∀ b o, h₀.get? b = some o → b ∉ fos.map (·.1) := fun b o e0 hm => by
      obtain ⟨z, hz', rfl⟩ := List.mem_map.mp hm
      rw [(N z (hsub z hz')).2.2] at e0; cases e0
    have F' : Fr h₀ L h' m := ⟨⟨_, les, lep, hL', hLd, hLr⟩, fun b o e0 => keepH b o (fun z => by rw [z, ze.2.2] at e0; cases e0) (fun z => by rw [z, za.2.2] at e0; cases e0) (fun z => by rw [z, hL0] at e0; cases e0) (nofos b o e0) (F.keep b o e0), F.above⟩
    have none0 : ∀ b, s.heap.get? b = none → b ≠ L ∧ h₀.get? b = none := fun b e0 => by
      refine ⟨fun z => ?_, ?_⟩
      · rw [z, hL] at e0; cases e0
      · cases q : h₀.get? b with
        | none => rfl
        | some o => have := F.keep _ _ q; rw [e0] at this; cases this
    refine h tp mi ms rs' n3 n4 h' tk' fos' i1 i2 su' (Fs.up su') F' (fun z hz' => ?_) keepH f1 f2 tm
    rcases List.mem_cons.mp hz' with rfl | hz'
    · exact ⟨t1, none0 _ f1⟩
    · rcases List.mem_cons.mp hz' with rfl | hz'
      · exact ⟨t2, none0 _ f2⟩
      · rcases List.mem_cons.mp hz' with rfl | hz'
        · exact ⟨t3, za.2⟩
        · rcases List.mem_append.mp hz' with hz' | hz'
          · have z1 := N z (hkeep z hz')
            exact ⟨keepH _ _ (hke z hz') (hka z hz') z1.2.1 (hkf z hz') z1.1, z1.2⟩
          · obtain ⟨y, hy, e0⟩ := su'.fwd z hz'
            have z1 := N y (hsub y hy)
            exact ⟨hz z (List.mem_cons_of_mem _ hz'), by rw [e0]; exact z1.2⟩
end
end Mine
end TKu

section TC8
open PySem PySem.W PySem.Calls PyProof.Rows
namespace Mine
local macro_rules | `(tactic| walk_at "mine enterH") => `(tactic| (refine wpAny_call ?_; k_dflt (refine' enterH ?st ?X ?T ?hN ?k6 ?k7 ?k8 ?k9 ?kB ?_ ?c2 ?c3 ?c4 ?c5; (case st => assumption); (case X => k_asm); (case T => k_asm); (case hN => assumption); (case k6 => k_is); (case k7 => k_is); (case k8 => ktr_room); (case k9 => exact BindsTo.of_eq rfl); (case c5 => decide); (case kB => exact locs rfl); (case c2 => exact rfl); (case c3 => exact rfl); (case c4 => exact rfl); k_whole); intro g' L' h' hg' hbg' F' N' X' T'; (try dsimp only); (try k_fold)))
section
variable {prog : Program} {w : World} {A : Around} {E : Value → Shared → Prop} {s : Shared} {h₀ : Heap} {L : Addr} {m : Str → Option Value} {news : List (Addr × Obj)} {Q : Value → Shared → Prop}
theorem add_K2 {l b : Addr} {vs ws : List Value} (F : Fr h₀ L s.heap m) (N : News h₀ L s.heap news) (hl : s.heap.IsList l vs.toArray) (hb : s.heap.IsList b ws.toArray) (hsz : vs.length + ws.length ≤ 1000)
    (h : ∀ D h', Fr h₀ L h' m → News h₀ L h' ((D, listOf (vs ++ ws).toArray 0) :: news) → (∀ p ∈ news, p.1 < D) → Q (.ref D) { s with heap := h' }) :
    wpAny (model prog w) A (binaryOp .Add (.ref l) (.ref b)) Q E s :=
  add_arrays F N hl hb (fun h' F' N' => h _ h' F' N' fun p hp => Heap.lt_size (N p hp).1) (by rw [List.size_toArray, List.size_toArray, PySem.sizeLine_eq]; omega)
end
theorem not_fos {h : Heap} {l : List Env} {fos : List (Addr × Obj)} {a : Addr} {o : Obj} {its : Array Value} {n : Nat} (Fs : TI.Frs l fos) (Z : ∀ q ∈ fos, h.get? q.1 = some q.2) (e : h.get? a = some o) (hd : o.data = .seq its n) : a ∉ fos.map (·.1) := fun hm => by
  obtain ⟨q, hq, rfl⟩ := List.mem_map.mp hm
  obtain ⟨es, ep, hd'⟩ := frs_dict Fs q hq
  rw [Z q hq] at e
  rw [Option.some.inj e, hd] at hd'
  cases hd'
abbrev tupObj (vs : List Value) : Obj := { cls := .type "tuple", data := .seq vs.toArray }
/-- what a step hands back -/
abbrev StepRet (s : Shared) (Q : Value → Shared → Prop) (total number : Int) (vs : List Value) (fos : List (Addr × Obj)) : Prop :=
  ∀ (tp rl' ro lk mo : Addr) (ms rs : List Value) (n1 n2 : Nat) (h' : Heap) (tk' : Nat) (fos' : List (Addr × Obj)) (t3 t4 t5 : Tok),
    IntsAre ms (uld (apG total [] ++ apG number []) (apG (total + number) [])).1 → IntsAre rs (uld (apG total [] ++ apG number []) (apG (total + number) [])).2 →
    (∀ b o, b ∉ fos.map (·.1) → s.heap.get? b = some o → h'.get? b = some o) → TI.SameUp fos fos' → (∀ q ∈ fos', h'.get? q.1 = some q.2) →
    h'.get? tp = some (tupObj [Value.int (total + number) t3, Value.ref rl']) → h'.get? rl' = some (listOf (vs ++ [Value.ref ro]).toArray 0) → h'.get? ro = some (tupObj [Value.int total t4, Value.int number t5, Value.ref lk, Value.ref mo]) →
    h'.get? lk = some (listOf ms.toArray n1) → h'.get? mo = some (listOf rs.toArray n2) → (s.heap.get? tp = none ∧ s.heap.get? rl' = none ∧ s.heap.get? ro = none ∧ s.heap.get? lk = none ∧ s.heap.get? mo = none) →
    Q (.ref tp) { s with heap := h', toks := tk' }

local macro_rules | `(tactic| walk_at "subscriptTail") => `(tactic| (k_here; (with_reducible show wpAny _ _ (subscriptTail _ _ (Value.ref _) (Value.int _ _)) _ _ _); k_dflt (refine' item_tupleT ?t ?a ?b ?c ?d ?_; (case t => exact IsTup.keeps (by assumption) (Fr.keep (by k_asm))); (case a => decide); (case b => decide); (case c => rfl); (case d => rfl); k_whole)))
local macro_rules | `(tactic| walk_at "call ref") => `(tactic| (k_here; (with_reducible show wpAny _ _ (call (Value.ref 21) [Value.int _ _]) _ _ _); k_dflt (refine' K_ap ?kH ?k2 ?k8 ?kd ?kp ?kq ?_; (case kH => exact Sd.useM (by assumption) (by k_asm) (by k_asm) (by k_asm) (by k_asm) (by intro q hq; kst_mem) rfl rfl); (case k2 => k_asm); (case k8 => k_asm); (case kd => ktr_room); (case kp => first | assumption | omega); (case kq => first | assumption | omega); k_whole); intro b9 t9 h9 tk9 hB' hB3' F' N'; (try dsimp only); (try k_sweep)))
local macro_rules | `(tactic| walk_at "call type:list") => `(tactic| (k_here; (with_reducible show wpAny _ _ (call (Value.type _) [Value.bytes _ _]) _ _ _); k_dflt (refine' list_bytesK ?hh ?F ?N _ _ ?hx ?hn ?_; (case hh => rfl); (case F => k_asm); (case N => k_asm); (case hx => assumption); (case hn => exact Nat.le_trans (by assumption) (by decide)); k_whole); intro D' h' tk' vs' c' F' N' l1 hI'; (try k_lt l1); (try dsimp only); (try k_sweep)))
theorem len_app {xs ys : List Int} (h1 : xs.length ≤ 3) (h2 : ys.length ≤ 3) : (xs ++ ys).length ≤ 100 := by simp only [List.length_append]; omega
theorem len_100 {xs : List Int} (h1 : xs.length ≤ 3) : xs.length ≤ 100 := by omega
local macro_rules | `(tactic| walk_at "call ref") => `(tactic| (k_here; (with_reducible show wpAny _ _ (call (Value.ref 28) [Value.ref _, Value.ref _]) _ _ _); k_dflt (refine' K_uld (keep := []) ?Fs ?X ?T ?F ?N ?hf ?hk ?hsub ?hdp ?he ?ha ?hea ?hie ?hia ?hxs ?hys (fun _ h => nomatch h) (fun _ h => nomatch h) (fun _ h => nomatch h) (fun _ h => nomatch h) ?_; (case Fs => assumption); (case X => k_asm); (case T => k_asm); (case F => k_asm); (case N => k_asm); (case hf => rfl); (case hk => rfl); (case hsub => (intro q hq; kst_mem)); (case hdp => ktr_room); (case he => k_mem); (case ha => k_mem); (case hea => k_ne); (case hie => assumption); (case hia => assumption); (case hxs => exact len_app (by assumption) (by assumption)); (case hys => exact len_100 (by assumption)); k_whole); intro tp' mi' ms' rs' n3' n4' h' tk' fos' hM' hR' sU' Fs' F' N' kp' f1' f2' tm'; (try simp only [List.nil_append] at N'); (try dsimp only); (try k_sweep)))
section
variable {prog : Program} {w : World} {A : Around} {E : Value → Shared → Prop} {s : Shared} {h₀ : Heap} {L : Addr} {m : Str → Option Value} {news : List (Addr × Obj)} {Q : Value → Shared → Prop}
theorem add_one {l b r : Addr} {vs : List Value} {k : Nat} (F : Fr h₀ L s.heap m) (N : News h₀ L s.heap news) (hl : h₀.IsList l vs.toArray) (hb : (b, listOf [Value.ref r].toArray k) ∈ news) (hsz : vs.length ≤ 50)
    (h : ∀ D h', Fr h₀ L h' m → News h₀ L h' ((D, listOf (vs ++ [Value.ref r]).toArray 0) :: news) → (∀ p ∈ news, p.1 < D) → Q (.ref D) { s with heap := h' }) :
    wpAny (model prog w) A (binaryOp .Add (.ref l) (.ref b)) Q E s :=
  add_K2 F N (stays_list F.keep hl) (PySem.IsL.isList (n := k) (N _ hb).1) (by simp only [List.length_cons, List.length_nil]; omega) h
end
local macro_rules | `(tactic| walk_at "binaryOp Add ref ref") => `(tactic| (k_here; k_dflt (refine' add_one ?F ?N ?l ?b ?z ?_; (case F => k_asm); (case N => k_asm); (case l => assumption); (case b => k_mem); (case z => assumption); k_whole); intro D' h' F' N' l1; (try k_lt l1); (try dsimp only); (try k_sweep)))
theorem fresh_of {s : Shared} {g h' : Heap} {L b : Addr} {o : Obj} {its : Array Value} {n : Nat} {frs : List Env} {fos fos' news : List (Addr × Obj)} (hg : ∀ b o, b ∉ fos.map (·.1) → s.heap.get? b = some o → g.get? b = some o) (N : News g L h' news) (hm : (b, o) ∈ news) (hd : o.data = .seq its n)
    (su : TI.SameUp fos fos') (Fs' : TI.Frs frs fos') (hz : ∀ q ∈ fos', h'.get? q.1 = some q.2) : s.heap.get? b = none := by
  cases q : s.heap.get? b with
  | none => rfl
  | some o' =>
    have z := N _ hm
    have hn : b ∉ fos.map (·.1) := fun hb => by
      obtain ⟨y, hy, rfl⟩ := List.mem_map.mp hb
      obtain ⟨sl, hs⟩ := su.back y hy
      exact not_fos Fs' hz z.1 hd (List.mem_map.mpr ⟨_, hs, rfl⟩)
    have := hg b o' hn q
    rw [z.2.2] at this; cases this
theorem step_end {s : Shared} {Q : Value → Shared → Prop} {g h' : Heap} {L D D1 D2 D3 mi : Addr} {m : Str → Option Value} {total number : Int} {vs ms rs : List Value} {n3 n4 tk' : Nat} {t3 t4 t5 : Tok} {x y : Addr × Obj} {frs : List Env} {fos fos' : List (Addr × Obj)}
    (hret : StepRet s Q total number vs fos) (hg : ∀ b o, b ∉ fos.map (·.1) → s.heap.get? b = some o → g.get? b = some o) (F : Fr g L h' m)
    (N : News g L h' ((D, tupObj [Value.int (total + number) t3, Value.ref D1]) :: (D1, listOf (vs ++ [Value.ref D2]).toArray 0) :: x :: (D2, tupObj [Value.int total t4, Value.int number t5, Value.ref mi, Value.ref D3]) :: y :: (mi, listOf ms.toArray n3) :: (D3, listOf rs.toArray n4) :: fos'))
    (hM : IntsAre ms (uld (apG total [] ++ apG number []) (apG (total + number) [])).1) (hR : IntsAre rs (uld (apG total [] ++ apG number []) (apG (total + number) [])).2) (su : TI.SameUp fos fos') (Fs' : TI.Frs frs fos') : Q (.ref D) { s with heap := h', toks := tk' } := by
  have hz : ∀ q ∈ fos', h'.get? q.1 = some q.2 := fun q hq => (N q (by simp [hq])).1
  have m0 : ∀ z, z = (D, tupObj [Value.int (total + number) t3, Value.ref D1]) ∨ z = (D1, listOf (vs ++ [Value.ref D2]).toArray 0) ∨ z = (D2, tupObj [Value.int total t4, Value.int number t5, Value.ref mi, Value.ref D3]) ∨ z = (mi, listOf ms.toArray n3) ∨ z = (D3, listOf rs.toArray n4) →
      z ∈ ((D, tupObj [Value.int (total + number) t3, Value.ref D1]) :: (D1, listOf (vs ++ [Value.ref D2]).toArray 0) :: x :: (D2, tupObj [Value.int total t4, Value.int number t5, Value.ref mi, Value.ref D3]) :: y :: (mi, listOf ms.toArray n3) :: (D3, listOf rs.toArray n4) :: fos') := fun z hz' => by
    rcases hz' with rfl | rfl | rfl | rfl | rfl
    · exact .head _
    · exact .tail _ (.head _)
    · exact .tail _ (.tail _ (.tail _ (.head _)))
    · exact .tail _ (.tail _ (.tail _ (.tail _ (.tail _ (.head _)))))
    · exact .tail _ (.tail _ (.tail _ (.tail _ (.tail _ (.tail _ (.head _))))))
  have a1 := m0 _ (.inl rfl)
  have a2 := m0 _ (.inr (.inl rfl))
  have a3 := m0 _ (.inr (.inr (.inl rfl)))
  have a4 := m0 _ (.inr (.inr (.inr (.inl rfl))))
  have a5 := m0 _ (.inr (.inr (.inr (.inr rfl))))
  exact hret D D1 D2 mi D3 ms rs n3 n4 h' tk' fos' t3 t4 t5 hM hR (fun b o hb e => F.keep b o (hg b o hb e)) su hz (N _ a1).1 (N _ a2).1 (N _ a3).1 (N _ a4).1 (N _ a5).1
    ⟨fresh_of hg N a1 rfl su Fs' hz, fresh_of hg N a2 rfl su Fs' hz, fresh_of hg N a3 rfl su Fs' hz, fresh_of hg N a4 rfl su Fs' hz, fresh_of hg N a5 rfl su Fs' hz⟩
set_option maxRecDepth 100000 in
set_option maxHeartbeats 8000000 in
theorem C_step {w : World} {dp un : Nat} {gd : Option (List Code)} {frs : List Env} {s : Shared} {Q E : Value → Shared → Prop} (hdp : dp + 2 < recursionLimit)
    {hb : Heap} {p : Program} {loose : List Str} {mean : ExcName → Option Value} {mg mb : Str → Option Value} {fos : List (Addr × Obj)} (st : hb.StaysIn s.heap) (X : (hd.heap_39 w.params).In hb) (T : Top p loose mean mg mb hb)
    (Fs : TI.Frs frs fos) (Z : ∀ q ∈ fos, s.heap.get? q.1 = some q.2 ∧ hb.get? q.1 = none)
    {sa rl : Addr} {total number : Int} {t1 t2 : Tok} {vs : List Value} {k2 : Nat} (hsa : s.heap.get? sa = some (tupObj [.int total t1, .ref rl])) (hrl : s.heap.get? rl = some (listOf vs.toArray k2)) (hv : vs.length ≤ 50)
    (h0 : 0 ≤ total) (h1 : 0 ≤ number) (h2 : total + number < 4096) (hret : StepRet s Q total number vs fos) :
    wpAny (model PySem.Challenge.rw_oc0020_01.prog w) (Ar dp un gd frs) (call (.ref 44) [.ref sa, .int number t2]) Q E s := by
  revert X
  k_fill
  intro X
  have h3 : total < 4096 := by omega
  have h4 : number < 4096 := by omega
  have h5 : 0 ≤ total + number := by omega
  have n1 := not_fos Fs (fun q hq => (Z q hq).1) hsa rfl
  have n2 := not_fos Fs (fun q hq => (Z q hq).1) hrl rfl
  walk_at "mine enterH"
  rename_i hg' _ F' N' X' T'
  have g1 : IsTup _ sa [.int total t1, .ref rl].toArray := ⟨_, hg' _ _ n1 hsa, rfl, _, rfl⟩
  have g2 : Heap.IsList _ rl vs.toArray := ⟨_, hg' _ _ n2 hrl, rfl, _, rfl⟩
  k_with_none
  w_top off
  k_steps
  exact step_end (s := s) (Q := Q) hret hg' (by assumption) (by assumption) (by assumption) (by assumption) (by assumption) (by assumption)
end Mine
end TC8

section TRd
open PySem PySem.W PySem.Calls PyProof.Rows
set_option maxRecDepth 100000
namespace Mine
section
variable {prog : Program} {w : World} {A : Around} {E : Value → Shared → Prop} {s : Shared} {h₀ : Heap} {L : Addr} {m : Str → Option Value} {news : List (Addr × Obj)} {env : Env}
abbrev itObj (sq : Addr) (i : Nat) : Obj := { cls := .type "list_iterator", data := .fields #[.ref sq, .int i 0] }

theorem iter_list {Q : Value → Shared → Prop} {sq : Addr} {its : Array Value} (F : Fr h₀ L s.heap m) (N : News h₀ L s.heap news) (hl : s.heap.IsList sq its)
    (h : ∀ D h', Fr h₀ L h' m → News h₀ L h' ((D, itObj sq 0) :: news) → (∀ p ∈ news, p.1 < D) → Q (.ref D) { s with heap := h' }) :
    wpAny (model prog w) A (call (.builtin "iter") [.ref sq]) Q E s := by
  refine call_function_entry (by decide +kernel) (by decide +kernel) kdk_entry_iter (kdk_args_iter _) ?_
  unfold Builtin.«iter»
  refine wpAny_bind (m := someArgs "iter" 1 2 _) (wpAny_of_eq (a := [Value.ref sq]) (by first | rfl | kernel_rfl!) ?_)
  dsimp only
  refine wpAny_bind (wpAny_pyIter_list hl ?_)
  refine wpAny_pure ⟨_, rfl, ?_⟩
  exact h _ _ (F.push _) (N.push F _) fun p hp => Heap.lt_size (N p hp).1

def Hold (P : Prop) : Prop := P
abbrev ItAt (sq : Addr) (i : Nat) (o : Obj) : Prop := o.cls = .type "list_iterator" ∧ o.data = .fields #[.ref sq, .int i 0]
def ForPost (h₀ : Heap) (L : Addr) (s : Shared) (I : Addr) (oI : Obj) (J : (Str → Option Value) → List (Addr × Obj) → Prop) (f : Flow) (s₂ : Shared) : Prop :=
  f = .next ∧ ∃ h' tk' m₂ news₂, s₂ = { s with heap := h', toks := tk' } ∧ Fr h₀ L h' m₂ ∧ News h₀ L h' ((I, oI) :: news₂) ∧ (∀ p ∈ news₂, p.1 ≠ I) ∧ J m₂ news₂
/-- a for over a list's iterator that stands in the ledger -/
theorem For_it {x : Str} {px pos : Pos} {ie : Expr} {body : List Stmt} {Q : Flow → Shared → Prop} {I sq : Addr} {its : Array Value} {m₀ : Str → Option Value} {oI₀ : Obj} (J : Nat → (Str → Option Value) → List (Addr × Obj) → Prop)
    (hh : A.handled = none) (hx : env.kindOf x = some .local) (hp : (env.scope.kind == .class || (env.scope.kind == .module && env.locals != env.globals)) = false)
    (F : Fr h₀ env.locals s.heap m₀) (N : News h₀ env.locals s.heap ((I, oI₀) :: news)) (hI : ItAt sq 0 oI₀) (off : ∀ p ∈ news, p.1 ≠ I) (hl : h₀.IsList sq its) (hj : J 0 m₀ news)
    (he : wpAny (model prog w) A (eval ie env) (fun v s' => v = .ref I ∧ s = s') E s)
    (turn : Hold (∀ i v m₁ news₁ h tk oI (E' : Value → Shared → Prop), its[i]? = some v → J i m₁ news₁ → Fr h₀ env.locals h (fun y => if y = x then some v else m₁ y) → News h₀ env.locals h ((I, oI) :: news₁) → (∀ p ∈ news₁, p.1 ≠ I) → ItAt sq (i + 1) oI →
      wpAny (model prog w) A (execs body env) (ForPost h₀ env.locals s I oI (J (i + 1))) E' { s with heap := h, toks := tk }))
    (done : Hold (∀ m₁ news₁ h tk, J its.size m₁ news₁ → Fr h₀ env.locals h m₁ → News h₀ env.locals h news₁ → Q .next { s with heap := h, toks := tk }))
    (hs : ∀ x, foldedSetIterable ie env x = pure x := by intro _; rfl) :
    wpAny (model prog w) A (exec (.For (.Name x px) ie body [] pos) env) Q E s := by
  unfold Hold at turn done
  refine wpAny_For (wpAny_mono he (fun v s' hv => ?_) fun _ _ e => e) hs
  obtain ⟨rfl, rfl⟩ := hv
  have zI := N _ List.mem_cons_self
  refine wpAny_pyIter_listiter (i := 0) (l := sq) ⟨_, zI.1, hI.1, hI.2⟩ ?_
  refine codeAny_forLoop
    (fun n s' => ∃ h' tk m₁ news₁ i oI, s' = { s with heap := h', toks := tk } ∧ Fr h₀ env.locals h' m₁ ∧ News h₀ env.locals h' ((I, oI) :: news₁) ∧ ItAt sq i oI ∧ (∀ p ∈ news₁, p.1 ≠ I) ∧ J i m₁ news₁ ∧ i ≤ its.size ∧ n = its.size + 1 - i) ?_ (its.size + 1)
    ⟨s.heap, s.toks, m₀, news, 0, oI₀, rfl, F, N, hI, off, hj, Nat.zero_le _, rfl⟩
  rintro n s' ⟨H, tk, m₁, news₁, i, oI, rfl, F₁, N₁, hI₁, off₁, hj₁, hi, rfl⟩
  have z1 := N₁ _ List.mem_cons_self
  have hl₁ : H.IsList sq its := stays_list F₁.keep hl
  cases hv : its[i]? with
  | none =>
    refine wpAny_pyNext_list_end (i := i) hh ⟨_, z1.1, hI₁.1, hI₁.2⟩ hl₁ hv fun h₁ he₁ => ?_
    have hsz : i = its.size := by
      have : its.size ≤ i := by simpa using hv
      omega
    subst hsz
    have F₂ : Fr h₀ env.locals h₁ m₁ := ⟨F₁.ns.extBut he₁ (Ne.symm z1.2.1), fun b o e => he₁ b o (fun q => by rw [q, z1.2.2] at e; cases e) (F₁.keep b o e), F₁.above⟩
    have N₂ : News h₀ env.locals h₁ news₁ := fun p hp => ⟨he₁ _ _ (off₁ p hp) (N₁ p (List.mem_cons_of_mem _ hp)).1, (N₁ p (List.mem_cons_of_mem _ hp)).2⟩
    exact wpAny_pure (done m₁ news₁ h₁ tk hj₁ F₂ N₂)
  | some v =>
    have hlt : i < its.size := (Array.getElem?_eq_some_iff.mp hv).1
    refine wpAny_pyNext_list_item (i := i) ⟨_, z1.1, hI₁.1, hI₁.2⟩ hl₁ hv fun h₁ hit₁ hs₁ => ?_
    have F₂ : Fr h₀ env.locals h₁ m₁ := F₁.change hs₁ z1.2.1 z1.2.2
    obtain ⟨oI', eI, cI, dI⟩ := hit₁
    have N₂ : News h₀ env.locals h₁ ((I, oI') :: news₁) := fun p hp => by
      rcases List.mem_cons.mp hp with rfl | hp
      · exact ⟨eI, z1.2⟩
      · exact ⟨hs₁.extBut _ _ (off₁ p hp) (N₁ p (List.mem_cons_of_mem _ hp)).1, (N₁ p (List.mem_cons_of_mem _ hp)).2⟩
    refine wpAny_assign_Name (wpAny_storeName_local hx F₂.ns (fun h₂ hn₂ hs₂ => ?_) hp)
    refine wpAny_mono (turn i v m₁ news₁ h₂ _ oI' _ hv hj₁ (F₂.set hn₂ hs₂) (N₂.set hs₂) off₁ ⟨cI, dI⟩) (fun f s₃ h₃ => ?_) fun _ _ e => e
    obtain ⟨rfl, h', tk', m₂, news₂, rfl, F₃, N₃, off₃, hj₃⟩ := h₃
    exact ⟨its.size + 1 - (i + 1), by omega, h', tk', m₂, news₂, i + 1, oI', rfl, F₃, N₃, ⟨cI, dI⟩, off₃, hj₃, hlt, rfl⟩
end
end Mine
end TRd

section TC9a
open PySem PySem.W PySem.Calls PyProof.Rows
namespace Mine
theorem not_fos2 {h : Heap} {l : List Env} {fos : List (Addr × Obj)} {a : Addr} {o : Obj} (Fs : TI.Frs l fos) (Z : ∀ q ∈ fos, h.get? q.1 = some q.2) (e : h.get? a = some o) (hd : ∀ es ep, o.data ≠ .dict es ep) : a ∉ fos.map (·.1) := fun hm => by
  obtain ⟨q, hq, rfl⟩ := List.mem_map.mp hm
  obtain ⟨es, ep, hd'⟩ := frs_dict Fs q hq
  rw [Z q hq] at e
  rw [Option.some.inj e] at hd'
  exact hd es ep hd'

abbrev uldL (a b : Int) : List Int := (uld (apG a [] ++ apG b []) (apG (a + b) [])).1
abbrev uldM (a b : Int) : List Int := (uld (apG a [] ++ apG b []) (apG (a + b) [])).2
/-- a row of the account, in a ledger -/
def RowIn (led : List (Addr × Obj)) (v : Value) (ab : Int × Int) : Prop :=
  ∃ (ro lk mo : Addr) (ms rs : List Value) (n1 n2 : Nat) (t4 t5 : Tok), v = .ref ro ∧ (ro, tupObj [Value.int ab.1 t4, Value.int ab.2 t5, Value.ref lk, Value.ref mo]) ∈ led ∧ (lk, listOf ms.toArray n1) ∈ led ∧ (mo, listOf rs.toArray n2) ∈ led ∧
    IntsAre ms (uldL ab.1 ab.2) ∧ IntsAre rs (uldM ab.1 ab.2)
theorem RowIn.mono {led led' : List (Addr × Obj)} {v : Value} {ab : Int × Int} (h : RowIn led v ab) (hs : ∀ p ∈ led, p ∈ led') : RowIn led' v ab := by
  obtain ⟨ro, lk, mo, ms, rs, n1, n2, t4, t5, e, a1, a2, a3, i1, i2⟩ := h
  exact ⟨ro, lk, mo, ms, rs, n1, n2, t4, t5, e, hs _ a1, hs _ a2, hs _ a3, i1, i2⟩
theorem paired_mono {α β : Type} {F G : α → β → Prop} (h : ∀ a b, F a b → G a b) : ∀ {l1 : List α} {l2 : List β}, Paired F l1 l2 → Paired G l1 l2
  | _, _, .nil => .nil
  | _, _, .cons h1 t => .cons (h _ _ h1) (paired_mono h t)
def stepsL (a : Int) : List Int → List (Int × Int)
  | [] => []
  | n :: r => (a, n) :: stepsL (a + n) r
theorem stepsL_snoc : ∀ (xs : List Int) (a n : Int), stepsL a (xs ++ [n]) = stepsL a xs ++ [(a + xs.sum, n)]
  | [], a, n => by simp [stepsL]
  | x :: r, a, n => by simp only [List.cons_append, stepsL, stepsL_snoc r (a + x) n, List.sum_cons]; rw [Int.add_assoc]

section
variable {w : World} {h₀ : Heap} {outer : List Env} {L : Addr} {m : Str → Option Value} {news : List (Addr × Obj)} {dp un : Nat} {gd : Option (List Code)} {s : Shared} {Q E : Value → Shared → Prop} {env : Env}
  {p : Program} {loose : List Str} {mean : ExcName → Option Value} {mg mb : Str → Option Value}
theorem K_step {fos keep : List (Addr × Obj)} (Fs : TI.Frs outer fos) (X : (hd.heap_39 w.params).In h₀) (T : Top p loose mean mg mb h₀) (F : Fr h₀ L s.heap m) (N : News h₀ L s.heap news) (hf : env.frame = some L) (hk : env.scope.kind = .function)
    (hsub : ∀ q ∈ fos, q ∈ news) (hdp : dp + 2 < recursionLimit)
    {sa rl : Addr} {total number : Int} {t1 t2 : Tok} {vs : List Value} {k2 : Nat} (hsa : s.heap.get? sa = some (tupObj [.int total t1, .ref rl])) (hrl : s.heap.get? rl = some (listOf vs.toArray k2)) (hv : vs.length ≤ 50)
    (h0 : 0 ≤ total) (h1 : 0 ≤ number) (h2 : total + number < 4096)
    (hkeep : ∀ q ∈ keep, q ∈ news) (hkd : ∀ q ∈ keep, ∀ es ep, q.2.data ≠ .dict es ep)
    (h : ∀ (tp rl' ro lk mo : Addr) (ms rs : List Value) (n1 n2 : Nat) (h' : Heap) (tk' : Nat) (fos' : List (Addr × Obj)) (t3 t4 t5 : Tok), IntsAre ms (uldL total number) → IntsAre rs (uldM total number) → TI.SameUp fos fos' → TI.Frs outer fos' → Fr h₀ L h' m →
      News h₀ L h' ((tp, tupObj [Value.int (total + number) t3, Value.ref rl']) :: (rl', listOf (vs ++ [Value.ref ro]).toArray 0) :: (ro, tupObj [Value.int total t4, Value.int number t5, Value.ref lk, Value.ref mo]) :: (lk, listOf ms.toArray n1) :: (mo, listOf rs.toArray n2) :: (keep ++ fos')) →
      (s.heap.get? tp = none ∧ s.heap.get? rl' = none ∧ s.heap.get? ro = none ∧ s.heap.get? lk = none ∧ s.heap.get? mo = none) → Q (.ref tp) { s with heap := h', toks := tk' }) :
    wpAny (model PySem.Challenge.rw_oc0020_01.prog w) (Ar dp un gd (env :: outer)) (call (.ref 44) [.ref sa, .int number t2]) Q E s := by
  obtain ⟨oL, les, lep, hL, hLd, hLr⟩ := F.ns
  have hL0 : h₀.get? L = none := Heap.get?_none_of_le F.above
  have Z : ∀ q ∈ (L, oL) :: fos, s.heap.get? q.1 = some q.2 ∧ h₀.get? q.1 = none := fun q hq => by
    rcases List.mem_cons.mp hq with rfl | hq
    · exact ⟨hL, hL0⟩
    · exact ⟨(N q (hsub q hq)).1, (N q (hsub q hq)).2.2⟩
  have FsL := frs_cons Fs hf hk (oL := oL) ⟨les, lep, hLd⟩
  refine C_step hdp F.keep X T FsL Z hsa hrl hv h0 h1 h2 ?_
  intro tp rl' ro lk mo ms rs n1 n2 h' tk' fos2 t3 t4 t5 i1 i2 kp su hz a1 a2 a3 a4 a5 fr
  cases fos2 with
  | nil => exact False.elim su
  | cons q fos' =>
    obtain ⟨q1, ⟨sl, q2⟩, su'⟩ := su
    have hL' : h'.get? L = some { oL with slots := sl } := by
      have := hz q List.mem_cons_self
      rw [q1, q2] at this; exact this
    have nofos : ∀ b o, h₀.get? b = some o → b ∉ ((L, oL) :: fos).map (·.1) := fun b o e0 hm => by
      obtain ⟨z, hz', rfl⟩ := List.mem_map.mp hm
      rw [(Z z hz').2] at e0; cases e0
    have F' : Fr h₀ L h' m := ⟨⟨_, les, lep, hL', hLd, hLr⟩, fun b o e0 => kp b o (nofos b o e0) (F.keep b o e0), F.above⟩
    have none0 : ∀ b, s.heap.get? b = none → b ≠ L ∧ h₀.get? b = none := fun b e0 => by
      refine ⟨fun z => ?_, ?_⟩
      · rw [z, hL] at e0; cases e0
      · cases q : h₀.get? b with
        | none => rfl
        | some o => have := F.keep _ _ q; rw [e0] at this; cases this
    refine h tp rl' ro lk mo ms rs n1 n2 h' tk' fos' t3 t4 t5 i1 i2 su' (Fs.up su') F' (fun z hz' => ?_) fr
    rcases List.mem_cons.mp hz' with rfl | hz'
    · exact ⟨a1, none0 _ fr.1⟩
    · rcases List.mem_cons.mp hz' with rfl | hz'
      · exact ⟨a2, none0 _ fr.2.1⟩
      · rcases List.mem_cons.mp hz' with rfl | hz'
        · exact ⟨a3, none0 _ fr.2.2.1⟩
        · rcases List.mem_cons.mp hz' with rfl | hz'
          · exact ⟨a4, none0 _ fr.2.2.2.1⟩
          · rcases List.mem_cons.mp hz' with rfl | hz'
            · exact ⟨a5, none0 _ fr.2.2.2.2⟩
            · rcases List.mem_append.mp hz' with hz' | hz'
              · have z1 := N z (hkeep z hz')
                exact ⟨kp _ _ (not_fos2 FsL (fun q hq => (Z q hq).1) z1.1 (hkd z hz')) z1.1, z1.2⟩
              · obtain ⟨y, hy, e0⟩ := su'.fwd z hz'
                have z1 := N y (hsub y hy)
                exact ⟨hz z (List.mem_cons_of_mem _ hz'), by rw [e0]; exact z1.2⟩
end
end Mine
end TC9a

section TC9
open PySem PySem.W PySem.Calls PyProof.Rows
namespace Mine
local macro_rules | `(tactic| walk_at "mine enterH") => `(tactic| (refine wpAny_call ?_; k_dflt (refine' enterH ?st ?X ?T ?hN ?k6 ?k7 ?k8 ?k9 ?kB ?_ ?c2 ?c3 ?c4 ?c5; (case st => assumption); (case X => k_asm); (case T => k_asm); (case hN => assumption); (case k6 => k_is); (case k7 => k_is); (case k8 => ktr_room); (case k9 => first | exact BindsTo.of_eq rfl | exact binds_K (Frag.In.keeps (by k_asm) (by assumption)) rfl (by k_is) rfl rfl rfl); (case c5 => decide); (case kB => exact locs rfl); (case c2 => exact rfl); (case c3 => exact rfl); (case c4 => exact rfl); k_whole); intro g' L' h' hg' hbg' F' N' X' T'; (try dsimp only); (try k_fold)))

theorem is_tup {M : Model} {A : Around} {E : Value → Shared → Prop} {s : Shared} {Q : Value → Shared → Prop} {x y : Addr} {ox oy : Obj} (hxy : @Ne Nat x y) (hx : s.heap.get? x = some ox) (hy : s.heap.get? y = some oy) (hnt : oy.cls ≠ .type "tuple")
    (h : Q (.bool false) s) : wpAny M A (compareOp .Is (.ref x) (.ref y)) Q E s := by
  show wpAny M A (do return .bool (← isSame (.ref x) (.ref y))) Q E s
  refine wpAny_bind ?_
  show wpAny M A (if (x == y) = true then pure true else _) _ E s
  rw [if_neg (by simpa using hxy)]
  refine wpAny_bind (wpAny_load hx (wpAny_bind (wpAny_load hy ?_)))
  split
  · rename_i _ h2 _ _; exact absurd h2 hnt
  · exact wpAny_pure (wpAny_pure h)
theorem if_name {x y : Str} {v : Value} {o : Option Value} {m : Str → Option Value} (h : x ≠ y) (e : m x = o) : (if x = y then some v else m x) = o := by rw [if_neg h]; exact e
local macro_rules | `(tactic| walk_at "eval Name") => `(tactic| (k_here; k_dflt (refine' ld ?F ?v ?_; (case F => k_asm); (case v => first | exact if_pos rfl | exact if_name (by decide) (by assumption) | assumption); k_whole)))
def ObjAt (g : Heap) (led : List (Addr × Obj)) (a : Addr) (o : Obj) : Prop := g.get? a = some o ∨ (a, o) ∈ led
theorem ObjAt.at {g h : Heap} {L a : Addr} {o : Obj} {m : Str → Option Value} {led news : List (Addr × Obj)} (x : ObjAt g led a o) (F : Fr g L h m) (N : News g L h news) (hs : ∀ p ∈ led, p ∈ news) : h.get? a = some o := by
  rcases x with e | e
  · exact F.keep _ _ e
  · exact (N _ (hs _ e)).1

def RedJ (g : Heap) (ia r0 : Addr) (a0 : Int) (nums : List Int) (frs : List Env) (fos : List (Addr × Obj)) (i : Nat) (m₁ : Str → Option Value) (news₁ : List (Addr × Obj)) : Prop :=
  ∃ (va rl : Addr) (rows : List Value) (led fos' : List (Addr × Obj)) (t : Tok) (k : Nat), m₁ (Str.ofString "function") = some (.ref 44) ∧ m₁ (Str.ofString "value") = some (.ref va) ∧ news₁ = led ++ fos' ∧ TI.SameUp fos fos' ∧ TI.Frs frs fos' ∧
    ObjAt g led va (tupObj [.int (a0 + (nums.take i).sum) t, .ref rl]) ∧ ObjAt g led rl (listOf rows.toArray k) ∧ Paired (RowIn led) rows (stepsL a0 (nums.take i)) ∧ rows.length = i ∧ (∀ q ∈ led, ∀ es ep, q.2.data ≠ .dict es ep) ∧
    ((va = ia ∧ rl = r0) ∨ ((g.get? va = none ∧ ∃ o, (va, o) ∈ led) ∧ (g.get? rl = none ∧ ∃ o, (rl, o) ∈ led)))

abbrev RedRet (s : Shared) (Q : Value → Shared → Prop) (ia r0 : Addr) (a0 : Int) (nums : List Int) (fos : List (Addr × Obj)) : Prop :=
  ∀ (tp rl : Addr) (rows : List Value) (led fos' : List (Addr × Obj)) (t : Tok) (k : Nat) (h' : Heap) (tk' : Nat),
    (∀ b o, b ∉ fos.map (·.1) → s.heap.get? b = some o → h'.get? b = some o) → TI.SameUp fos fos' → (∀ q ∈ fos', h'.get? q.1 = some q.2) → (∀ q ∈ led, h'.get? q.1 = some q.2 ∧ s.heap.get? q.1 = none) →
    h'.get? tp = some (tupObj [.int (a0 + nums.sum) t, .ref rl]) → h'.get? rl = some (listOf rows.toArray k) → Paired (RowIn led) rows (stepsL a0 nums) → rows.length = nums.length →
    (tp = ia ∨ s.heap.get? tp = none) → (rl = r0 ∨ s.heap.get? rl = none) → Q (.ref tp) { s with heap := h', toks := tk' }

theorem red_start {g : Heap} {ia r0 : Addr} {a0 : Int} {t1 : Tok} {k2 : Nat} {nums : List Int} {frs : List Env} {fos : List (Addr × Obj)} {m₁ : Str → Option Value} (Fs : TI.Frs frs fos) (g2 : g.get? ia = some (tupObj [.int a0 t1, .ref r0])) (g3 : g.get? r0 = some (listOf ([] : List Value).toArray k2))
    (h1 : m₁ (Str.ofString "function") = some (.ref 44)) (h2 : m₁ (Str.ofString "value") = some (.ref ia)) : RedJ g ia r0 a0 nums frs fos 0 m₁ fos :=
  ⟨ia, r0, [], [], fos, t1, k2, h1, h2, rfl, TI.SameUp.refl fos, Fs, .inl (by simpa using g2), .inl g3, .nil, rfl, (fun _ h => nomatch h), .inl ⟨rfl, rfl⟩⟩
theorem take_snoc {xs : List Int} {i : Nat} {n : Int} (h : xs[i]? = some n) : xs.take (i + 1) = xs.take i ++ [n] := by rw [List.take_add_one, h]; rfl
theorem red_turn {g h' : Heap} {L I ia r0 tp rl' ro lk mo : Addr} {a0 : Int} {nums : List Int} {frs : List Env} {fos fos' fos2 led : List (Addr × Obj)} {i : Nat} {s : Shared} {oI : Obj} {rows ms rs : List Value} {n1 n2 tk : Nat} {n : Int} {t3 t4 t5 : Tok} {m₂ : Str → Option Value}
    (hn : nums[i]? = some n) (su : TI.SameUp fos fos') (su2 : TI.SameUp fos' fos2) (Fs2 : TI.Frs frs fos2) (hrows : Paired (RowIn led) rows (stepsL a0 (nums.take i))) (hlen : rows.length = i) (hd : ∀ q ∈ led, ∀ es ep, q.2.data ≠ .dict es ep)
    (i1 : IntsAre ms (uldL (a0 + (nums.take i).sum) n)) (i2 : IntsAre rs (uldM (a0 + (nums.take i).sum) n)) (F : Fr g L h' m₂)
    (N : News g L h' ((tp, tupObj [Value.int (a0 + (nums.take i).sum + n) t3, Value.ref rl']) :: (rl', listOf (rows ++ [Value.ref ro]).toArray 0) :: (ro, tupObj [Value.int (a0 + (nums.take i).sum) t4, Value.int n t5, Value.ref lk, Value.ref mo]) :: (lk, listOf ms.toArray n1) :: (mo, listOf rs.toArray n2) :: (((I, oI) :: led) ++ fos2)))
    (hI : tp ≠ I ∧ rl' ≠ I ∧ ro ≠ I ∧ lk ≠ I ∧ mo ≠ I) (off : ∀ p ∈ led ++ fos', p.1 ≠ I)
    (h1 : m₂ (Str.ofString "function") = some (.ref 44)) (h2 : m₂ (Str.ofString "value") = some (.ref tp)) :
    ForPost g L s I oI (RedJ g ia r0 a0 nums frs fos (i + 1)) .next { s with heap := h', toks := tk } := by
  have e1 : a0 + (nums.take (i + 1)).sum = a0 + (nums.take i).sum + n := by rw [take_snoc hn, List.sum_append]; simp; omega
  refine ⟨rfl, h', tk, m₂, ((tp, tupObj [Value.int (a0 + (nums.take i).sum + n) t3, Value.ref rl']) :: (rl', listOf (rows ++ [Value.ref ro]).toArray 0) :: (ro, tupObj [Value.int (a0 + (nums.take i).sum) t4, Value.int n t5, Value.ref lk, Value.ref mo]) :: (lk, listOf ms.toArray n1) :: (mo, listOf rs.toArray n2) :: led) ++ fos2, rfl, F, fun p hp => N p ?_, fun p hp => ?_, ?_⟩
  · rcases List.mem_cons.mp hp with rfl | hp
    · simp
    · simp only [List.cons_append, List.mem_cons, List.mem_append] at hp ⊢
      rcases hp with h | h | h | h | h | h | h
      · exact .inl h
      · exact .inr (.inl h)
      · exact .inr (.inr (.inl h))
      · exact .inr (.inr (.inr (.inl h)))
      · exact .inr (.inr (.inr (.inr (.inl h))))
      · exact .inr (.inr (.inr (.inr (.inr (.inr (.inl h))))))
      · exact .inr (.inr (.inr (.inr (.inr (.inr (.inr h))))))
  · simp only [List.cons_append, List.mem_cons, List.mem_append] at hp
    rcases hp with rfl | rfl | rfl | rfl | rfl | h | h
    · exact hI.1
    · exact hI.2.1
    · exact hI.2.2.1
    · exact hI.2.2.2.1
    · exact hI.2.2.2.2
    · exact off p (List.mem_append_left _ h)
    · exact sameUp_addr su2 (fun q hq => off q (List.mem_append_right _ hq)) p h
  · refine ⟨tp, rl', rows ++ [Value.ref ro], _, fos2, t3, 0, h1, h2, rfl, su.trans su2, Fs2, .inr ?_, .inr (.tail _ (.head _)), ?_, by simp [hlen], ?_, .inr ⟨⟨(N _ (.head _)).2.2, _, .head _⟩, (N _ (.tail _ (.head _))).2.2, _, .tail _ (.head _)⟩⟩
    · rw [e1]; exact .head _
    · rw [take_snoc hn, stepsL_snoc]
      refine Paired.snoc (paired_mono (fun a b hab => hab.mono fun q hq => ?_) hrows) ⟨ro, lk, mo, ms, rs, n1, n2, t4, t5, rfl, ?_, ?_, ?_, i1, i2⟩
      · exact .tail _ (.tail _ (.head _))
      · exact .tail _ (.tail _ (.tail _ (.head _)))
      · exact .tail _ (.tail _ (.tail _ (.tail _ (.head _))))
      · exact .tail _ (.tail _ (.tail _ (.tail _ (.tail _ hq))))
    · intro q hq es ep
      simp only [List.mem_cons] at hq
      rcases hq with rfl | rfl | rfl | rfl | rfl | h
      · exact fun e => nomatch e
      · exact fun e => nomatch e
      · exact fun e => nomatch e
      · exact fun e => nomatch e
      · exact fun e => nomatch e
      · exact hd q h es ep
theorem ne_none {h : Heap} {a I : Addr} {o : Obj} (e : h.get? a = none) (z : h.get? I = some o) : a ≠ I := fun q => by rw [q, z] at e; cases e
theorem sum_bound : ∀ {xs : List Int}, (∀ n ∈ xs, 0 ≤ n ∧ n < 40) → 0 ≤ xs.sum ∧ xs.sum ≤ 40 * (xs.length : Int)
  | [], _ => by simp
  | x :: r, h => by
    have h1 := h x List.mem_cons_self
    have h2 := sum_bound fun n hn => h n (List.mem_cons_of_mem _ hn)
    simp only [List.sum_cons, List.length_cons]
    omega
theorem take_bound {xs : List Int} (h : ∀ n ∈ xs, 0 ≤ n ∧ n < 40) (hl : xs.length ≤ 7) (i : Nat) : 0 ≤ (xs.take i).sum ∧ (xs.take i).sum ≤ 280 := by
  have h1 := sum_bound (xs := xs.take i) fun n hn => h n (List.mem_of_mem_take hn)
  have h2 : (xs.take i).length ≤ 7 := by rw [List.length_take]; omega
  omega
theorem red_end {s : Shared} {Q : Value → Shared → Prop} {g h : Heap} {L va rl ia r0 : Addr} {a0 : Int} {nums : List Int} {frs : List Env} {fos fos' led : List (Addr × Obj)} {rows : List Value} {t : Tok} {k tk : Nat} {m : Str → Option Value}
    (hret : RedRet s Q ia r0 a0 nums fos) (hg : ∀ b o, b ∉ fos.map (·.1) → s.heap.get? b = some o → g.get? b = some o) (F : Fr g L h m) (N : News g L h (led ++ fos')) (su : TI.SameUp fos fos') (Fs' : TI.Frs frs fos')
    (oa : ObjAt g led va (tupObj [.int (a0 + (nums.take nums.length).sum) t, .ref rl])) (ol : ObjAt g led rl (listOf rows.toArray k)) (hrows : Paired (RowIn led) rows (stepsL a0 (nums.take nums.length))) (hlen : rows.length = nums.length) (hd : ∀ q ∈ led, ∀ es ep, q.2.data ≠ .dict es ep)
    (hor : (va = ia ∧ rl = r0) ∨ ((g.get? va = none ∧ ∃ o, (va, o) ∈ led) ∧ (g.get? rl = none ∧ ∃ o, (rl, o) ∈ led))) : Q (.ref va) { s with heap := h, toks := tk } := by
  rw [List.take_length] at oa hrows
  have hz : ∀ q ∈ fos', h.get? q.1 = some q.2 := fun q hq => (N q (List.mem_append_right _ hq)).1
  have fresh : ∀ a o, (a, o) ∈ led → s.heap.get? a = none := fun a o hm => by
    cases q : s.heap.get? a with
    | none => rfl
    | some o' =>
      have z := N _ (List.mem_append_left _ hm)
      have hn : a ∉ fos.map (·.1) := fun hb => by
        obtain ⟨y, hy, rfl⟩ := List.mem_map.mp hb
        obtain ⟨sl, hs⟩ := su.back y hy
        exact not_fos2 Fs' hz z.1 (hd _ hm) (List.mem_map.mpr ⟨_, hs, rfl⟩)
      have := hg a o' hn q
      rw [z.2.2] at this; cases this
  refine hret va rl rows led fos' t k h tk (fun b o hb e => F.keep b o (hg b o hb e)) su hz (fun q hq => ⟨(N q (List.mem_append_left _ hq)).1, fresh q.1 q.2 hq⟩) (oa.at F N fun q hq => List.mem_append_left _ hq) (ol.at F N fun q hq => List.mem_append_left _ hq) hrows hlen ?_ ?_
  · rcases hor with h1 | h1
    · exact .inl h1.1
    · obtain ⟨⟨_, o, ho⟩, _⟩ := h1
      exact .inr (fresh _ _ ho)
  · rcases hor with h1 | h1
    · exact .inl h1.2
    · obtain ⟨_, _, o, ho⟩ := h1
      exact .inr (fresh _ _ ho)
set_option maxRecDepth 100000 in
set_option maxHeartbeats 8000000 in
theorem C_red {w : World} {dp un : Nat} {gd : Option (List Code)} {frs : List Env} {s : Shared} {Q E : Value → Shared → Prop} (hdp : dp + 3 < recursionLimit)
    {hb : Heap} {p : Program} {loose : List Str} {mean : ExcName → Option Value} {mg mb : Str → Option Value} {fos : List (Addr × Obj)} (st : hb.StaysIn s.heap) (X : (hd.heap_39 w.params).In hb) (T : Top p loose mean mg mb hb)
    (Fs : TI.Frs frs fos) (Z : ∀ q ∈ fos, s.heap.get? q.1 = some q.2 ∧ hb.get? q.1 = none)
    {sq ia r0 : Addr} {a0 : Int} {t1 : Tok} {nvs : List Value} {nums : List Int} {k1 k2 : Nat} (hsq : s.heap.get? sq = some (listOf nvs.toArray k1)) (hnv : IntsAre nvs nums) (hia : s.heap.get? ia = some (tupObj [.int a0 t1, .ref r0])) (hr0 : s.heap.get? r0 = some (listOf ([] : List Value).toArray k2))
    (hi : @Ne Nat ia 29) (ha0 : 0 ≤ a0) (ha1 : a0 ≤ 500) (hn : ∀ n ∈ nums, 0 ≤ n ∧ n < 40) (hlen : nums.length ≤ 7) (hret : RedRet s Q ia r0 a0 nums fos) :
    wpAny (model PySem.Challenge.rw_oc0020_01.prog w) (Ar dp un gd frs) (call (.ref 37) [.ref 44, .ref sq, .ref ia]) Q E s := by
  revert X
  k_fill
  intro X
  have n1 := not_fos Fs (fun q hq => (Z q hq).1) hsq rfl
  have n2 := not_fos Fs (fun q hq => (Z q hq).1) hia rfl
  have n3 := not_fos Fs (fun q hq => (Z q hq).1) hr0 rfl
  walk_at "mine enterH"
  rename_i g' L' h' hg' hbg' F' N' X' T'
  have g1 : Heap.IsList _ sq nvs.toArray := ⟨_, hg' _ _ n1 hsq, rfl, _, rfl⟩
  have g2 := hg' _ _ n2 hia
  have g3 := hg' _ _ n3 hr0
  k_with_none
  w_top off
  k_with "call builtin:iter cons nil" => (k_dflt (refine' iter_list ?F ?N ?l ?_; (case F => k_asm); (case N => k_asm); (case l => exact stays_list (Fr.keep (by k_asm)) g1)); intro D' h' F' N' l1; (try dsimp only); (try k_sweep))
  k_with "compareOp Is ref ref" => (k_dflt (refine' is_tup hi ?a ?b ?c ?_; (case a => exact Fr.keep (by k_asm) _ _ g2); (case b => kto_obj); (case c => kto_not)))
  k_with "exec For Name Name cons nil" => ((rename Fr _ _ _ _ => fW); (rename News _ _ _ _ => nW); k_dflt (refine' For_it (RedJ g' ia r0 a0 nums frs fos) ?hh ?hx ?hp fW nW ⟨rfl, rfl⟩ ?off g1 ?hj ?he ?turn ?done; (case hh => rfl); (case hx => rfl); (case hp => rfl); (case off => exact fun p hp => Nat.ne_of_lt (l1 p hp)); (case hj => exact red_start Fs g2 g3 rfl rfl); (case he => exact ld fW rfl ⟨rfl, rfl⟩)); all_goals (clear fW nW))
  k_steps
  · unfold Hold
    intro i v m₁ news₁ h tk oI E' hv hJ F N off hIt
    obtain ⟨va, rl, rows, led, fos', t, k, hf, hvv, rfl, su, Fs', oa, ol, hrows, hlen', hdd, hor⟩ := hJ
    obtain ⟨n, tn, rfl, hni⟩ := IntsAre.at hnv i v (by simpa using hv)
    k_fold
    have hnb := hn n (List.mem_of_getElem? hni)
    have hsb := take_bound hn hlen i
    have hil : i < nums.length := (List.getElem?_eq_some_iff.mp hni).1
    k_with "call ref" => (k_dflt (refine' K_step (keep := (D', oI) :: led) Fs' X' T' F N rfl rfl (fun q hq => List.mem_cons_of_mem _ (List.mem_append_right _ hq)) ?hdp (oa.at F N fun q hq => List.mem_cons_of_mem _ (List.mem_append_left _ hq)) (ol.at F N fun q hq => List.mem_cons_of_mem _ (List.mem_append_left _ hq)) ?hv ?h0 ?h1 ?h2 ?hk ?hkd ?_; (case hdp => ktr_room); (case hv => omega); (case h0 => omega); (case h1 => omega); (case h2 => omega); (case hk => (intro q hq; rcases List.mem_cons.mp hq with rfl | hq; exact List.mem_cons_self; exact List.mem_cons_of_mem _ (List.mem_append_left _ hq))); (case hkd => (intro q hq es ep; rcases List.mem_cons.mp hq with rfl | hq; (show oI.data ≠ _); rw [hIt.2]; exact fun e => nomatch e; exact hdd q hq es ep))); intro tp rl' ro lk mo ms rs n1 n2 h' tk' fos2 t3 t4 t5 i1 i2 su2 Fs2 F2 N2 fr; (try dsimp only))
    k_steps
    have zI := (N _ List.mem_cons_self).1
    refine red_turn hni su su2 Fs2 hrows hlen' hdd i1 i2 (by assumption) (by assumption) ?_ off ?_ ?_
    · exact ⟨ne_none fr.1 zI, ne_none fr.2.1 zI, ne_none fr.2.2.1 zI, ne_none fr.2.2.2.1 zI, ne_none fr.2.2.2.2 zI⟩
    · exact (if_neg (by decide)).trans ((if_neg (by decide)).trans hf)
    · exact if_pos rfl
  · unfold Hold
    intro m₁ news₁ h tk hJ F N
    obtain ⟨va, rl, rows, led, fos', t, k, hf, hvv, rfl, su, Fs', oa, ol, hrows, hlen', hdd, hor⟩ := hJ
    dsimp only
    have hsz : nvs.toArray.size = nums.length := by rw [List.size_toArray]; exact hnv.length
    rw [hsz] at oa hrows hlen'
    k_steps
    exact red_end (s := s) (Q := Q) hret hg' F N su Fs' oa ol hrows hlen' hdd hor
end Mine
end TC9

section TSq
open PySem PySem.W PySem.Calls PyProof.Rows
namespace Mine
section
variable {prog : Program} {w : World} {A : Around} {E : Value → Shared → Prop} {s : Shared} {h₀ : Heap} {L l : Addr} {m : Str → Option Value} {news : List (Addr × Obj)} {Q : Value → Shared → Prop} {value slice : PySem.Expr} {vs : List Value} {ns : List Int} {n : Nat} {k : Int} {t1 u : Tok}
theorem sq_room (hi : IntsAre vs ns) (h : ns.length ≤ 100) : vs.toArray.size ≤ sizeLine := by rw [List.size_toArray, hi.length, PySem.sizeLine_eq]; omega
theorem sq_from (F : Fr h₀ L s.heap m) (N : News h₀ L s.heap news) (hm : (l, listOf vs.toArray n) ∈ news) (hi : IntsAre vs ns) (h0 : 0 ≤ k) (hsz : ns.length ≤ 100)
    (h : ∀ D ws h', Fr h₀ L h' m → News h₀ L h' ((D, listOf (List.toArray ws) 0) :: news) → (∀ p ∈ news, p.1 < D) → IntsAre ws (ns.drop k.toNat) → Q (.ref D) { s with heap := h' })
    (hs : subscripted slice false (.ref l) (.ref s.heap.objs.size) = operate [.ref s.heap.objs.size, .ref l] (getItem (.ref l) (.ref s.heap.objs.size)) := by with_unfolding_all rfl) (ht : ∀ r, letTemporaryGo value (.ref l) r = pure () := by intro _; with_unfolding_all rfl) :
    wpAny (model prog w) A (subscriptTail value slice (.ref l) (.ref s.heap.objs.size)) Q E { s with heap := s.heap.push { cls := .type "slice", data := .fields #[.int k t1, .none, .none] } } :=
  kmk_slice_ints (c := (ns.drop k.toNat).length) F N (PySem.IsL.isList (n := n) (N _ hm).1) (.int k t1) .none hi (kmk_from hi h0) rfl (fun D ws h' F' N' l1 i _ _ => h D ws h' F' N' l1 i) hs ht (sq_room hi hsz)
theorem sq_upto (F : Fr h₀ L s.heap m) (N : News h₀ L s.heap news) (hm : (l, listOf vs.toArray n) ∈ news) (hi : IntsAre vs ns) (h0 : 0 ≤ k) (hsz : ns.length ≤ 100)
    (h : ∀ D ws h', Fr h₀ L h' m → News h₀ L h' ((D, listOf (List.toArray ws) 0) :: news) → (∀ p ∈ news, p.1 < D) → IntsAre ws (ns.take k.toNat) → Q (.ref D) { s with heap := h' })
    (hs : subscripted slice false (.ref l) (.ref s.heap.objs.size) = operate [.ref s.heap.objs.size, .ref l] (getItem (.ref l) (.ref s.heap.objs.size)) := by with_unfolding_all rfl) (ht : ∀ r, letTemporaryGo value (.ref l) r = pure () := by intro _; with_unfolding_all rfl) :
    wpAny (model prog w) A (subscriptTail value slice (.ref l) (.ref s.heap.objs.size)) Q E { s with heap := s.heap.push { cls := .type "slice", data := .fields #[.none, .int k t1, .none] } } :=
  kmk_slice_ints (c := (ns.take k.toNat).length) F N (PySem.IsL.isList (n := n) (N _ hm).1) .none (.int k t1) hi (kmk_upto hi h0) rfl (fun D ws h' F' N' l1 i _ _ => h D ws h' F' N' l1 i) hs ht (sq_room hi hsz)
theorem ints_getD {j : Nat} (hi : IntsAre vs ns) (h : j < ns.length) : ∃ t, vs[j]? = some (.int (ns.getD j 0) t) := by
  have hl := hi.length
  have hj : j < vs.length := by omega
  obtain ⟨k, t, e, hk⟩ := IntsAre.at hi j vs[j] (by simp [hj])
  refine ⟨t, ?_⟩
  rw [List.getElem?_eq_getElem hj, e, List.getD_eq_getElem?_getD, hk]; rfl
theorem sq_at (hl : s.heap.IsList l vs.toArray) (hi : IntsAre vs ns) (h0 : 0 ≤ k) (h1 : k < (ns.length : Int)) (hsz : ns.length ≤ 100) (h : ∀ t, Q (.int (ns.getD k.toNat 0) t) s)
    (hs : subscripted slice false (.ref l) (.int k u) = operate [.ref l, .int k u] (getItem (.ref l) (.int k u)) := by with_unfolding_all rfl) :
    wpAny (model prog w) A (subscriptTail value slice (.ref l) (.int k u)) Q E s := by
  obtain ⟨t, e⟩ := ints_getD (j := k.toNat) hi (by omega)
  exact tail_any hl.typeIs slot_list_getitem.lookup (wpAny_getItem_list hl h0 (by omega) (by simpa using e) (h t)) hs
theorem sq_method {pl : Sem Bool} {Q : Value × List Value → Shared → Prop} (N : News h₀ L s.heap news) (hm : (l, listOf vs.toArray n) ∈ news) (h : Q (.builtin "list.count", [.ref l]) s) : wpAny (model prog w) A (getMethod (.ref l) (Str.ofString "count") pl) Q E s :=
  kf_method N hm PySem.F.slot_list_count PySem.F.type_list_count h
theorem succ_nn {k : Int} (h : 0 ≤ k) : 0 ≤ k + 1 := by omega
end
end Mine
end TSq

section TC10
open PySem PySem.W PySem.Calls PyProof.Rows
namespace Mine
local macro_rules | `(tactic| walk_at "mine enterC") => `(tactic| (refine wpAny_call ?_; k_dflt (refine' enterC ?X ?T ?k6 ?k7 ?k8 ?k9 ?kB ?kD ?_ ?c2 ?c3 ?c4; (case X => k_asm); (case T => k_asm); (case k6 => k_is); (case k7 => k_is); (case k8 => ktr_room); (case k9 => exact BindsTo.of_eq rfl); (case kB => exact rfl); (case kD => decide +kernel); (case c2 => exact rfl); (case c3 => exact rfl); (case c4 => exact rfl); k_whole); intro L' h' tk' cells' F' N' Y'; k_cells Y'; (try dsimp only); (try k_fold)))
section
variable {w : World} {h₀ : Heap} {frs : List Env} {L : Addr} {m : Str → Option Value} {news : List (Addr × Obj)} {dp un : Nat} {gd : Option (List Code)} {s : Shared} {Q E : Value → Shared → Prop}
theorem K_word (H : Sd w frs s.heap) (F : Fr h₀ L s.heap m) (N : News h₀ L s.heap news) (hdp : dp + 2 < recursionLimit) {n : Int} {t : Tok} (h0 : 0 ≤ n) (hn : n < 4096)
    (h : ∀ D vs k h' tk', Fr h₀ L h' m → News h₀ L h' ((D, listOf vs.toArray k) :: news) → LCg.Off1 D news → IntsAre vs (apG n []) → Q (.ref D) { s with heap := h', toks := tk' }) :
    wpAny (model PySem.Challenge.rw_oc0020_01.prog w) (Ar dp un gd frs) (call (.ref 49) [.int n t]) Q E s :=
  C_word H hdp h0 hn fun l vs k h' tk' i st e e0 => by
    obtain ⟨F', N', O'⟩ := news_new F N st e0 e
    exact h l vs k h' tk' F' N' O' i
end
local macro_rules | `(tactic| walk_at "call ref") => `(tactic| (k_here; (with_reducible show wpAny _ _ (call (Value.ref 49) [Value.int _ _]) _ _ _); k_dflt (refine' K_word ?kH ?k2 ?k8 ?kd ?kp ?kq ?_; (case kH => exact Sd.use (by assumption) (by k_asm) rfl rfl); (case k2 => k_asm); (case k8 => k_asm); (case kd => ktr_room); (case kp => assumption); (case kq => assumption); k_whole); intro D' vs' k' h' tk' F' N' o1' hI'; (try simp only [LCg.Off1, and_true] at o1'); (try dsimp only); (try k_sweep)))
def Hold2 (P : Prop) : Prop := P
abbrev Ks (a c : Int) (n : Nat) : List Int := (List.range n).map fun (i : Nat) => a + (i : Int) * c
section
open LCg LCt
variable {prog : Program} {w : World} {A : Around} {E : Value → Shared → Prop} {s : Shared} {h₀ : Heap} {L : Addr} {m : Str → Option Value} {env : Env}
theorem restR {ct elt : Expr} {x : Str} {scope : Scope} {cl : List (Str × Addr)} {S : List (Addr × Obj) → Prop} {Fin : List Value → List (Addr × Obj) → Prop} {news : List (Addr × Obj)} {n : Nat} {a c : Int} (len : Nat) (p : Int → Bool) (g : Int → Int) (hb : ∀ i : Nat, i < n → 0 ≤ a + (i : Int) * c ∧ a + (i : Int) * c < (len : Int))
    (turn : Hold2 (∀ k t I oI C oC D m₂ ys h tk (E' : Value → Shared → Prop), 0 ≤ k → k < (len : Int) → NsObj oC m₂ → m₂ x = some (.int k t) → Fr h₀ L h m → News h₀ L h ((I, oI) :: (C, oC) :: (D, lst ys) :: news) → Off3 I C D news → ((@Ne Nat I C) ∧ (@Ne Nat I D) ∧ (@Ne Nat C D)) →
      wpAny (model prog w) A (isTrue ct (compEnvC scope cl C env) (eval ct (compEnvC scope cl C env))) (fun ok s' => if ok = true then
        wpAny (model prog w) A (eval elt (compEnvC scope cl C env)) (CompEnd h₀ L m { s with heap := h, toks := tk } I oI C oC D (lst ys) S (fun y news' => p k = true ∧ KCfEl news (g k) y news')) E' s'
        else CompEnd h₀ L m { s with heap := h, toks := tk } I oI C oC D (lst ys) S (fun _ news' => p k = false ∧ news' = news) Value.none s') E' { s with heap := h, toks := tk }))
    (fin : Hold2 (∀ ys, IntsAre ys (((Ks a c n).filter p).map g) → Fin ys news)) : CompRestT prog w A h₀ L m env ct elt x scope cl s S (fun i v => ∃ t, v = .int (a + (i : Int) * c) t) Fin n 0 [] news := by
  unfold Hold2 at turn fin
  refine restT (ks := Ks a c n) p g (by simp) (fun i v hi hv => ?_) (fun k t I oI C oC D m₂ ys h tk E' hk => ?_) fin
  · obtain ⟨t, rfl⟩ := hv
    exact ⟨_, t, by simp [hi], rfl⟩
  · obtain ⟨i, hi, rfl⟩ := List.mem_map.mp hk
    have := hb i (List.mem_range.mp hi)
    exact turn _ t I oI C oC D m₂ ys h tk E' this.1 this.2
end
theorem down_b {n : Nat} : ∀ i : Nat, i < ((n : Int) - 1 - (-1)).toNat → 0 ≤ ((n : Int) - 1) + (i : Int) * (-1) ∧ ((n : Int) - 1) + (i : Int) * (-1) < (n : Int) := fun i hi => by omega
theorem down_sz {n : Nat} (h : n ≤ 100) : ((n : Int) - 1 - (-1)).toNat ≤ sizeLine := by rw [PySem.sizeLine_eq]; omega
theorem down_sm {n : Nat} (h : n ≤ 100) : Builtin.Range.small ((n : Int) - 1) (-1) (-1) = true := small_down (by omega) (by omega) (by omega) (by omega)
local macro_rules | `(tactic| walk_at "eval ListComp") => `(tactic| (k_here; (repeat (rename (@Ne Addr _ _ ∧ _) => oX9; clear oX9)); (repeat (rename (@Ne Addr _ _) => oX9; clear oX9)); k_dflt (refine ListComp_WT (by k_asm) (by with_unfolding_all rfl) (by decide) (by rfl) (by decide) (by rfl) ?_)))
theorem len_2 {xs ys : List Int} (h1 : xs.length ≤ 3) (h2 : ys.length ≤ 3) : (xs ++ ys).length ≤ 100 := by simp only [List.length_append]; omega
theorem len_1 {xs : List Int} (h1 : xs.length ≤ 3) : xs.length ≤ 100 := by omega
theorem idx_app {xs ys : List Int} {k : Int} (h : k < ((xs.length + ys.length : Nat) : Int)) : k < ((xs ++ ys).length : Int) := by rw [List.length_append]; exact h
local macro_rules | `(tactic| walk_at "subscriptTail Name Slice ref ref") => `(tactic| (k_here; (with_reducible show wpAny _ _ (subscriptTail _ (Expr.Slice (some _) none none _) (Value.ref _) (Value.ref _)) _ _ _); (rename Fr _ _ _ _ => fS9); (rename News _ _ _ _ => nS9); k_dflt (refine' sq_from (s := ⟨_, _, _, _, _⟩) fS9 nS9 ?m ?i ?h0 ?z ?_ ?hs ?ht; (case m => k_mem); (case i => assumption); (case h0 => exact succ_nn (by assumption)); (case z => first | exact len_2 (by assumption) (by assumption) | exact len_1 (by assumption)); (case hs => with_unfolding_all rfl); (case ht => (intro _; with_unfolding_all rfl))); intro D' ws' h' F' N' l1 hW'; clear l1; (try dsimp only); (try k_sweep)))
local macro_rules | `(tactic| walk_at "subscriptTail Name Slice ref ref") => `(tactic| (k_here; (with_reducible show wpAny _ _ (subscriptTail _ (Expr.Slice none (some _) none _) (Value.ref _) (Value.ref _)) _ _ _); (rename Fr _ _ _ _ => fS9); (rename News _ _ _ _ => nS9); k_dflt (refine' sq_upto (s := ⟨_, _, _, _, _⟩) fS9 nS9 ?m ?i ?h0 ?z ?_ ?hs ?ht; (case m => k_mem); (case i => assumption); (case h0 => assumption); (case z => first | exact len_2 (by assumption) (by assumption) | exact len_1 (by assumption)); (case hs => with_unfolding_all rfl); (case ht => (intro _; with_unfolding_all rfl))); intro D' ws' h' F' N' l1 hW'; clear l1; (try dsimp only); (try k_sweep)))
local macro_rules | `(tactic| walk_at "subscriptTail Name Name ref int") => `(tactic| (k_here; (with_reducible show wpAny _ _ (subscriptTail _ _ (Value.ref _) (Value.int _ _)) _ _ _); k_dflt (refine' sq_at (PySem.IsL.isList (News.get ?N ?m)) ?i ?h0 ?h1 ?z ?_; (case N => k_asm); (case m => k_mem); (case i => assumption); (case h0 => assumption); (case h1 => first | assumption | exact idx_app (by assumption)); (case z => first | exact len_2 (by assumption) (by assumption) | exact len_1 (by assumption))); intro t'))
local macro_rules | `(tactic| walk_at "getMethod ref") => `(tactic| (k_here; (with_reducible show wpAny _ _ (getMethod (Value.ref _) (PySem.Str.ofString "count") _) _ _ _); k_dflt (refine' sq_method ?N ?m ?_; (case N => k_asm); (case m => k_mem))))
local macro_rules | `(tactic| walk_at "call builtin:list.count") => `(tactic| (k_here; k_dflt (refine' count_list_ints (PySem.IsL.isList (News.get ?N ?m)) ?i ?_; (case N => k_asm); (case m => k_mem); (case i => assumption))))
def lackP (old new : List Int) (k : Int) : Bool := decide (new.count (old.getD k.toNat 0) ≤ (old.drop (k + 1).toNat).count (old.getD k.toNat 0))
def moreP (old new : List Int) (k : Int) : Bool := decide (old.count (new.getD k.toNat 0) ≤ (new.take k.toNat).count (new.getD k.toNat 0))
def lackL (old new : List Int) (n : Nat) : List Int := ((Ks ((n : Int) - 1) (-1) ((n : Int) - 1 - (-1)).toNat).filter (lackP old new)).map fun k => old.getD k.toNat 0
def moreL (old new : List Int) : List Int := ((Ks 0 1 ((new.length : Int) - 0).toNat).filter (moreP old new)).map fun k => new.getD k.toNat 0
theorem up_b {n : Nat} : ∀ i : Nat, i < ((n : Int) - 0).toNat → 0 ≤ (0 : Int) + (i : Int) * 1 ∧ (0 : Int) + (i : Int) * 1 < (n : Int) := fun i hi => by omega
theorem up_sz {n : Nat} (h : n ≤ 100) : ((n : Int) - 0).toNat ≤ sizeLine := by rw [PySem.sizeLine_eq]; omega
theorem up_sm {n : Nat} (h : n ≤ 100) : Builtin.Range.small 0 (n : Int) 1 = true := small_one (by omega) (by omega) (by omega) (by omega)
theorem lackP_t {old new : List Int} {k : Int} (h : ((new.count (old.getD k.toNat 0) : Nat) : Int) ≤ (((old.drop (k + 1).toNat).count (old.getD k.toNat 0) : Nat) : Int)) : lackP old new k = true := decide_eq_true (Int.ofNat_le.mp h)
theorem lackP_f {old new : List Int} {k : Int} (h : ¬ ((new.count (old.getD k.toNat 0) : Nat) : Int) ≤ (((old.drop (k + 1).toNat).count (old.getD k.toNat 0) : Nat) : Int)) : lackP old new k = false := decide_eq_false fun q => h (Int.ofNat_le.mpr q)
theorem moreP_t {old new : List Int} {k : Int} (h : ((old.count (new.getD k.toNat 0) : Nat) : Int) ≤ (((new.take k.toNat).count (new.getD k.toNat 0) : Nat) : Int)) : moreP old new k = true := decide_eq_true (Int.ofNat_le.mp h)
theorem moreP_f {old new : List Int} {k : Int} (h : ¬ ((old.count (new.getD k.toNat 0) : Nat) : Int) ≤ (((new.take k.toNat).count (new.getD k.toNat 0) : Nat) : Int)) : moreP old new k = false := decide_eq_false fun q => h (Int.ofNat_le.mpr q)
theorem units_ok {dp un : Nat} {gd : Option (List Code)} {frs : List Env} {env : Env} (h : un + 100 < cLine) : ((Ar dp un gd frs).deeper env).units + 64 < cLine := by show un + 3 + 64 < cLine; omega
section
variable {prog : Program} {w : World} {A : Around} {E : Value → Shared → Prop} {s : Shared} {Q : Value → Shared → Prop}
theorem ne_eqK {a b : Addr} {vs us : List Value} {ns ms : List Int} (hl : s.heap.IsList a vs.toArray) (hi : IntsAre vs ns) (hl' : s.heap.IsList b us.toArray) (hi' : IntsAre us ms) (hu : A.units + 64 < cLine) (e : ns = ms)
    (h : Q (.bool false) s) : wpAny (model prog w) A (compareOp .NotEq (.ref a) (.ref b)) Q E s := ne_intsK hl hi hl' hi' hu (by rw [decide_eq_true e]; exact h)
end
local macro_rules | `(tactic| walk_at "compareOp NotEq ref ref") => `(tactic| (k_here; k_dflt (refine' ne_eqK (stays_list (Fr.keep ?F) ?l) ?i (PySem.IsL.isList (News.get ?N ?m)) ?j ?u ?e ?_; (case F => k_asm); (case l => assumption); (case i => assumption); (case N => k_asm); (case m => k_mem); (case j => assumption); (case u => exact units_ok (by assumption)); (case e => assumption))))
section
variable {w : World} {h₀ : Heap} {frs : List Env} {L : Addr} {m : Str → Option Value} {news : List (Addr × Obj)} {dp un : Nat} {gd : Option (List Code)} {s : Shared} {Q E : Value → Shared → Prop}
theorem K_worth (H : Sd w frs s.heap) (F : Fr h₀ L s.heap m) (N : News h₀ L s.heap news) (hdp : dp + 2 < recursionLimit) {l : Addr} {vs : List Value} {ns : List Int} (hl : s.heap.IsList l vs.toArray) (hi : IntsAre vs ns) (hsz : ns.length ≤ 100)
    (h : ∀ t h' tk', Fr h₀ L h' m → News h₀ L h' news → Q (.int (worth ns) t) { s with heap := h', toks := tk' }) : wpAny (model PySem.Challenge.rw_oc0020_01.prog w) (Ar dp un gd frs) (call (.ref 73) [.ref l]) Q E s :=
  C_worth H hdp hl hi hsz fun t h' tk' k => h t h' tk' (F.keeps k) (N.grown k)
theorem K_ones (H : Sd w frs s.heap) (F : Fr h₀ L s.heap m) (N : News h₀ L s.heap news) (hdp : dp + 2 < recursionLimit) {l : Addr} {vs : List Value} {ns : List Int} (hl : s.heap.IsList l vs.toArray) (hi : IntsAre vs ns) (hsz : ns.length ≤ 100)
    (h : ∀ t h' tk', Fr h₀ L h' m → News h₀ L h' news → Q (.int (ones ns) t) { s with heap := h', toks := tk' }) : wpAny (model PySem.Challenge.rw_oc0020_01.prog w) (Ar dp un gd frs) (call (.ref 78) [.ref l]) Q E s :=
  C_ones H hdp hl hi hsz fun t h' tk' k => h t h' tk' (F.keeps k) (N.grown k)
theorem K_carr (H : Sd w frs s.heap) (F : Fr h₀ L s.heap m) (N : News h₀ L s.heap news) (hdp : dp + 1 < recursionLimit) {a b : Int} {t u : Tok} (ha : 0 ≤ a) (hb : 0 ≤ b)
    (h : ∀ t h' tk', Fr h₀ L h' m → News h₀ L h' news → Q (.int (carr a b) t) { s with heap := h', toks := tk' }) : wpAny (model PySem.Challenge.rw_oc0020_01.prog w) (Ar dp un gd frs) (call (.ref 56) [.int a t, .int b u]) Q E s :=
  C_carr H hdp ha hb fun t h' tk' k => h t h' tk' (F.keeps k) (N.grown k)
theorem K_twos (H : Sd w frs s.heap) (F : Fr h₀ L s.heap m) (N : News h₀ L s.heap news) (hdp : dp + 2 < recursionLimit) {a b : Int} {t u : Tok} (ha : 0 ≤ a) (hb : 0 ≤ b) (hb1 : b < 1000)
    (h : ∀ t h' tk', Fr h₀ L h' m → News h₀ L h' news → Q (.int (twos a b) t) { s with heap := h', toks := tk' }) : wpAny (model PySem.Challenge.rw_oc0020_01.prog w) (Ar dp un gd frs) (call (.ref 68) [.int a t, .int b u]) Q E s :=
  C_twos H hdp ha hb hb1 fun t h' tk' k => h t h' tk' (F.keeps k) (N.grown k)
end
local macro_rules | `(tactic| walk_at "call ref") => `(tactic| (k_here; k_dflt (first
  | (refine' K_worth ?kH ?k2 ?k8 ?kd (stays_list (Fr.keep ?F) ?l) ?i ?z ?_; (case kH => exact Sd.use (by assumption) (by k_asm) rfl rfl); (case k2 => k_asm); (case k8 => k_asm); (case kd => ktr_room); (case F => k_asm); (case l => assumption); (case i => assumption); (case z => assumption))
  | (refine' K_ones ?kH ?k2 ?k8 ?kd (stays_list (Fr.keep ?F) ?l) ?i ?z ?_; (case kH => exact Sd.use (by assumption) (by k_asm) rfl rfl); (case k2 => k_asm); (case k8 => k_asm); (case kd => ktr_room); (case F => k_asm); (case l => assumption); (case i => assumption); (case z => assumption))
  | (refine' K_carr ?kH ?k2 ?k8 ?kd ?a ?b ?_; (case kH => exact Sd.use (by assumption) (by k_asm) rfl rfl); (case k2 => k_asm); (case k8 => k_asm); (case kd => ktr_room); (case a => assumption); (case b => assumption))
  | (refine' K_twos ?kH ?k2 ?k8 ?kd ?a ?b ?c ?_; (case kH => exact Sd.use (by assumption) (by k_asm) rfl rfl); (case k2 => k_asm); (case k8 => k_asm); (case kd => ktr_room); (case a => assumption); (case b => assumption); (case c => assumption))); intro t9 h9 tk9 F' N'; (try dsimp only); (try k_sweep)))
theorem right_end {s : Shared} {Q : Value → Shared → Prop} {h' : Heap} {tk' : Nat} {x y : Int} {L : Addr} {m : Str → Option Value} (hret : ∀ h' tk', s.heap.StaysIn h' → Q (.bool true) { s with heap := h', toks := tk' }) (e : x = y) (F : Fr s.heap L h' m) : Q (.bool (x == y)) { s with heap := h', toks := tk' } := by
  rw [e, beq_self_eq_true]; exact hret h' tk' F.keep
set_option maxRecDepth 100000 in
set_option maxHeartbeats 2000000 in
theorem C_right {w : World} {dp un : Nat} {gd : Option (List Code)} {frs : List Env} {s : Shared} {Q E : Value → Shared → Prop} (H : Sd w frs s.heap) (hdp : dp + 4 < recursionLimit)
    {ro lk mo : Addr} {a b : Int} {t4 t5 : Tok} {ms rs : List Value} {xs ys : List Int} (hro : IsTup s.heap ro [Value.int a t4, Value.int b t5, Value.ref lk, Value.ref mo].toArray) (hlk : s.heap.IsList lk ms.toArray) (hmo : s.heap.IsList mo rs.toArray) (hms : IntsAre ms xs) (hrs : IntsAre rs ys)
    (hxs : xs.length ≤ 100) (hys : ys.length ≤ 100) (ha : 0 ≤ a) (hb : 0 ≤ b) (hb1 : b < 1000) (ha1 : a < 4096) (hb2 : b < 4096) (hab : a + b < 4096) (hab0 : 0 ≤ a + b) (hun : un + 100 < cLine)
    (hP1 : xs = lackL (apG a [] ++ apG b []) (apG (a + b) []) ((apG a []).length + (apG b []).length)) (hP2 : ys = moreL (apG a [] ++ apG b []) (apG (a + b) [])) (hP3 : worth xs - worth ys = 15 * carr a b) (hP4 : ones xs - ones ys = twos a b)
    (hret : ∀ h' tk', s.heap.StaysIn h' → Q (.bool true) { s with heap := h', toks := tk' }) :
    wpAny (model PySem.Challenge.rw_oc0020_01.prog w) (Ar dp un gd frs) (call (.ref 83) [.ref ro]) Q E s := by
  obtain ⟨p, loose, mean, mg, mb, X, T⟩ := H.get
  revert X
  k_fill
  intro X
  have hla := ap_3 ha ha1
  have hlb := ap_3 hb hb2
  have hlab := ap_3 hab0 hab
  walk_at "mine enterC"
  k_with_none
  w_top off
  have hold : (apG a []).length + (apG b []).length ≤ 100 := by omega
  k_with "pyIter ref" => (k_dflt (refine' src_range ?hh ?F ?N ?r (down_sm hold) (rangeSize_downNat _ _) (down_sz hold) ?_; (case hh => rfl); (case F => k_asm); (case N => k_asm); (case r => assumption)); intro g' I' St' hSrc'; refine ⟨_, _, _, _, _, _, _, rfl, hSrc', ?_⟩; clear hSrc'; refine restR ((apG a []).length + (apG b []).length) (lackP (apG a [] ++ apG b []) (apG (a + b) [])) (fun k => (apG a [] ++ apG b []).getD k.toNat 0) down_b ?_ ?_)
  k_with "pyIter ref" => (k_dflt (refine' src_range ?hh ?F ?N ?r (up_sm (len_1 hlab)) (rangeSize_nat _ _) (up_sz (len_1 hlab)) ?_; (case hh => rfl); (case F => k_asm); (case N => k_asm); (case r => assumption)); intro g' I' St' hSrc'; refine ⟨_, _, _, _, _, _, _, rfl, hSrc', ?_⟩; clear hSrc'; refine restR (apG (a + b) []).length (moreP (apG a [] ++ apG b []) (apG (a + b) [])) (fun k => (apG (a + b) []).getD k.toNat 0) up_b ?_ ?_)
  k_steps
  · unfold Hold2
    intro k t I oI C oC D m₂ ys h tk E' hk0 hk1 hC hx F N off ne
    k_fold
    clear ne
    k_steps
    · exact lackP_t (by assumption)
    · exact ⟨rfl, _, rfl⟩
    · exact LCg.CompEnd.intro (by assumption) (by assumption) _ (fun _ hp => .tail _ hp) off trivial ⟨lackP_f (by assumption), rfl⟩
  · unfold Hold2
    intro zs hzs
    k_steps
    · unfold Hold2
      intro k t I oI C oC D m₂ ys' h tk E' hk0 hk1 hC hx F N off ne
      k_fold
      clear ne
      k_steps
      · exact moreP_t (by assumption)
      · exact ⟨rfl, _, rfl⟩
      · exact LCg.CompEnd.intro (by assumption) (by assumption) _ (fun _ hp => .tail _ hp) off trivial ⟨moreP_f (by assumption), rfl⟩
    · unfold Hold2
      intro zs' hzs'
      k_steps
      · exact absurd hP3 (by assumption)
      · exact right_end hret hP4 (by assumption)
end Mine
end TC10

section TPl
open PySem PySem.W PyProof.Rows
namespace Mine
/-- an additive measure of a list -/
def msr (f : Int → Int) (xs : List Int) : Int := (xs.map f).sum
theorem msr_app (f : Int → Int) (xs ys : List Int) : msr f (xs ++ ys) = msr f xs + msr f ys := by simp [msr]
theorem msr_cons (f : Int → Int) (x : Int) (xs : List Int) : msr f (x :: xs) = f x + msr f xs := by simp [msr]
theorem msr_nil (f : Int → Int) : msr f [] = 0 := rfl
theorem msr_erase (f : Int → Int) : ∀ {ys : List Int} {x : Int}, x ∈ ys → msr f (ys.erase x) = msr f ys - f x
  | [], _, h => nomatch h
  | y :: r, x, h => by
    by_cases e : y = x
    · subst e; rw [List.erase_cons_head, msr_cons]; omega
    · have h' : x ∈ r := by
        rcases List.mem_cons.mp h with q | q
        · exact absurd q.symm e
        · exact q
      rw [List.erase_cons_tail (by simpa using e), msr_cons, msr_cons, msr_erase f h']; omega
theorem msr_rev (f : Int → Int) : ∀ xs : List Int, msr f xs.reverse = msr f xs
  | [] => rfl
  | x :: r => by rw [List.reverse_cons, msr_app, msr_rev f r, msr_cons, msr_cons, msr_nil]; omega
theorem msr_uldGo (f : Int → Int) : ∀ (xs ys ms : List Int), msr f (uldGo xs ys ms).1 - msr f (uldGo xs ys ms).2 = msr f xs + msr f ms - msr f ys
  | [], ys, ms => by simp only [uldGo, msr_nil]; omega
  | x :: r, ys, ms => by
    unfold uldGo
    split
    · rename_i h
      rw [msr_uldGo f r, msr_erase f h, msr_cons]; omega
    · rw [msr_uldGo f r, msr_app, msr_cons, msr_cons, msr_nil]; omega
theorem msr_uld (f : Int → Int) (xs ys : List Int) : msr f (uld xs ys).1 - msr f (uld xs ys).2 = msr f xs - msr f ys := by
  unfold uld
  rw [msr_uldGo, msr_rev, msr_nil]; omega

/-- a sum over the digits to the base 16 -/
def dsF (f : Int → Int) : Nat → Int → Int
  | 0, _ => 0
  | k+1, n => if n = 0 then 0 else f (n % 16) + dsF f k (n / 16)
def ds (f : Int → Int) (n : Int) : Int := dsF f n.toNat n
theorem dsF_stable (f : Int → Int) : ∀ (k j : Nat) (n : Int), 0 ≤ n → n.toNat ≤ k → n.toNat ≤ j → dsF f k n = dsF f j n := by
  intro k
  induction k with
  | zero =>
    intro j n h0 h1 _
    have : n = 0 := by omega
    subst this
    cases j with
    | zero => rfl
    | succ j => simp [dsF]
  | succ k ih =>
    intro j n h0 h1 h2
    cases j with
    | zero =>
      have : n = 0 := by omega
      subst this
      simp [dsF]
    | succ j =>
      unfold dsF
      split
      · rfl
      · rw [ih j (n / 16) (by omega) (by omega) (by omega)]
theorem ds_zero (f : Int → Int) : ds f 0 = 0 := rfl
theorem ds_step (f : Int → Int) {n : Int} (h0 : 0 ≤ n) (hn : n ≠ 0) : ds f n = f (n % 16) + ds f (n / 16) := by
  unfold ds
  obtain ⟨k, hk⟩ : ∃ k, n.toNat = k + 1 := ⟨n.toNat - 1, by omega⟩
  rw [hk]
  conv => lhs; unfold dsF
  rw [if_neg hn, dsF_stable f k _ (n / 16) (by omega) (by omega) (Nat.le_refl _)]
/-- the digit step where the digit nought counts nought -/
theorem ds_any (f : Int → Int) (hf : f 0 = 0) {n : Int} (h0 : 0 ≤ n) : ds f n = f (n % 16) + ds f (n / 16) := by
  by_cases h : n = 0
  · subst h; show ds f 0 = f 0 + ds f 0; omega
  · exact ds_step f h0 h
theorem msr_ap (f : Int → Int) : ∀ (k : Nat) (n : Int) (acc : List Int), 0 ≤ n → n.toNat ≤ k → msr f (apG n acc) = ds (fun d => f (65 + d)) n + msr f acc := by
  intro k
  induction k with
  | zero =>
    intro n acc h0 h1
    have : n = 0 := by omega
    subst this
    rw [apG_zero, ds_zero]; omega
  | succ k ih =>
    intro n acc h0 h1
    by_cases h : n = 0
    · subst h; rw [apG_zero, ds_zero]; omega
    · rw [apG_step h0 h, ih (n / 16) _ (by omega) (by omega), ds_step _ h0 h, msr_cons]; omega
theorem msr_ap0 (f : Int → Int) {n : Int} (h0 : 0 ≤ n) : msr f (apG n []) = ds (fun d => f (65 + d)) n := by
  rw [msr_ap f n.toNat n [] h0 (Nat.le_refl _), msr_nil]; omega

/-- the carries -/
theorem carr_ds : ∀ (k : Nat) (a b o : Int), 0 ≤ a → 0 ≤ b → 0 ≤ o → o ≤ 1 → (2 * (a + b) + o).toNat ≤ k → ds id a + ds id b + o - ds id (a + b + o) = 15 * carr3 a b o := by
  intro k
  induction k with
  | zero =>
    intro a b o h1 h2 h3 h4 h5
    have ha : a = 0 := by omega
    have hb : b = 0 := by omega
    have ho : o = 0 := by omega
    subst ha; subst hb; subst ho
    decide
  | succ k ih =>
    intro a b o h1 h2 h3 h4 h5
    by_cases hc : 0 < a ∨ 0 < b ∨ 0 < o
    · have e := ih (a / 16) (b / 16) ((a % 16 + b % 16 + o) / 16) (by omega) (by omega) (by omega) (by omega) (by omega)
      rw [carr3_step h1 h2 h3 h4 hc, ds_any id rfl h1, ds_any id rfl h2, ds_any id rfl (show 0 ≤ a + b + o by omega)]
      have e1 : (a + b + o) / 16 = a / 16 + b / 16 + (a % 16 + b % 16 + o) / 16 := by omega
      have e2 : (a + b + o) % 16 = (a % 16 + b % 16 + o) % 16 := by omega
      rw [e1, e2]
      simp only [id]
      generalize carr3 (a / 16) (b / 16) ((a % 16 + b % 16 + o) / 16) = c at e ⊢
      generalize ds id (a / 16 + b / 16 + (a % 16 + b % 16 + o) / 16) = d1 at e ⊢
      generalize ds id (a / 16) = d2 at e ⊢
      generalize ds id (b / 16) = d3 at e ⊢
      omega
    · have ha : a = 0 := by omega
      have hb : b = 0 := by omega
      have ho : o = 0 := by omega
      subst ha; subst hb; subst ho
      decide
theorem worth_msr (xs : List Int) : worth xs = msr (fun x => x - 65) xs := rfl
theorem worth_ap {n : Int} (h0 : 0 ≤ n) : worth (apG n []) = ds id n := by
  rw [worth_msr, msr_ap0 _ h0]
  have : (fun d : Int => 65 + d - 65) = id := by funext d; simp only [id]; omega
  rw [this]
theorem worth_diff {a b : Int} (ha : 0 ≤ a) (hb : 0 ≤ b) : worth (apG a []) + worth (apG b []) - worth (apG (a + b) []) = 15 * carr a b := by
  rw [worth_ap ha, worth_ap hb, worth_ap (by omega)]
  have := carr_ds _ a b 0 ha hb (by decide) (by decide) (Nat.le_refl _)
  simp only [Int.add_zero] at this
  exact this
theorem hP3 {a b : Int} (ha : 0 ≤ a) (hb : 0 ≤ b) : worth (uld (apG a [] ++ apG b []) (apG (a + b) [])).1 - worth (uld (apG a [] ++ apG b []) (apG (a + b) [])).2 = 15 * carr a b := by
  rw [worth_msr, worth_msr, msr_uld, msr_app, ← worth_msr, ← worth_msr, ← worth_msr]
  exact worth_diff ha hb
end Mine
end TPl

section TPl2
open PySem PySem.W PyProof.Rows
namespace Mine
/-- ones in a digit -/
def pd (d : Int) : Int := d % 2 + d / 2 % 2 + d / 4 % 2 + d / 8 % 2
theorem ones_one (a : Int) : ([1, 2, 4, 8].map (onesOf a)).sum = pd (a - 65) := by
  simp only [onesOf, List.map_cons, List.map_nil, List.sum_cons, List.sum_nil, fm2 _ 2 (by decide), fd2 _ 1 (by decide), fd2 _ 2 (by decide), fd2 _ 4 (by decide), fd2 _ 8 (by decide), pd]
  rw [show (a - 65) / 1 = a - 65 by omega]; omega
theorem ones_msr : ∀ xs : List Int, ones xs = msr (fun a => pd (a - 65)) xs
  | [] => rfl
  | x :: r => by
    have e : ones (x :: r) = ([1, 2, 4, 8].map (onesOf x)).sum + ones r := by simp only [ones, List.flatMap_cons, List.sum_append]
    rw [e, ones_one, ones_msr r, msr_cons]
theorem ones_ap {n : Int} (h0 : 0 ≤ n) : ones (apG n []) = ds pd n := by
  rw [ones_msr, msr_ap0 _ h0]
  have : (fun d : Int => pd (65 + d - 65)) = pd := by funext d; rw [show 65 + d - 65 = d by omega]
  rw [this]
theorem pd0 : pd 0 = 0 := by decide
theorem bp_any {n : Int} (h0 : 0 ≤ n) : ds pd n = pd (n % 16) + ds pd (n / 16) := ds_any pd pd0 h0
/-- the digit sum of ones, bit by bit -/
theorem bp_bit : ∀ (k : Nat) (n : Int), 0 ≤ n → n.toNat ≤ k → ds pd n = n % 2 + ds pd (n / 2) := by
  intro k
  induction k with
  | zero =>
    intro n h0 h1
    have : n = 0 := by omega
    subst this; decide
  | succ k ih =>
    intro n h0 h1
    by_cases h : n = 0
    · subst h; decide
    · have e := ih (n / 16) (by omega) (by omega)
      rw [bp_any h0, bp_any (show 0 ≤ n / 2 by omega), e, show n / 2 / 16 = n / 16 / 2 by omega]
      generalize ds pd (n / 16 / 2) = q
      unfold pd
      omega
theorem bp_b {n : Int} (h0 : 0 ≤ n) : ds pd n = n % 2 + ds pd (n / 2) := bp_bit _ n h0 (Nat.le_refl _)
theorem halv_bp : ∀ (k : Nat) (n : Int), 0 < n → n.toNat ≤ k → halv n = ds pd (n - 1) - ds pd n + 1 := by
  intro k
  induction k with
  | zero => intro n h0 h1; omega
  | succ k ih =>
    intro n h0 h1
    by_cases he : n % 2 = 0
    · rw [halv_even h0 he, ih (n / 2) (by omega) (by omega), bp_b (show 0 ≤ n - 1 by omega), bp_b (show 0 ≤ n by omega), show (n - 1) / 2 = n / 2 - 1 by omega]
      omega
    · rw [halv_odd h0 he, bp_b (show 0 ≤ n - 1 by omega), bp_b (show 0 ≤ n by omega), show (n - 1) / 2 = n / 2 by omega]
      omega
theorem halv_b {n : Int} (h : 0 < n) : halv n = ds pd (n - 1) - ds pd n + 1 := halv_bp _ n h (Nat.le_refl _)
theorem ks_succ (n : Nat) : rangeKs 1 (n + 1) = rangeKs 1 n ++ [(n : Int) + 1] := by
  simp only [rangeKs, List.range_succ, List.map_append, List.map_cons, List.map_nil]
  rw [Int.add_comm]
theorem twos_nat (a : Int) (ha : 0 ≤ a) : ∀ n : Nat, ((rangeKs 1 n).map (fun m => halv (a + m) - halv m)).sum = ds pd a + ds pd (n : Int) - ds pd (a + (n : Int))
  | 0 => by
    show (0 : Int) = ds pd a + ds pd 0 - ds pd (a + 0)
    rw [Int.add_zero, ds_zero]; omega
  | n + 1 => by
    rw [ks_succ, List.map_append, List.sum_append, twos_nat a ha n]
    simp only [List.map_cons, List.map_nil, List.sum_cons, List.sum_nil]
    rw [halv_b (show 0 < a + ((n : Int) + 1) by omega), halv_b (show 0 < (n : Int) + 1 by omega), show a + ((n : Int) + 1) - 1 = a + (n : Int) by omega, show (n : Int) + 1 - 1 = (n : Int) by omega, show ((n + 1 : Nat) : Int) = (n : Int) + 1 by omega]
    omega
theorem twos_bp {a b : Int} (ha : 0 ≤ a) (hb : 0 ≤ b) : twos a b = ds pd a + ds pd b - ds pd (a + b) := by
  have := twos_nat a ha b.toNat
  rw [show ((b.toNat : Nat) : Int) = b by omega] at this
  exact this
theorem ones_diff {a b : Int} (ha : 0 ≤ a) (hb : 0 ≤ b) : ones (apG a []) + ones (apG b []) - ones (apG (a + b) []) = twos a b := by
  rw [ones_ap ha, ones_ap hb, ones_ap (by omega), twos_bp ha hb]
theorem hP4 {a b : Int} (ha : 0 ≤ a) (hb : 0 ≤ b) : ones (uld (apG a [] ++ apG b []) (apG (a + b) [])).1 - ones (uld (apG a [] ++ apG b []) (apG (a + b) [])).2 = twos a b := by
  rw [ones_msr, ones_msr, msr_uld, msr_app, ← ones_msr, ← ones_msr, ← ones_msr]
  exact ones_diff ha hb
end Mine
end TPl2

section TPl3
open PySem PySem.W PyProof.Rows
namespace Mine
def lackR (new : List Int) : List Int → List Int → List Int
  | [], _ => []
  | x :: r, suf => if new.count x ≤ suf.count x then x :: lackR new r (x :: suf) else lackR new r (x :: suf)
theorem uldGo_lack (new : List Int) : ∀ (pr suf cur ms : List Int), (∀ y, cur.count y = new.count y - suf.count y) → (uldGo pr cur ms).1 = ms ++ lackR new pr suf
  | [], suf, cur, ms, _ => by simp [uldGo, lackR]
  | x :: r, suf, cur, ms, h => by
    have hx := h x
    unfold uldGo lackR
    by_cases hm : x ∈ cur
    · have hpos : 0 < cur.count x := List.count_pos_iff.mpr hm
      rw [if_pos hm, if_neg (by omega)]
      refine uldGo_lack new r (x :: suf) (cur.erase x) ms fun y => ?_
      have hy := h y
      by_cases e : y = x
      · subst e; rw [List.count_erase_self, List.count_cons_self]; omega
      · rw [List.count_erase_of_ne e, List.count_cons_of_ne (Ne.symm e)]; exact hy
    · have hz : cur.count x = 0 := List.count_eq_zero.mpr hm
      rw [if_neg hm, if_pos (by omega)]
      rw [uldGo_lack new r (x :: suf) cur (ms ++ [x]) fun y => ?_]
      · simp
      · have hy := h y
        by_cases e : y = x
        · subst e; rw [List.count_cons_self]; omega
        · rw [List.count_cons_of_ne (Ne.symm e)]; exact hy
def dn : Nat → List Int
  | 0 => []
  | j + 1 => (j : Int) :: dn j
theorem dn_range : ∀ n : Nat, (List.range n).map (fun (i : Nat) => ((n : Int) - 1) + (i : Int) * (-1)) = dn n
  | 0 => rfl
  | n + 1 => by
    rw [List.range_succ_eq_map, List.map_cons, List.map_map, dn, ← dn_range n]
    congr 1
    · omega
    · apply List.map_congr_left
      intro i _
      simp only [Function.comp]
      omega
theorem ks_dn (n : Nat) : Ks ((n : Int) - 1) (-1) ((n : Int) - 1 - (-1)).toNat = dn n := by
  rw [show ((n : Int) - 1 - (-1)).toNat = n by omega]
  exact dn_range n
theorem lackR_dn (old new : List Int) : ∀ j : Nat, j ≤ old.length → lackR new (old.take j).reverse (old.drop j) = ((dn j).filter (lackP old new)).map fun k => old.getD k.toNat 0
  | 0, _ => by simp [lackR, dn]
  | j + 1, h => by
    have hj : j < old.length := by omega
    have e1 : old.take (j + 1) = old.take j ++ [old[j]] := by rw [List.take_add_one, List.getElem?_eq_getElem hj]; rfl
    have e2 : old.drop j = old[j] :: old.drop (j + 1) := List.drop_eq_getElem_cons hj
    have e3 : old.getD ((j : Int)).toNat 0 = old[j] := by rw [Int.toNat_natCast, List.getD_eq_getElem?_getD, List.getElem?_eq_getElem hj]; rfl
    have ih := lackR_dn old new j (by omega)
    rw [e1, List.reverse_append, List.reverse_singleton, List.singleton_append, dn]
    unfold lackR
    rw [← e2, ih, List.filter_cons]
    have e4 : lackP old new (j : Int) = decide (new.count old[j] ≤ (old.drop (j + 1)).count old[j]) := by
      unfold lackP
      rw [e3, show ((j : Int) + 1).toNat = j + 1 by omega]
    rw [e4]
    by_cases hc : new.count old[j] ≤ (old.drop (j + 1)).count old[j]
    · rw [if_pos hc, decide_eq_true hc, if_pos rfl, List.map_cons, e3]
    · rw [if_neg hc, decide_eq_false hc, if_neg (by decide)]
theorem uld_lack (old new : List Int) : (uld old new).1 = lackL old new old.length := by
  unfold uld lackL
  rw [uldGo_lack new old.reverse [] new [] (fun y => by simp), List.nil_append, ks_dn]
  have := lackR_dn old new old.length (Nat.le_refl _)
  rw [List.take_length, List.drop_length] at this
  exact this

theorem uldGo_more : ∀ (pr cur ms : List Int), (uldGo pr cur ms).2 = pr.foldl List.erase cur
  | [], _, _ => rfl
  | x :: r, cur, ms => by
    unfold uldGo
    rw [List.foldl_cons]
    by_cases hm : x ∈ cur
    · rw [if_pos hm]; exact uldGo_more r (cur.erase x) ms
    · rw [if_neg hm, List.erase_of_not_mem hm]; exact uldGo_more r cur (ms ++ [x])
theorem foldl_erase_cons (x : Int) : ∀ (E r : List Int), E.foldl List.erase (x :: r) = if x ∈ E then (E.erase x).foldl List.erase r else x :: E.foldl List.erase r
  | [], r => by simp
  | e :: E, r => by
    rw [List.foldl_cons]
    by_cases h : e = x
    · subst h
      rw [List.erase_cons_head, if_pos List.mem_cons_self, List.erase_cons_head]
    · have hb : ¬ (x == e) = true := by simpa using (Ne.symm h)
      have hb2 : ¬ (e == x) = true := by simpa using h
      rw [List.erase_cons_tail hb, foldl_erase_cons x E (r.erase e)]
      by_cases hm : x ∈ E
      · rw [if_pos hm, if_pos (List.mem_cons_of_mem _ hm), List.erase_cons_tail hb2, List.foldl_cons]
      · rw [if_neg hm, if_neg (fun q => (List.mem_cons.mp q).elim (fun z => h z.symm) hm), List.foldl_cons]
def moreR (old : List Int) : List Int → List Int → List Int
  | [], _ => []
  | x :: r, pre => if old.count x ≤ pre.count x then x :: moreR old r (pre ++ [x]) else moreR old r (pre ++ [x])
theorem more_R (old : List Int) : ∀ (suf pre E : List Int), (∀ y, E.count y = old.count y - pre.count y) → E.foldl List.erase suf = moreR old suf pre
  | [], pre, E, h => by
    have : ∀ E : List Int, E.foldl List.erase ([] : List Int) = [] := by
      intro E
      induction E with
      | nil => rfl
      | cons e E ih => rw [List.foldl_cons]; exact ih
    rw [this]; rfl
  | x :: r, pre, E, h => by
    have hx := h x
    rw [foldl_erase_cons]
    unfold moreR
    by_cases hm : x ∈ E
    · have hpos : 0 < E.count x := List.count_pos_iff.mpr hm
      rw [if_pos hm, if_neg (by omega)]
      refine more_R old r (pre ++ [x]) (E.erase x) fun y => ?_
      have hy := h y
      rw [List.count_append]
      by_cases e : y = x
      · subst e; rw [List.count_erase_self, List.count_singleton_self]; omega
      · rw [List.count_erase_of_ne e, List.count_singleton, if_neg (by simpa using (Ne.symm e))]; omega
    · have hz : E.count x = 0 := List.count_eq_zero.mpr hm
      rw [if_neg hm, if_pos (by omega)]
      rw [more_R old r (pre ++ [x]) E fun y => ?_]
      have hy := h y
      rw [List.count_append]
      by_cases e : y = x
      · subst e; rw [List.count_singleton_self]; omega
      · rw [List.count_singleton, if_neg (by simpa using (Ne.symm e))]; omega
theorem moreR_up (old new : List Int) : ∀ (k j : Nat), j + k = new.length → moreR old (new.drop j) (new.take j) = ((((List.range k).map fun (i : Nat) => ((j + i : Nat) : Int))).filter (moreP old new)).map fun k => new.getD k.toNat 0
  | 0, j, h => by
    rw [List.drop_of_length_le (by omega)]; rfl
  | k + 1, j, h => by
    have hj : j < new.length := by omega
    have e1 : new.take (j + 1) = new.take j ++ [new[j]] := by rw [List.take_add_one, List.getElem?_eq_getElem hj]; rfl
    have e2 : new.drop j = new[j] :: new.drop (j + 1) := List.drop_eq_getElem_cons hj
    have e3 : new.getD ((j : Int)).toNat 0 = new[j] := by rw [Int.toNat_natCast, List.getD_eq_getElem?_getD, List.getElem?_eq_getElem hj]; rfl
    have ih := moreR_up old new k (j + 1) (by omega)
    have e5 : ((List.range (k + 1)).map fun (i : Nat) => ((j + i : Nat) : Int)) = (j : Int) :: ((List.range k).map fun (i : Nat) => ((j + 1 + i : Nat) : Int)) := by
      rw [List.range_succ_eq_map, List.map_cons, List.map_map]
      congr 1
      apply List.map_congr_left
      intro i _
      simp only [Function.comp]
      omega
    have e4 : moreP old new (j : Int) = decide (old.count new[j] ≤ (new.take j).count new[j]) := by
      unfold moreP
      rw [e3, Int.toNat_natCast]
    rw [e2, e5, List.filter_cons, e4]
    unfold moreR
    rw [← e1, ih]
    by_cases hc : old.count new[j] ≤ (new.take j).count new[j]
    · rw [if_pos hc, decide_eq_true hc, if_pos rfl, List.map_cons, e3]
    · rw [if_neg hc, decide_eq_false hc, if_neg (by decide)]
theorem uld_more (old new : List Int) : (uld old new).2 = moreL old new := by
  unfold uld moreL
  rw [uldGo_more, more_R old new [] old.reverse (fun y => by simp)]
  have := moreR_up old new new.length 0 (by omega)
  rw [List.drop_zero, List.take_zero] at this
  rw [this, show ((new.length : Int) - 0).toNat = new.length by omega]
  congr 2
  apply List.map_congr_left
  intro i _
  omega
end Mine
end TPl3

section TC11
open PySem PySem.W PySem.Calls PyProof.Rows
namespace Mine
local macro_rules | `(tactic| walk_at "mine enter") => `(tactic| (refine wpAny_call ?_; k_dflt (refine' enter ?X ?T ?k6 ?k7 ?k8 ?k9 ?kB ?_ ?c2 ?c3 ?c4 ?c5; (case X => k_asm); (case T => k_asm); (case k6 => k_is); (case k7 => k_is); (case k8 => ktr_room); (case k9 => first | exact BindsTo.of_eq rfl | exact binds_K (by k_asm) rfl (by k_is) rfl rfl rfl); (case c5 => decide); (case kB => exact locs rfl); (case c2 => exact rfl); (case c3 => exact rfl); (case c4 => exact rfl); k_whole); intro L' h' F' N'; (try dsimp only); (try k_fold)))
local macro_rules | `(tactic| walk_at "eval Name") => `(tactic| (k_here; k_dflt (refine' ld ?F ?v ?_; (case F => k_asm); (case v => first | exact if_pos rfl | exact if_name (by decide) (by assumption) | assumption); k_whole)))
/-- a list of ints at a heap -/
def IntL (h : Heap) (v : Value) (ns : List Int) : Prop := ∃ l vs, v = .ref l ∧ h.IsList l vs.toArray ∧ IntsAre vs ns
/-- what the glueing function does -/
def Glues (w : World) (g : Heap) (frs : List Env) (lam : Addr) : Prop :=
  ∀ {dp un : Nat} {gd : Option (List Code)} {env : Env} {s : Shared} {Q E : Value → Shared → Prop} {x y : Addr} {vs ws : List Value}, Sd w (env :: frs) s.heap → dp + 1 < recursionLimit → g.StaysIn s.heap → s.heap.IsList x vs.toArray → s.heap.IsList y ws.toArray → vs.length + ws.length ≤ 1000 →
    (∀ D h' tk', s.heap.StaysIn h' → s.heap.get? D = none → h'.get? D = some (listOf (vs ++ ws).toArray 0) → Q (.ref D) { s with heap := h', toks := tk' }) →
    wpAny (model PySem.Challenge.rw_oc0020_01.prog w) (Ar dp un gd (env :: frs)) (call (.ref lam) [.ref x, .ref y]) Q E s
def GlJ (g : Heap) (lam ia : Addr) (nss : List (List Int)) (i : Nat) (m₁ : Str → Option Value) (news₁ : List (Addr × Obj)) : Prop :=
  ∃ (va : Addr) (vs : List Value) (k : Nat), m₁ (Str.ofString "function") = some (.ref lam) ∧ m₁ (Str.ofString "value") = some (.ref va) ∧ ObjAt g news₁ va (listOf vs.toArray k) ∧ IntsAre vs (nss.take i).flatten ∧ (va = ia ∨ g.get? va = none)
theorem fn_at {g h : Heap} {q : Addr} {o : Obj} {fd : FuncData} (k : g.StaysIn h) (e : g.get? q = some o) (hd : o.data = .func fd) : FnAt q h := by
  obtain ⟨oc, od, dt, sl⟩ := o
  dsimp only at hd
  subst hd
  exact ⟨oc, od, fd, sl, k _ _ e⟩
theorem paired_at {α β : Type} {F : α → β → Prop} : ∀ {l1 : List α} {l2 : List β} {i : Nat} {a : α}, Paired F l1 l2 → l1[i]? = some a → ∃ b, l2[i]? = some b ∧ F a b
  | _, _, i, a, .nil, h => by simp at h
  | _, _, 0, a, .cons h1 _, h => by
    simp only [List.getElem?_cons_zero, Option.some.injEq] at h
    subst h; exact ⟨_, rfl, h1⟩
  | _, _, i + 1, a, .cons _ t, h => by
    simp only [List.getElem?_cons_succ] at h ⊢
    exact paired_at t h
theorem flat_snoc {nss : List (List Int)} {i : Nat} {ns : List Int} (h : nss[i]? = some ns) : (nss.take (i + 1)).flatten = (nss.take i).flatten ++ ns := by rw [List.take_add_one, h]; simp
theorem flat_le {nss : List (List Int)} (i : Nat) : (nss.take i).flatten.length ≤ nss.flatten.length := by
  have e : nss.flatten = (nss.take i).flatten ++ (nss.drop i).flatten := by rw [← List.flatten_append, List.take_append_drop]
  rw [e, List.length_append]; omega
theorem gl_turn {g h' : Heap} {L I D lam ia : Addr} {nss : List (List Int)} {i : Nat} {s : Shared} {oI : Obj} {news₁ : List (Addr × Obj)} {vs ws : List Value} {tk : Nat} {ns : List Int} {m₂ : Str → Option Value}
    (hn : nss[i]? = some ns) (hv : IntsAre vs (nss.take i).flatten) (hw : IntsAre ws ns) (F : Fr g L h' m₂) (N : News g L h' ((D, listOf (vs ++ ws).toArray 0) :: (I, oI) :: news₁)) (hD : D ≠ I) (off : ∀ p ∈ news₁, p.1 ≠ I)
    (h1 : m₂ (Str.ofString "function") = some (.ref lam)) (h2 : m₂ (Str.ofString "value") = some (.ref D)) :
    ForPost g L s I oI (GlJ g lam ia nss (i + 1)) .next { s with heap := h', toks := tk } := by
  refine ⟨rfl, h', tk, m₂, (D, listOf (vs ++ ws).toArray 0) :: news₁, rfl, F, fun p hp => N p ?_, fun p hp => ?_, D, vs ++ ws, 0, h1, h2, .inr (.head _), by rw [flat_snoc hn]; exact IntsAre.append hv hw, .inr (N _ (.head _)).2.2⟩
  · rcases List.mem_cons.mp hp with rfl | hp
    · exact .tail _ (.head _)
    · rcases List.mem_cons.mp hp with rfl | hp
      · exact .head _
      · exact .tail _ (.tail _ hp)
  · rcases List.mem_cons.mp hp with rfl | hp
    · exact hD
    · exact off p hp
set_option maxRecDepth 100000 in
set_option maxHeartbeats 8000000 in
theorem C_glue {w : World} {dp un : Nat} {gd : Option (List Code)} {frs : List Env} {s : Shared} {Q E : Value → Shared → Prop} (H : Sd w frs s.heap) (hdp : dp + 3 < recursionLimit)
    {lam sq ia : Addr} {its : List Value} {nss : List (List Int)} {k1 k2 : Nat} (Hf : Glues w s.heap frs lam) {olam : Obj} {fdl : FuncData} (hlam : s.heap.get? lam = some olam) (hld : olam.data = .func fdl) (hsq : s.heap.get? sq = some (listOf its.toArray k1)) (hits : Paired (IntL s.heap) its nss) (hia : s.heap.get? ia = some (listOf ([] : List Value).toArray k2))
    (hi : @Ne Nat ia 29) (hlen : nss.flatten.length ≤ 500)
    (hret : ∀ D vs k h' tk', s.heap.StaysIn h' → h'.get? D = some (listOf vs.toArray k) → IntsAre vs nss.flatten → (D = ia ∨ s.heap.get? D = none) → Q (.ref D) { s with heap := h', toks := tk' }) :
    wpAny (model PySem.Challenge.rw_oc0020_01.prog w) (Ar dp un gd frs) (call (.ref 37) [.ref lam, .ref sq, .ref ia]) Q E s := by
  obtain ⟨p, loose, mean, mg, mb, X, T⟩ := H.get
  revert X
  k_fill
  intro X
  have g1 : s.heap.IsList sq its.toArray := ⟨_, hsq, rfl, _, rfl⟩
  walk_at "mine enter"
  rename_i L' h' F' N'
  k_with_none
  w_top off
  k_with "call builtin:iter cons nil" => (k_dflt (refine' iter_list ?F ?N ?l ?_; (case F => k_asm); (case N => k_asm); (case l => exact stays_list (Fr.keep (by k_asm)) g1)); intro D' h' F' N' l1; (try dsimp only); (try k_sweep))
  k_with "compareOp Is ref ref" => (k_dflt (refine' is_tup hi ?a ?b ?c ?_; (case a => exact Fr.keep (by k_asm) _ _ hia); (case b => kto_obj); (case c => kto_not)))
  k_with "exec For Name Name cons nil" => ((rename Fr _ _ _ _ => fW); (rename News _ _ _ _ => nW); k_dflt (refine' For_it (GlJ s.heap lam ia nss) ?hh ?hx ?hp fW nW ⟨rfl, rfl⟩ ?off g1 ?hj ?he ?turn ?done; (case hh => rfl); (case hx => rfl); (case hp => rfl); (case off => exact fun _ h => nomatch h); (case hj => exact ⟨ia, [], k2, rfl, rfl, .inl hia, by simpa using IntsAre.nil, .inl rfl⟩); (case he => exact ld fW rfl ⟨rfl, rfl⟩)); all_goals (clear fW nW))
  k_steps
  · unfold Hold
    intro i v m₁ news₁ h tk oI E' hv hJ F N off hIt
    obtain ⟨va, vs, k, hf, hvv, ov, iv, hor⟩ := hJ
    obtain ⟨ns, hni, l, ws, rfl, hl, iw⟩ := paired_at hits (by simpa using hv)
    k_fold
    have hfl := flat_le (nss := nss) (i + 1)
    rw [flat_snoc hni, List.length_append] at hfl
    have hsz : vs.length + ws.length ≤ 1000 := by rw [iv.length, iw.length]; omega
    have hva : h.IsList va vs.toArray := PySem.IsL.isList (n := k) (ov.at F N fun q hq => List.mem_cons_of_mem _ hq)
    have zI := (N _ List.mem_cons_self).1
    k_with "callWith ref" => (k_dflt (refine callWith_F (fn_at F.keep hlam hld) ?_))
    k_with "And" => (refine ⟨fn_at (Fr.keep (by k_asm)) hlam hld, ?_⟩; (try dsimp only [List.nil_append, List.cons_append]))
    k_with "call ref" => (k_dflt (refine' Hf (Sd.use H F rfl rfl) ?hdp F.keep hva (stays_list F.keep hl) hsz ?_; (case hdp => ktr_room)); intro D h2 tk2 st e0 e1; obtain ⟨F2, N2, _⟩ := news_new F N st e0 e1; (try dsimp only))
    k_steps
    · exact fn_at F.keep hlam hld
    refine gl_turn hni iv iw (by assumption) (by assumption) (ne_none e0 zI) off ?_ ?_
    · exact (if_neg (by decide)).trans ((if_neg (by decide)).trans hf)
    · exact if_pos rfl
  · unfold Hold
    intro m₁ news₁ h tk hJ F N
    obtain ⟨va, vs, k, hf, hvv, ov, iv, hor⟩ := hJ
    dsimp only
    have hsz : its.toArray.size = nss.length := by rw [List.size_toArray]; exact hits.length
    rw [hsz, List.take_length] at iv
    k_steps
    refine hret va vs k h _ F.keep (ov.at F N fun q hq => hq) iv ?_
    rcases hor with e | e
    · exact .inl e
    · exact .inr e
end Mine
end TC11

section TKl
open PySem PySem.W PySem.Calls PyProof.Rows
namespace Mine
section
variable {w : World} {h₀ : Heap} {L : Addr} {m : Str → Option Value} {news : List (Addr × Obj)} {dp un : Nat} {gd : Option (List Code)} {s : Shared} {Q E : Value → Shared → Prop} {env : Env}
  {p : Program} {loose : List Str} {mean : ExcName → Option Value} {mg mb : Str → Option Value}
theorem Sd.law (X : (hd.heap_39 w.params).In h₀) (T : Top p loose mean mg mb h₀) {h : Heap} (F : Fr h₀ L h m) (N : News h₀ L h news) (hf : env.frame = some L) (hk : env.scope.kind = .function) : Sd w [env] h :=
  Sd.useM (frs := []) (fos := []) trivial X T F N (fun _ h => nomatch h) hf hk
theorem ne_seq {h : Heap} {a c : Addr} {o oc : Obj} {its : Array Value} {n : Nat} (ha : h.get? a = some o) (hd : o.data = .seq its n) (hc : h.get? c = some oc) (hcd : ∀ its n, oc.data ≠ .seq its n) : @Ne Nat a c := fun q => by
  have q' : a = c := q
  rw [q', hc] at ha
  rw [← Option.some.inj ha] at hd
  exact hcd _ _ hd
theorem K_red (X : (hd.heap_39 w.params).In h₀) (T : Top p loose mean mg mb h₀) (F : Fr h₀ L s.heap m) (N : News h₀ L s.heap news) (hf : env.frame = some L) (hk : env.scope.kind = .function) (hdp : dp + 3 < recursionLimit)
    {sq ia r0 : Addr} {a0 : Int} {t1 : Tok} {nvs : List Value} {nums : List Int} {k1 k2 : Nat} (hsq : (sq, listOf nvs.toArray k1) ∈ news) (hnv : IntsAre nvs nums) (hia : (ia, tupObj [.int a0 t1, .ref r0]) ∈ news) (hr0 : (r0, listOf ([] : List Value).toArray k2) ∈ news)
    (hi : @Ne Nat ia 29) (ha0 : 0 ≤ a0) (ha1 : a0 ≤ 500) (hn : ∀ n ∈ nums, 0 ≤ n ∧ n < 40) (hlen : nums.length ≤ 7) {c : Addr} {oc : Obj} (hc : (c, oc) ∈ news) (hcd : ∀ its n, oc.data ≠ .seq its n)
    (h : ∀ (tp rl : Addr) (rows : List Value) (led : List (Addr × Obj)) (t : Tok) (k : Nat) (h' : Heap) (tk' : Nat), Fr h₀ L h' m → News h₀ L h' ((tp, tupObj [.int (a0 + nums.sum) t, .ref rl]) :: (rl, listOf rows.toArray k) :: (news ++ led)) →
      @Ne Nat tp c → @Ne Nat rl c → (∀ q ∈ led, q.1 ≠ c) → Paired (RowIn led) rows (stepsL a0 nums) → rows.length = nums.length → Q (.ref tp) { s with heap := h', toks := tk' }) :
    wpAny (model PySem.Challenge.rw_oc0020_01.prog w) (Ar dp un gd [env]) (call (.ref 37) [.ref 44, .ref sq, .ref ia]) Q E s := by
  obtain ⟨oL, les, lep, hL, hLd, hLr⟩ := F.ns
  have hL0 : h₀.get? L = none := Heap.get?_none_of_le F.above
  have Z : ∀ q ∈ [(L, oL)], s.heap.get? q.1 = some q.2 ∧ h₀.get? q.1 = none := fun q hq => by
    rcases List.mem_cons.mp hq with rfl | hq
    · exact ⟨hL, hL0⟩
    · exact nomatch hq
  refine C_red hdp F.keep X T (frs_cons (frs := []) (fos := []) trivial hf hk ⟨les, lep, hLd⟩) Z (N _ hsq).1 hnv (N _ hia).1 (N _ hr0).1 hi ha0 ha1 hn hlen ?_
  intro tp rl rows led fos2 t k h' tk' kp su hz hled a1 a2 hrows hl ht hr
  cases fos2 with
  | nil => exact False.elim su
  | cons q fos' =>
    obtain ⟨q1, ⟨sl, q2⟩, su'⟩ := su
    have hL' : h'.get? L = some { oL with slots := sl } := by
      have := hz q List.mem_cons_self
      rw [q1, q2] at this; exact this
    have hnL : ∀ b, b ≠ L → b ∉ [(L, oL)].map (·.1) := fun b hb hm => by
      simp only [List.map_cons, List.map_nil, List.mem_cons, List.not_mem_nil, or_false] at hm
      exact hb hm
    have F' : Fr h₀ L h' m := ⟨⟨_, les, lep, hL', hLd, hLr⟩, fun b o e0 => kp b o (hnL b fun q => by rw [q, hL0] at e0; cases e0) (F.keep b o e0), F.above⟩
    have none0 : ∀ b, s.heap.get? b = none → b ≠ L ∧ h₀.get? b = none := fun b e0 => by
      refine ⟨fun z => ?_, ?_⟩
      · rw [z, hL] at e0; cases e0
      · cases q : h₀.get? b with
        | none => rfl
        | some o => have := F.keep _ _ q; rw [e0] at this; cases this
    have keepN : ∀ q ∈ news, h'.get? q.1 = some q.2 := fun q hq => kp _ _ (hnL _ (N q hq).2.1) (N q hq).1
    refine h tp rl rows led t k h' tk' F' (fun z hz' => ?_) (ne_seq a1 rfl (keepN _ hc) hcd) (ne_seq a2 rfl (keepN _ hc) hcd) (fun q hq z => ?_) hrows hl
    · rcases List.mem_cons.mp hz' with rfl | hz'
      · refine ⟨a1, ?_⟩
        rcases ht with rfl | ht
        · exact (N _ hia).2
        · exact none0 _ ht
      · rcases List.mem_cons.mp hz' with rfl | hz'
        · refine ⟨a2, ?_⟩
          rcases hr with rfl | hr
          · exact (N _ hr0).2
          · exact none0 _ hr
        · rcases List.mem_append.mp hz' with hz' | hz'
          · exact ⟨keepN z hz', (N z hz').2⟩
          · exact ⟨(hled z hz').1, none0 _ (hled z hz').2⟩
    · have := (hled q hq).2
      rw [z, (N _ hc).1] at this; cases this

def LisIn (led : List (Addr × Obj)) (v : Value) (ns : List Int) : Prop := ∃ (l : Addr) (vs : List Value) (n : Nat), v = .ref l ∧ (l, listOf vs.toArray n) ∈ led ∧ IntsAre vs ns
theorem LisIn.mono {led led' : List (Addr × Obj)} {v : Value} {ns : List Int} (h : LisIn led v ns) (hs : ∀ p ∈ led, p ∈ led') : LisIn led' v ns := by
  obtain ⟨l, vs, n, e, hm, hi⟩ := h
  exact ⟨l, vs, n, e, hs _ hm, hi⟩
theorem K_glue (X : (hd.heap_39 w.params).In h₀) (T : Top p loose mean mg mb h₀) (F : Fr h₀ L s.heap m) (N : News h₀ L s.heap news) (hf : env.frame = some L) (hk : env.scope.kind = .function) (hdp : dp + 3 < recursionLimit)
    {lam sq ia : Addr} {its : List Value} {nss : List (List Int)} {k1 k2 : Nat} {olam : Obj} {fdl : FuncData} (hlam : (lam, olam) ∈ news) (hld : olam.data = .func fdl) (Hf : Glues w s.heap [env] lam)
    (hsq : (sq, listOf its.toArray k1) ∈ news) (hits : Paired (LisIn news) its nss) (hia : (ia, listOf ([] : List Value).toArray k2) ∈ news) (hi : @Ne Nat ia 29) (hlen : nss.flatten.length ≤ 500)
    (h : ∀ D vs k h' tk', Fr h₀ L h' m → News h₀ L h' ((D, listOf (List.toArray vs) k) :: news) → IntsAre vs nss.flatten → (∀ q ∈ news, q.1 ≠ ia → q.1 ≠ D) → Q (.ref D) { s with heap := h', toks := tk' }) :
    wpAny (model PySem.Challenge.rw_oc0020_01.prog w) (Ar dp un gd [env]) (call (.ref 37) [.ref lam, .ref sq, .ref ia]) Q E s := by
  refine C_glue (Sd.law X T F N hf hk) hdp Hf (N _ hlam).1 hld (N _ hsq).1 (paired_mono (fun a b hab => ?_) hits) (N _ hia).1 hi hlen ?_
  · obtain ⟨l, vs, n, e, hm, i⟩ := hab
    exact ⟨l, vs, e, PySem.IsL.isList (n := n) (N _ hm).1, i⟩
  · intro D vs k h' tk' st hD i hor
    refine h D vs k h' tk' (F.keeps st) (fun z hz => ?_) i (fun q hq hne z => ?_)
    · rcases List.mem_cons.mp hz with rfl | hz
      · refine ⟨hD, ?_⟩
        rcases hor with rfl | e0
        · exact (N _ hia).2
        · refine ⟨fun z => ?_, ?_⟩
          · obtain ⟨oL, _, _, hL, _⟩ := F.ns
            have z' : D = L := z
            rw [z', hL] at e0; cases e0
          · cases q : h₀.get? D with
            | none => rfl
            | some o => have := F.keep _ _ q; rw [e0] at this; cases this
      · exact (N.grown st) z hz
    · rcases hor with rfl | e0
      · exact hne z
      · rw [← z, (N q hq).1] at e0; cases e0

/-- the glueing lambda -/
theorem glues_lam {g : Heap} {frs : List Env} {lam c' : Addr} {name qual : Str} {params : Arguments} {scope : Scope} {pm ctv : Value} {p1 p2 p3 : Pos} (ho : g.get? lam = some (kla_obj name qual params (.BinOp (.Name (Str.ofString "a") p1) .Add (.Name (Str.ofString "b") p2) p3) scope [] pm c' ctv)) (hcd : g.CodeRec (.ref c') qual)
    (hbind : ∀ x y, bindArgs (kla_fn name qual params (.BinOp (.Name (Str.ofString "a") p1) .Add (.Name (Str.ofString "b") p2) p3) scope [] pm (.ref c') ctv) ⟨[Value.ref x, Value.ref y], []⟩ = pure [(Str.ofString "a", .ref x), (Str.ofString "b", .ref y)])
    (hla : scope.names.lookup (Str.ofString "a") = some .local) (hlb : scope.names.lookup (Str.ofString "b") = some .local) (hco : scope.isCoroutine = false) (hgen : scope.isGenerator = false) (hk : scope.kind = .function) (hcell : ∀ x ∈ scope.names, x.2 ≠ .cell) : Glues w g frs lam := by
  intro dp un gd env s Q E x y vs ws H hdp st hx hy hsz hret
  obtain ⟨p, loose, mean, mg, mb, X, T⟩ := H.get
  refine wpAny_call ?_
  obtain ⟨c₂, oc, cvs, t, e2, hoc, hdc, hv⟩ := hcd
  refine kla_callFunE (by show dp < recursionLimit; omega) (st _ _ ho) rfl hco hgen rfl ⟨c₂, oc, cvs, t, e2, st _ _ hoc, hdc, hv⟩ ?_
  rw [hbind]
  refine wpAny_pure (wpAny_newFunctionEnv hcell (fun z hz => ?_) (fun h₁ hns hsb => ⟨(T.nolimit).fresh _ hsb, ?_⟩) hk)
  · simp only [List.mem_cons, List.not_mem_nil, or_false] at hz
    rcases hz with rfl | rfl
    · exact hla
    · exact hlb
  · have hk₁ : s.heap.StaysIn h₁ := fun b o e => hsb.extBut b o (Nat.ne_of_lt (Heap.lt_size e)) (Heap.get?_push_of_some _ e)
    refine kla_codeExpr ?_
    have F : Fr s.heap s.heap.objs.size h₁ (fun z => [(Str.ofString "a", Value.ref x), (Str.ofString "b", Value.ref y)].reverse.lookup z) := ⟨hns, hk₁, Nat.le_refl _⟩
    have N : News s.heap s.heap.objs.size h₁ [] := News.nil
    refine wpAny_BinOp (wpAny_Name (wpAny_loadName_local hk hla hns (show _ = some (Value.ref x) from rfl) (wpAny_Name (wpAny_loadName_local hk hlb hns (show _ = some (Value.ref y) from rfl) ?_))))
    refine add_K2 F N (stays_list hk₁ hx) (stays_list hk₁ hy) hsz fun D h' F' N' _ => ?_
    have z := N' _ List.mem_cons_self
    exact hret D h' _ F'.keep z.2.2 z.1
end
end Mine
end TKl

section TKc
open PySem PySem.W PySem.Calls PyProof.Rows
namespace Mine
open LCg LCt LCp
section
variable {prog : Program} {w : World} {A : Around} {E : Value → Shared → Prop} {s : Shared} {h₀ : Heap} {L : Addr} {m : Str → Option Value} {env : Env}
/-- the turns, by a relation -/
theorem restG {elt : Expr} {x : Str} {scope : Scope} {cl : List (Str × Addr)} {S : List (Addr × Obj) → Prop} {P : Nat → Value → Prop} {Fin : List Value → List (Addr × Obj) → Prop} {news : List (Addr × Obj)} {n : Nat} (R : Nat → List Value → List (Addr × Obj) → Prop) (h0 : R 0 [] news)
    (turn : Hold (∀ i v ys nws I oI C oC D m₂ h tk (E' : Value → Shared → Prop), i < n → P i v → R i ys nws → NsObj oC m₂ → m₂ x = some v → Fr h₀ L h m → News h₀ L h ((I, oI) :: (C, oC) :: (D, lst ys) :: nws) → Off3 I C D nws → ((@Ne Nat I C) ∧ (@Ne Nat I D) ∧ (@Ne Nat C D)) →
      wpAny (model prog w) A (eval elt (compEnvC scope cl C env)) (CompEnd h₀ L m { s with heap := h, toks := tk } I oI C oC D (lst ys) S (fun y nws' => R (i + 1) (ys ++ [y]) nws')) E' { s with heap := h, toks := tk }))
    (fin : Hold (∀ ys nws, R n ys nws → Fin ys nws)) : CompRest prog w A h₀ L m env elt x scope cl s S P Fin n 0 [] news := by
  unfold Hold at turn fin
  have key : ∀ (j i : Nat) (ys : List Value) (nws : List (Addr × Obj)), i + j = n → R i ys nws → CompRest prog w A h₀ L m env elt x scope cl s S P Fin j i ys nws := by
    intro j
    induction j with
    | zero =>
      intro i ys nws hi hr
      have e : i = n := by omega
      subst e
      exact CompRest.zero (fin ys nws hr)
    | succ j ih =>
      intro i ys nws hi hr
      refine CompRest.succ ?_
      intro v I oI C oC D m₂ h tk E' hv hC hx F N off ne
      refine wpAny_mono (turn i v ys nws I oI C oC D m₂ h tk E' (by omega) hv hr hC hx F N off ne) (fun y s₂ hq => ?_) fun _ _ e => e
      obtain ⟨h', tk', nw, e, F', N', off', hS, hr'⟩ := hq
      exact ⟨h', tk', nw, e, F', N', off', hS, ih (i + 1) _ nw (by omega) hr'⟩
  exact key n 0 [] news (by omega) h0
/-- a filter that keeps nothing -/
theorem restNo {ct elt : Expr} {x : Str} {scope : Scope} {cl : List (Str × Addr)} {S : List (Addr × Obj) → Prop} {P : Nat → Value → Prop} {Fin : List Value → List (Addr × Obj) → Prop} {news : List (Addr × Obj)} {n : Nat}
    (turn : Hold (∀ i v I oI C oC D m₂ h tk (E' : Value → Shared → Prop), i < n → P i v → NsObj oC m₂ → m₂ x = some v → Fr h₀ L h m → News h₀ L h ((I, oI) :: (C, oC) :: (D, lst []) :: news) → Off3 I C D news → ((@Ne Nat I C) ∧ (@Ne Nat I D) ∧ (@Ne Nat C D)) →
      wpAny (model prog w) A (isTrue ct (compEnvC scope cl C env) (eval ct (compEnvC scope cl C env))) (fun ok s' => ok = false ∧ CompEnd h₀ L m { s with heap := h, toks := tk } I oI C oC D (lst []) S (fun _ nws' => nws' = news) Value.none s') E' { s with heap := h, toks := tk }))
    (fin : Hold (Fin [] news)) : CompRestT prog w A h₀ L m env ct elt x scope cl s S P Fin n 0 [] news := by
  unfold Hold at turn fin
  have key : ∀ (j i : Nat), i + j = n → CompRestT prog w A h₀ L m env ct elt x scope cl s S P Fin j i [] news := by
    intro j
    induction j with
    | zero => intro i _; exact CompRestT.zero fin
    | succ j ih =>
      intro i hi
      refine CompRestT.succ ?_
      intro v I oI C oC D m₂ h tk E' hv hC hx F N off ne
      refine wpAny_mono (turn i v I oI C oC D m₂ h tk E' (by omega) hv hC hx F N off ne) (fun ok s₂ hq => ?_) fun _ _ e => e
      obtain ⟨rfl, h', tk', nw, e, F', N', off', hS, hr'⟩ := hq
      subst hr'
      simp only [Bool.false_eq_true, if_false]
      exact ⟨h', tk', _, e, F', N', off', hS, ih (i + 1) (by omega)⟩
  exact key n 0 (by omega)
/-- a pair in a ledger -/
def PairIn (led : List (Addr × Obj)) (v : Value) (ab : Int × Int) : Prop := ∃ (a : Addr) (t u : Tok), v = .ref a ∧ (a, tupObj [Value.int ab.1 t, Value.int ab.2 u]) ∈ led
theorem PairIn.mono {led led' : List (Addr × Obj)} {v : Value} {ab : Int × Int} (h : PairIn led v ab) (hs : ∀ p ∈ led, p ∈ led') : PairIn led' v ab := by
  obtain ⟨a, t, u, e, hm⟩ := h
  exact ⟨a, t, u, e, hs _ hm⟩
/-- the turns over pairs, an int each -/
theorem restP {elt : Expr} {x x₂ : Str} {scope : Scope} {cl : List (Str × Addr)} {S : List (Addr × Obj) → Prop} {P : Nat → Value → Prop} {Fin : List Value → List (Addr × Obj) → Prop} {news : List (Addr × Obj)} {svs : List Value} {prs : List (Int × Int)} (g : Int → Int → Int) (hp : Paired (PairIn news) svs prs) (hP : ∀ i v, P i v → svs[i]? = some v)
    (turn : Hold (∀ a b t u I oI C oC D m₂ ys h tk (E' : Value → Shared → Prop), (a, b) ∈ prs → NsObj oC m₂ → m₂ x = some (.int a t) → m₂ x₂ = some (.int b u) → Fr h₀ L h m → News h₀ L h ((I, oI) :: (C, oC) :: (D, lst ys) :: news) → Off3 I C D news → ((@Ne Nat I C) ∧ (@Ne Nat I D) ∧ (@Ne Nat C D)) →
      wpAny (model prog w) A (eval elt (compEnvC scope cl C env)) (CompEnd h₀ L m { s with heap := h, toks := tk } I oI C oC D (lst ys) S (fun y nws' => KCfEl news (g a b) y nws')) E' { s with heap := h, toks := tk }))
    (fin : Hold (∀ ys, IntsAre ys (prs.map fun ab => g ab.1 ab.2) → Fin ys news)) : CompRestP prog w A h₀ L m env elt x x₂ scope cl s S P Fin svs.length 0 [] news := by
  unfold Hold at turn fin
  have hlen := hp.length
  have key : ∀ (j i : Nat) (ys : List Value), i + j = svs.length → IntsAre ys ((prs.take i).map fun ab => g ab.1 ab.2) → CompRestP prog w A h₀ L m env elt x x₂ scope cl s S P Fin j i ys news := by
    intro j
    induction j with
    | zero =>
      intro i ys hi hy
      rw [List.take_of_length_le (by omega)] at hy
      exact CompRestP.zero (fin ys hy)
    | succ j ih =>
      intro i ys hi hy
      refine CompRestP.succ ?_
      intro v hv
      obtain ⟨⟨a, b⟩, hab, ad, t, u, e, hm⟩ := paired_at hp (hP i v hv)
      refine ⟨ad, _, .int a t, .int b u, 0, e, hm, rfl, rfl, ?_⟩
      intro I oI C oC D m₂ h tk E' hC hx hx₂ F N off ne
      refine wpAny_mono (turn a b t u I oI C oC D m₂ ys h tk E' (List.mem_of_getElem? hab) hC hx hx₂ F N off ne) (fun y s₂ hq => ?_) fun _ _ e => e
      obtain ⟨h', tk', nw, e, F', N', off', hS, hn, t', hy'⟩ := hq
      rw [hn] at N' off' hS
      refine ⟨h', tk', news, e, F', N', off', hS, ?_⟩
      rw [hy']
      refine ih (i + 1) _ (by omega) ?_
      rw [List.take_add_one, hab]
      simp only [Option.toList_some, List.map_append, List.map_cons, List.map_nil]
      exact IntsAre.append hy (.cons (g a b) t' .nil)
  exact key svs.length 0 [] (by omega) (by simpa using IntsAre.nil)

/-- two lists of pairs compared -/
def prD (ab : Int × Int) : PyData := .tuple [.int ab.1, .int ab.2]
theorem prD_eqv (ab : Int × Int) : PyData.eqv (prD ab) (prD ab) = true := by simp [prD, PyData.eqv, PyData.eqvAll]
theorem prD_eqvAll : ∀ ps : List (Int × Int), PyData.eqvAll (ps.map prD) (ps.map prD) = true
  | [] => by simp [PyData.eqvAll]
  | p :: r => by simp [PyData.eqvAll, prD_eqv, prD_eqvAll r]
theorem prD_lay : ∀ ps : List (Int × Int), PyData.canLayAll0 (ps.map prD) = true ∧ PyData.depthAll (ps.map prD) ≤ 2
  | [] => by simp [PyData.canLayAll0, PyData.depthAll]
  | p :: r => by
    have h := prD_lay r
    simp only [List.map_cons, PyData.canLayAll0, PyData.depthAll, prD, PyData.canLay0, PyData.depth, h.1] at *
    refine ⟨by simp, ?_⟩
    have := h.2
    omega
theorem prD_shaped (ps : List (Int × Int)) : SeqAt.shaped (.list (ps.map prD)) = true := by
  have h := prD_lay ps
  show (PyData.canLay0 (.list (ps.map prD)) && decide (PyData.depth (.list (ps.map prD)) ≤ 64)) = true
  rw [Bool.and_eq_true]
  refine ⟨by simp only [PyData.canLay0]; exact h.1, decide_eq_true ?_⟩
  have h2 := h.2
  simp only [PyData.depth]
  omega
theorem prD_reads {h : Heap} {news : List (Addr × Obj)} (N : News h₀ L h news) : ∀ {vs : List Value} {ps : List (Int × Int)}, Paired (PairIn news) vs ps → ∃ as, ReadsAll h vs (ps.map prD) as
  | _, _, .nil => ⟨_, ReadsAll.nil⟩
  | _, _, .cons hd r => by
    obtain ⟨a, t, u, rfl, hm⟩ := hd
    obtain ⟨bs, q⟩ := prD_reads N r
    exact ⟨_, ReadsAll.cons (reads_tuple_at (N _ hm).1 rfl rfl (ReadsAll.cons (Reads.int _ _) (ReadsAll.cons (Reads.int _ _) ReadsAll.nil))) q⟩
theorem ne_pairs {a b : Addr} {vs us : List Value} {n k : Nat} {ps : List (Int × Int)} {news : List (Addr × Obj)} {Q : Value → Shared → Prop} (N : News h₀ L s.heap news) (ha : (a, listOf vs.toArray n) ∈ news) (hb : (b, listOf us.toArray k) ∈ news) (hv : Paired (PairIn news) vs ps) (hu : Paired (PairIn news) us ps) (hun : A.units + 64 < cLine)
    (h : Q (.bool false) s) : wpAny (model prog w) A (compareOp .NotEq (.ref a) (.ref b)) Q E s := by
  obtain ⟨as, r1⟩ := prD_reads N hv
  obtain ⟨bs, r2⟩ := prD_reads N hu
  refine ne_dataH (reads_list_at (N _ ha).1 rfl rfl (by simpa using r1)) (reads_list_at (N _ hb).1 rfl rfl (by simpa using r2)) (prD_shaped ps) (prD_shaped ps) hun ?_
  simp only [PyData.eqv, prD_eqvAll, Bool.not_true]
  exact h
end
end Mine
end TKc

section TPe
open PySem PySem.W PyProof.Rows
namespace Mine
theorem msr_flat (f : Int → Int) (x : List Int) (r : List (List Int)) : msr f (x :: r).flatten = msr f x + msr f r.flatten := by rw [List.flatten_cons, msr_app]
abbrev ltrs (a : Int) (nums : List Int) : List (List Int) := (a :: nums).map fun n => apG n []
theorem steps_msr (f : Int → Int) (g : Int → Int → Int) (hg : ∀ a b, 0 ≤ a → 0 ≤ b → msr f (apG a []) + msr f (apG b []) - msr f (apG (a + b) []) = g a b) : ∀ (nums : List Int) (a : Int), 0 ≤ a → (∀ n ∈ nums, 0 ≤ n ∧ n < 40) →
    msr f (ltrs a nums).flatten - msr f (apG (a + nums.sum) []) = ((stepsL a nums).map fun ab => g ab.1 ab.2).sum
  | [], a, ha, _ => by
    simp only [ltrs, List.map_cons, List.map_nil, msr_flat, List.flatten_nil, msr_nil, List.sum_nil, stepsL, Int.add_zero]
    omega
  | n :: r, a, ha, hn => by
    have hb := (hn n List.mem_cons_self).1
    have ih := steps_msr f g hg r (a + n) (by omega) fun x hx => hn x (List.mem_cons_of_mem _ hx)
    have e := hg a n ha hb
    simp only [ltrs, List.map_cons, msr_flat, List.sum_cons, stepsL] at ih ⊢
    rw [show a + (n + r.sum) = a + n + r.sum by omega]
    omega
theorem sum15 : ∀ ps : List (Int × Int), (ps.map fun ab => 15 * carr ab.1 ab.2).sum = 15 * (ps.map fun ab => carr ab.1 ab.2).sum
  | [] => rfl
  | p :: r => by simp only [List.map_cons, List.sum_cons, sum15 r]; omega
theorem hE1 {nums : List Int} {a : Int} (ha : 0 ≤ a) (hn : ∀ n ∈ nums, 0 ≤ n ∧ n < 40) :
    worth (uld (ltrs a nums).flatten (apG (a + nums.sum) [])).1 - worth (uld (ltrs a nums).flatten (apG (a + nums.sum) [])).2 = 15 * ((stepsL a nums).map fun ab => carr ab.1 ab.2).sum := by
  rw [worth_msr, worth_msr, msr_uld, steps_msr _ (fun a b => 15 * carr a b) (fun a b ha hb => worth_diff ha hb) nums a ha hn, sum15]
theorem hE2 {nums : List Int} {a : Int} (ha : 0 ≤ a) (hn : ∀ n ∈ nums, 0 ≤ n ∧ n < 40) :
    ones (uld (ltrs a nums).flatten (apG (a + nums.sum) [])).1 - ones (uld (ltrs a nums).flatten (apG (a + nums.sum) [])).2 = ((stepsL a nums).map fun ab => twos ab.1 ab.2).sum := by
  rw [ones_msr, ones_msr, msr_uld, steps_msr _ (fun a b => twos a b) (fun a b ha hb => by rw [← ones_msr, ← ones_msr, ← ones_msr]; exact ones_diff ha hb) nums a ha hn]
theorem steps_bound : ∀ (nums : List Int) (a : Int), (∀ n ∈ nums, 0 ≤ n ∧ n < 40) → ∀ ab ∈ stepsL a nums, a ≤ ab.1 ∧ 0 ≤ ab.2 ∧ ab.2 < 40 ∧ ab.1 + ab.2 ≤ a + nums.sum
  | [], _, _, _, h => nomatch h
  | n :: r, a, hn, ab, h => by
    have hb := hn n List.mem_cons_self
    have hs := sum_bound (xs := r) fun x hx => hn x (List.mem_cons_of_mem _ hx)
    rw [List.sum_cons]
    rcases List.mem_cons.mp h with rfl | h
    · exact ⟨Int.le_refl _, hb.1, hb.2, by show a + n ≤ a + (n + r.sum); omega⟩
    · have ih := steps_bound r (a + n) (fun x hx => hn x (List.mem_cons_of_mem _ hx)) ab h
      omega
theorem steps_len : ∀ (nums : List Int) (a : Int), (stepsL a nums).length = nums.length
  | [], _ => rfl
  | n :: r, a => by simp only [stepsL, List.length_cons, steps_len r]
theorem uldGo_len1 : ∀ (xs ys ms : List Int), (uldGo xs ys ms).1.length ≤ xs.length + ms.length
  | [], ys, ms => by simp [uldGo]
  | x :: r, ys, ms => by
    unfold uldGo
    split
    · have := uldGo_len1 r (ys.erase x) ms
      simp only [List.length_cons]; omega
    · have := uldGo_len1 r ys (ms ++ [x])
      simp only [List.length_cons, List.length_append, List.length_nil] at this ⊢; omega
theorem uldGo_len2 : ∀ (xs ys ms : List Int), (uldGo xs ys ms).2.length ≤ ys.length
  | [], ys, ms => by simp [uldGo]
  | x :: r, ys, ms => by
    unfold uldGo
    split
    · exact Nat.le_trans (uldGo_len2 r (ys.erase x) ms) List.length_erase_le
    · exact uldGo_len2 r ys (ms ++ [x])
theorem uld_len1 {xs ys : List Int} (h : xs.length ≤ 100) : (uld xs ys).1.length ≤ 100 := by
  have := uldGo_len1 xs.reverse ys []
  rw [List.length_reverse] at this
  exact Nat.le_trans this (by simpa using h)
theorem uld_len2 {xs ys : List Int} (h : ys.length ≤ 100) : (uld xs ys).2.length ≤ 100 := Nat.le_trans (uldGo_len2 _ _ _) h
theorem ltrs_len : ∀ (nums : List Int), (∀ n ∈ nums, 0 ≤ n ∧ n < 4096) → (nums.map fun n => apG n []).flatten.length ≤ 3 * nums.length
  | [], _ => by simp
  | n :: r, h => by
    have h1 := h n List.mem_cons_self
    have h2 := ltrs_len r fun x hx => h x (List.mem_cons_of_mem _ hx)
    have h3 := ap_3 h1.1 h1.2
    simp only [List.map_cons, List.flatten_cons, List.length_append, List.length_cons]
    omega
theorem ltrs_100 {nums : List Int} {a : Int} (ha : 0 ≤ a) (ha1 : a ≤ 500) (hn : ∀ n ∈ nums, 0 ≤ n ∧ n < 40) (hl : nums.length ≤ 7) : (ltrs a nums).flatten.length ≤ 100 := by
  have := ltrs_len (a :: nums) fun n h => by
    rcases List.mem_cons.mp h with rfl | h
    · omega
    · have := hn n h; omega
  simp only [List.length_cons] at this
  simp only [ltrs]
  omega
abbrev numsL (xs : List Int) : List Int := (xs.take 6).map (fun k => k.fmod 40) ++ [13]
theorem nums_b {xs : List Int} : ∀ n ∈ numsL xs, 0 ≤ n ∧ n < 40 := fun n h => by
  rcases List.mem_append.mp h with h | h
  · obtain ⟨k, _, rfl⟩ := List.mem_map.mp h
    rw [fm2 _ _ (by decide)]; omega
  · rw [List.mem_singleton.mp h]; decide
theorem nums_l {xs : List Int} : (numsL xs).length ≤ 7 := by
  simp only [numsL, List.length_append, List.length_map, List.length_take, List.length_cons, List.length_nil]; omega
theorem steps_snoc {nums : List Int} {a n : Int} {i : Nat} (h : nums[i]? = some n) : stepsL a (nums.take (i + 1)) = stepsL a (nums.take i) ++ [(a + (nums.take i).sum, n)] := by rw [take_snoc h, stepsL_snoc]
end Mine
end TPe

section TKd
open PySem PySem.W PySem.Calls PyProof.Rows
namespace Mine
open LCg
/-- a list of pairs under way: what is new stands behind -/
def PairR (news : List (Addr × Obj)) (c : Addr) (prs : List (Int × Int)) (i : Nat) (ys : List Value) (nws : List (Addr × Obj)) : Prop := ∃ tl, nws = news ++ tl ∧ (∀ q ∈ tl, q.1 ≠ c) ∧ Paired (PairIn tl) ys (prs.take i)
theorem PairR.start {news : List (Addr × Obj)} {c : Addr} {prs : List (Int × Int)} : PairR news c prs 0 [] news := ⟨[], by simp, (fun _ h => nomatch h), .nil⟩
theorem tab_ns {ps : Array Value} : ∀ its n, (tabObj ps).data ≠ .seq its n := fun _ _ e => nomatch e
theorem hold_in {P : Prop} (h : Hold P) : P := h
theorem gen_nums {vs : List Value} {xs : List Int} (h : IntsAre vs ((xs.take 6).map (fun k => k.fmod 40) ++ [13])) : ∃ nums, IntsAre vs nums ∧ (∀ n ∈ nums, 0 ≤ n ∧ n < 40) ∧ nums.length ≤ 7 := ⟨_, h, nums_b, nums_l⟩
theorem news_thin {h₀ : Heap} {L : Addr} {h : Heap} {a b c d e f g k i j : Addr × Obj} {l : List (Addr × Obj)} (N : News h₀ L h (a :: b :: c :: d :: e :: f :: g :: k :: i :: j :: l)) : News h₀ L h (a :: b :: e :: i :: j :: l) := fun p hp => N p (by
  simp only [List.mem_cons] at hp ⊢
  rcases hp with h | h | h | h | h | h <;> simp [h])
theorem nat_nn (i : Nat) : 0 ≤ (i : Int) := Int.natCast_nonneg i
theorem steps_at {nums : List Int} {a : Int} {i : Nat} (h : i < nums.length) : (stepsL a nums)[i]? = some (a + (nums.take (i : Int).toNat).sum, nums.getD (i : Int).toNat 0) := by
  rw [Int.toNat_natCast]
  induction nums generalizing a i with
  | nil => exact absurd h (Nat.not_lt_zero _)
  | cons n r ih =>
    cases i with
    | zero => simp [stepsL]
    | succ i =>
      simp only [stepsL, List.getElem?_cons_succ, List.take_succ_cons, List.sum_cons]
      rw [ih (by simpa using h)]
      simp [Int.add_assoc]
theorem pair_el {h₀ h' : Heap} {L I C D T : Addr} {m : Str → Option Value} {s₁ : Shared} {oI oC oD : Obj} {S : List (Addr × Obj) → Prop} {news tl all : List (Addr × Obj)} {c : Addr} {prs : List (Int × Int)} {i : Nat} {ys : List Value} {a b : Int} {t u : Tok} {tk : Nat}
    (hoff : ∀ q ∈ tl, q.1 ≠ c) (hpr : Paired (PairIn tl) ys (prs.take i)) (hab : prs[i]? = some (a, b)) (F : Fr h₀ L h' m) (N : News h₀ L h' all) (hT : (T, tupObj [.int a t, .int b u]) ∈ all) (hsub : ∀ p ∈ (I, oI) :: (C, oC) :: (D, oD) :: (news ++ tl), p ∈ all)
    (off : Off3 I C D (news ++ tl)) (hI : I < T) (hC : C < T) (hD : D < T) (hc : c < T) (hS : S (news ++ ((T, tupObj [.int a t, .int b u]) :: tl))) :
    CompEnd h₀ L m s₁ I oI C oC D oD S (fun y nws' => PairR news c prs (i + 1) (ys ++ [y]) nws') (.ref T) { s₁ with heap := h', toks := tk } := by
  refine CompEnd.intro F N (news ++ ((T, tupObj [.int a t, .int b u]) :: tl)) (fun p hp => ?_) (Off3.of fun p hp => ?_) hS ⟨_, rfl, fun q hq => ?_, ?_⟩
  · simp only [List.mem_cons, List.mem_append] at hp
    rcases hp with h | h | h | h | h | h
    · exact hsub p (h ▸ .head _)
    · exact hsub p (h ▸ .tail _ (.head _))
    · exact hsub p (h ▸ .tail _ (.tail _ (.head _)))
    · exact hsub p (.tail _ (.tail _ (.tail _ (List.mem_append_left _ h))))
    · exact h ▸ hT
    · exact hsub p (.tail _ (.tail _ (.tail _ (List.mem_append_right _ h))))
  · rcases List.mem_append.mp hp with h | h
    · exact off.mem p (List.mem_append_left _ h)
    · rcases List.mem_cons.mp h with rfl | h
      · exact ⟨Ne.symm (Nat.ne_of_lt hI), Ne.symm (Nat.ne_of_lt hC), Ne.symm (Nat.ne_of_lt hD)⟩
      · exact off.mem p (List.mem_append_right _ h)
  · rcases List.mem_cons.mp hq with rfl | hq
    · exact Ne.symm (Nat.ne_of_lt hc)
    · exact hoff q hq
  · rw [List.take_add_one, hab]
    exact Paired.snoc (paired_mono (fun v ab hv => hv.mono fun p hp => .tail _ hp) hpr) ⟨T, t, u, rfl, .head _⟩
/-- a list under way: what is new stands behind -/
def GenR {α : Type} (El : List (Addr × Obj) → Value → α → Prop) (news : List (Addr × Obj)) (c : Addr) (prs : List α) (i : Nat) (ys : List Value) (nws : List (Addr × Obj)) : Prop := ∃ tl, nws = news ++ tl ∧ (∀ q ∈ tl, q.1 ≠ c) ∧ Paired (El tl) ys (prs.take i)
theorem GenR.start {α : Type} {El : List (Addr × Obj) → Value → α → Prop} {news : List (Addr × Obj)} {c : Addr} {prs : List α} : GenR El news c prs 0 [] news := ⟨[], by simp, (fun _ h => nomatch h), .nil⟩
theorem gen_el {α : Type} {El : List (Addr × Obj) → Value → α → Prop} {h₀ h' : Heap} {L I C D T : Addr} {m : Str → Option Value} {s₁ : Shared} {oI oC oD o : Obj} {S : List (Addr × Obj) → Prop} {news tl all : List (Addr × Obj)} {c : Addr} {prs : List α} {i : Nat} {ys : List Value} {a : α} {tk : Nat}
    (mono : ∀ {tl tl' v a}, El tl v a → (∀ p ∈ tl, p ∈ tl') → El tl' v a) (hel : El ((T, o) :: tl) (.ref T) a)
    (hoff : ∀ q ∈ tl, q.1 ≠ c) (hpr : Paired (El tl) ys (prs.take i)) (hab : prs[i]? = some a) (F : Fr h₀ L h' m) (N : News h₀ L h' all) (hT : (T, o) ∈ all) (hsub : ∀ p ∈ (I, oI) :: (C, oC) :: (D, oD) :: (news ++ tl), p ∈ all)
    (off : Off3 I C D (news ++ tl)) (hI : I < T) (hC : C < T) (hD : D < T) (hc : c < T) (hS : S (news ++ ((T, o) :: tl))) :
    CompEnd h₀ L m s₁ I oI C oC D oD S (fun y nws' => GenR El news c prs (i + 1) (ys ++ [y]) nws') (.ref T) { s₁ with heap := h', toks := tk } := by
  refine CompEnd.intro F N (news ++ ((T, o) :: tl)) (fun p hp => ?_) (Off3.of fun p hp => ?_) hS ⟨_, rfl, fun q hq => ?_, ?_⟩
  · simp only [List.mem_cons, List.mem_append] at hp
    rcases hp with h | h | h | h | h | h
    · exact hsub p (h ▸ .head _)
    · exact hsub p (h ▸ .tail _ (.head _))
    · exact hsub p (h ▸ .tail _ (.tail _ (.head _)))
    · exact hsub p (.tail _ (.tail _ (.tail _ (List.mem_append_left _ h))))
    · exact h ▸ hT
    · exact hsub p (.tail _ (.tail _ (.tail _ (List.mem_append_right _ h))))
  · rcases List.mem_append.mp hp with h | h
    · exact off.mem p (List.mem_append_left _ h)
    · rcases List.mem_cons.mp h with rfl | h
      · exact ⟨Ne.symm (Nat.ne_of_lt hI), Ne.symm (Nat.ne_of_lt hC), Ne.symm (Nat.ne_of_lt hD)⟩
      · exact off.mem p (List.mem_append_right _ h)
  · rcases List.mem_cons.mp hq with rfl | hq
    · exact Ne.symm (Nat.ne_of_lt hc)
    · exact hoff q hq
  · rw [List.take_add_one, hab]
    exact Paired.snoc (paired_mono (fun v ab hv => mono hv fun p hp => .tail _ hp) hpr) hel
theorem pair_elG {h₀ h' : Heap} {L I C D T : Addr} {m : Str → Option Value} {s₁ : Shared} {oI oC oD : Obj} {S : List (Addr × Obj) → Prop} {news tl all : List (Addr × Obj)} {c : Addr} {prs : List (Int × Int)} {i : Nat} {ys : List Value} {a b : Int} {t u : Tok} {tk : Nat}
    (hoff : ∀ q ∈ tl, q.1 ≠ c) (hpr : Paired (PairIn tl) ys (prs.take i)) (hab : prs[i]? = some (a, b)) (F : Fr h₀ L h' m) (N : News h₀ L h' all) (hT : (T, tupObj [.int a t, .int b u]) ∈ all) (hsub : ∀ p ∈ (I, oI) :: (C, oC) :: (D, oD) :: (news ++ tl), p ∈ all)
    (off : Off3 I C D (news ++ tl)) (hI : I < T) (hC : C < T) (hD : D < T) (hc : c < T) (hS : S (news ++ ((T, tupObj [.int a t, .int b u]) :: tl))) :
    CompEnd h₀ L m s₁ I oI C oC D oD S (fun y nws' => GenR PairIn news c prs (i + 1) (ys ++ [y]) nws') (.ref T) { s₁ with heap := h', toks := tk } :=
  gen_el (fun h hs => PairIn.mono h hs) ⟨T, t, u, rfl, .head _⟩ hoff hpr hab F N hT hsub off hI hC hD hc hS
theorem lis_el {h₀ h' : Heap} {L I C D T : Addr} {m : Str → Option Value} {s₁ : Shared} {oI oC oD : Obj} {S : List (Addr × Obj) → Prop} {news tl all : List (Addr × Obj)} {c : Addr} {prs : List (List Int)} {i n : Nat} {ys vs : List Value} {ns : List Int} {tk : Nat}
    (hoff : ∀ q ∈ tl, q.1 ≠ c) (hpr : Paired (LisIn tl) ys (prs.take i)) (hab : prs[i]? = some ns) (hi : IntsAre vs ns) (F : Fr h₀ L h' m) (N : News h₀ L h' all) (hT : (T, listOf vs.toArray n) ∈ all) (hsub : ∀ p ∈ (I, oI) :: (C, oC) :: (D, oD) :: (news ++ tl), p ∈ all)
    (off : Off3 I C D (news ++ tl)) (hI : I < T) (hC : C < T) (hD : D < T) (hc : c < T) (hS : S (news ++ ((T, listOf vs.toArray n) :: tl))) :
    CompEnd h₀ L m s₁ I oI C oC D oD S (fun y nws' => GenR LisIn news c prs (i + 1) (ys ++ [y]) nws') (.ref T) { s₁ with heap := h', toks := tk } :=
  gen_el (fun h hs => LisIn.mono h hs) ⟨T, vs, n, rfl, .head _, hi⟩ hoff hpr hab F N hT hsub off hI hC hD hc hS
theorem tup_in {h₀ : Heap} {L a : Addr} {h : Heap} {vs : List Value} {news : List (Addr × Obj)} (N : News h₀ L h news) (hm : (a, tupObj vs) ∈ news) : IsTup h a vs.toArray := ⟨_, (N _ hm).1, rfl, _, rfl⟩
section
variable {prog : Program} {w : World} {A : Around} {E : Value → Shared → Prop} {s : Shared} {h₀ : Heap} {L : Addr} {m : Str → Option Value} {news tl tl' : List (Addr × Obj)} {Q : Value → Shared → Prop}
theorem ne_pairs2 {a b : Addr} {vs us : List Value} {n k : Nat} {ps : List (Int × Int)} (N : News h₀ L s.heap news) (ha : (a, listOf vs.toArray n) ∈ news) (hb : (b, listOf us.toArray k) ∈ news) (hv : Paired (PairIn tl) vs ps) (hu : Paired (PairIn tl') us ps) (hs : ∀ p ∈ tl, p ∈ news) (hs' : ∀ p ∈ tl', p ∈ news) (hun : A.units + 64 < cLine)
    (h : Q (.bool false) s) : wpAny (model prog w) A (compareOp .NotEq (.ref a) (.ref b)) Q E s :=
  ne_pairs N ha hb (paired_mono (fun _ _ h => h.mono hs) hv) (paired_mono (fun _ _ h => h.mono hs') hu) hun h
theorem ne_nils {a b : Addr} {n k : Nat} (N : News h₀ L s.heap news) (ha : (a, listOf ([] : List Value).toArray n) ∈ news) (hb : (b, listOf ([] : List Value).toArray k) ∈ news) (hun : A.units + 64 < cLine)
    (h : Q (.bool false) s) : wpAny (model prog w) A (compareOp .NotEq (.ref a) (.ref b)) Q E s :=
  ne_eqK (PySem.IsL.isList (n := n) (N _ ha).1) .nil (PySem.IsL.isList (n := k) (N _ hb).1) .nil hun rfl h
theorem eq_intK {x y : Int} {t u : Tok} (e : x = y) (h : Q (.bool true) s) : wpAny (model prog w) A (compareOp .Eq (.int x t) (.int y u)) Q E s := by
  subst e
  exact PyProof.Rows.eq_int (by simpa using h)
theorem ne_intK {x y : Int} {t u : Tok} (e : x = y) (h : Q (.bool false) s) : wpAny (model prog w) A (compareOp .NotEq (.int x t) (.int y u)) Q E s := by
  subst e
  exact PyProof.Rows.ne_int (by simpa using h)
end
section
variable {w : World} {h₀ : Heap} {frs : List Env} {L : Addr} {m : Str → Option Value} {news : List (Addr × Obj)} {dp un : Nat} {gd : Option (List Code)} {s : Shared} {Q E : Value → Shared → Prop}
theorem K_right (H : Sd w frs s.heap) (F : Fr h₀ L s.heap m) (N : News h₀ L s.heap news) (hdp : dp + 4 < recursionLimit) (hun : un + 100 < cLine)
    {ro lk mo : Addr} {a b : Int} {t4 t5 : Tok} {ms rs : List Value} {k1 k2 : Nat} (hro : (ro, tupObj [Value.int a t4, Value.int b t5, Value.ref lk, Value.ref mo]) ∈ news) (hlk : (lk, listOf ms.toArray k1) ∈ news) (hmo : (mo, listOf rs.toArray k2) ∈ news) (hms : IntsAre ms (uldL a b)) (hrs : IntsAre rs (uldM a b))
    (ha : 0 ≤ a) (hb : 0 ≤ b) (hb1 : b < 40) (hab : a + b < 4096) (h : ∀ h' tk', Fr h₀ L h' m → News h₀ L h' news → Q (.bool true) { s with heap := h', toks := tk' }) :
    wpAny (model PySem.Challenge.rw_oc0020_01.prog w) (Ar dp un gd frs) (call (.ref 83) [.ref ro]) Q E s := by
  have hla := ap_3 ha (show a < 4096 by omega)
  have hlb := ap_3 hb (show b < 4096 by omega)
  have hlab := ap_3 (show 0 ≤ a + b by omega) hab
  refine C_right H hdp (tup_in N hro) (PySem.IsL.isList (n := k1) (N _ hlk).1) (PySem.IsL.isList (n := k2) (N _ hmo).1) hms hrs (uld_len1 (len_2 hla hlb)) (uld_len2 (len_1 hlab)) ha hb (by omega) (by omega) (by omega) hab (by omega) hun ?_ (uld_more _ _) (hP3 ha hb) (hP4 ha hb) fun h' tk' st => h h' tk' (F.keeps st) (N.grown st)
  show (uld _ _).1 = _
  rw [uld_lack, List.length_append]
end
end Mine
end TKd

section TC12
open PySem PySem.W PySem.Calls PyProof.Rows
namespace Mine
local macro_rules | `(tactic| k_all) => `(tactic| assumption)
local macro_rules | `(tactic| walk_at "call ref") => `(tactic| (k_here; (with_reducible show wpAny _ _ (call (Value.ref 37) [Value.ref _, Value.ref _, Value.ref _]) _ _ _); refine hold_in ?_))
local macro_rules | `(tactic| walk_at "call ref") => `(tactic| (k_here; (with_reducible show wpAny _ _ (call (Value.ref 21) [Value.int _ _]) _ _ _); k_dflt (refine' K_ap (Sd.law ?X ?T ?F0 ?N0 ?f0 ?k0) ?k2 ?k8 ?kd ?kp ?kq ?_; (case X => k_asm); (case T => k_asm); (case F0 => k_asm); (case N0 => k_asm); (case f0 => rfl); (case k0 => rfl); (case k2 => k_asm); (case k8 => k_asm); (case kd => ktr_room); (case kp => assumption); (case kq => assumption)); intro b9 t9 h9 tk9 hB' hB3' F' N'; (try dsimp only); (try k_sweep)))
local macro_rules | `(tactic| walk_at "call type:list") => `(tactic| (k_here; (with_reducible show wpAny _ _ (call (Value.type _) [Value.bytes _ _]) _ _ _); k_dflt (refine' list_bytesK ?hh ?F ?N _ _ ?hx ?hn ?_; (case hh => rfl); (case F => k_asm); (case N => k_asm); (case hx => assumption); (case hn => exact Nat.le_trans (by assumption) (by decide)); k_whole); intro D' h' tk' vs' c' F' N' l1 hI'; (try k_lt l1); (try dsimp only); (try k_sweep)))
local macro_rules | `(tactic| walk_at "exec Assign cons ListComp") => `(tactic| (k_here; k_dflt (refine LCg.Assign_ListComp_U (F₀ := by k_asm) (by rfl) (by with_unfolding_all rfl) (by with_unfolding_all rfl) (by decide) (by rfl) (by decide) (by rfl) (by rfl) (by rfl) ?_)))
local macro_rules | `(tactic| walk_at "eval ListComp") => `(tactic| (k_here; (with_reducible show wpAny _ _ (eval (Expr.ListComp (Expr.Tuple _ _ _) _ _ _) _) _ _ _); k_dflt (refine LCg.ListComp_U (F₀ := by k_asm) (by with_unfolding_all rfl) (by decide) (by rfl) (by decide) (by rfl) ?_)))
local macro_rules | `(tactic| walk_at "eval ListComp") => `(tactic| (k_here; (with_reducible show wpAny _ _ (eval (Expr.ListComp (Expr.Name _ _) _ _ _) _) _ _ _); refine hold_in ?_))
local macro_rules | `(tactic| walk_at "CompSrc") => `(tactic| (k_here; (with_reducible show LCg.CompSrc _ _ _ _ _ _ _ (Expr.Tuple _ _ _) _ _ _ _ _ _); refine hold_in ?_))
local macro_rules | `(tactic| walk_at "CompSrc") => `(tactic| (k_here; (with_reducible show LCg.CompSrc _ _ _ _ _ _ _ (Expr.Call _ _ _ _) _ _ _ _ _ _); refine hold_in ?_))
local macro_rules | `(tactic| walk_at "pyIter ref") => `(tactic| (k_here; refine hold_in ?_))
local macro_rules | `(tactic| walk_at "subscriptTail Name Slice ref ref") => `(tactic| (k_here; (with_reducible show wpAny _ _ (subscriptTail _ (Expr.Slice none (some (Expr.Name _ _)) none _) (Value.ref _) (Value.ref _)) _ _ _); (rename Fr _ _ _ _ => fS9); (rename News _ _ _ _ => nS9); k_dflt (refine' sq_upto (s := ⟨_, _, _, _, _⟩) fS9 nS9 ?m ?i ?h0 ?z ?_ ?hs ?ht; (case m => k_mem); (case i => assumption); (case h0 => assumption); (case z => assumption); (case hs => with_unfolding_all rfl); (case ht => (intro _; with_unfolding_all rfl))); intro D' ws' h' F' N' l1 hW'; (try k_lt l1); (try dsimp only); (try k_sweep)))
local macro_rules | `(tactic| walk_at "subscriptTail Name Name ref int") => `(tactic| (k_here; (with_reducible show wpAny _ _ (subscriptTail _ _ (Value.ref _) (Value.int _ _)) _ _ _); k_dflt (refine' sq_at (PySem.IsL.isList (News.get ?N ?m)) ?i ?h0 ?h1 ?z ?_; (case N => k_asm); (case m => k_mem); (case i => assumption); (case h0 => assumption); (case h1 => assumption); (case z => assumption)); intro t'))
local macro_rules | `(tactic| walk_at "subscriptTail Name Constant ref int") => `(tactic| (k_here; (with_reducible show wpAny _ _ (subscriptTail _ _ (Value.ref _) (Value.int _ _)) _ _ _); k_dflt (refine' item_tupleT (tup_in ?N ?m) ?a ?b ?c ?d ?_; (case N => k_asm); (case m => kst_mem); (case a => decide); (case b => decide); (case c => rfl); (case d => rfl); k_whole)))
local macro_rules | `(tactic| walk_at "compareOp NotEq ref ref") => `(tactic| (k_here; k_dflt (first
  | (refine' ne_pairs2 ?N ?ha ?hb ?hv ?hu ?s1 ?s2 ?u ?_; (case N => k_asm); (case ha => k_mem); (case hb => k_mem); (case hv => assumption); (case hu => assumption); (case s1 => (intro q hq; kst_mem)); (case s2 => (intro q hq; kst_mem)); (case u => ke_room))
  | (refine' ne_nils ?N ?ha ?hb ?u ?_; (case N => k_asm); (case ha => k_mem); (case hb => k_mem); (case u => ke_room)))))
local macro_rules | `(tactic| walk_at "call ref") => `(tactic| (k_here; (with_reducible show wpAny _ _ (call (Value.ref 83) [Value.ref _]) _ _ _); refine hold_in ?_))
theorem news_thin2 {h₀ : Heap} {L : Addr} {h : Heap} {x a b c d e f : Addr × Obj} {l l' : List (Addr × Obj)} (N : News h₀ L h (x :: a :: b :: c :: d :: e :: f :: (l ++ l'))) : News h₀ L h (a :: b :: c :: d :: e :: f :: l) := fun p hp => N p (by
  simp only [List.mem_cons, List.mem_append] at hp ⊢
  rcases hp with h | h | h | h | h | h | h <;> simp [h])
theorem news_thin3 {h₀ : Heap} {L : Addr} {h : Heap} {a1 a2 f c l z ds tp rl dn lc t85 : Addr × Obj} {bg : List (Addr × Obj)} (N : News h₀ L h (a1 :: a2 :: f :: c :: l :: z :: ds :: tp :: rl :: dn :: lc :: t85 :: bg)) : News h₀ L h (a1 :: f :: c :: ds :: tp :: t85 :: bg) := fun p hp => N p (by
  simp only [List.mem_cons] at hp ⊢
  rcases hp with h | h | h | h | h | h | h <;> simp [h])
theorem ltr_b {nums : List Int} (hn : ∀ n ∈ nums, 0 ≤ n ∧ n < 40) : ∀ n ∈ [250] ++ nums, 0 ≤ n ∧ n < 4096 := fun n h => by
  rcases List.mem_append.mp h with h | h
  · rw [List.mem_singleton.mp h]; decide
  · have := hn n h; omega
theorem ltr_at {nums : List Int} {i : Nat} {n : Int} (h : ([250] ++ nums)[i]? = some n) : (ltrs 250 nums)[i]? = some (apG n []) := by
  have e : (250 :: nums)[i]? = some n := h
  simp only [ltrs, List.getElem?_map, e, Option.map_some]
theorem news_thin4 {h₀ : Heap} {L : Addr} {h : Heap} {x l0 dl a1 f c ds tp t85 : Addr × Obj} {bg tl : List (Addr × Obj)} (N : News h₀ L h (x :: l0 :: dl :: a1 :: f :: c :: ds :: tp :: t85 :: (bg ++ tl))) : News h₀ L h (x :: ds :: tp :: t85 :: bg) := fun p hp => N p (by
  simp only [List.mem_cons, List.mem_append] at hp ⊢
  rcases hp with h | h | h | h | h <;> simp [h])
local macro_rules | `(tactic| walk_at "call ref") => `(tactic| (k_here; (with_reducible show wpAny _ _ (call (Value.ref 28) [Value.ref _, Value.ref _]) _ _ _); refine hold_in ?_))
local macro_rules | `(tactic| walk_at "SrcLP") => `(tactic| (k_here; refine hold_in ?_))
local macro_rules | `(tactic| walk_at "call ref") => `(tactic| (k_here; k_dflt (first
  | (refine' K_worth (Sd.law ?X ?T ?F0 ?N0 ?f0 ?k0) ?k2 ?k8 ?kd (PySem.IsL.isList (News.get ?N ?m)) ?i ?z ?_; (case X => k_asm); (case T => k_asm); (case F0 => k_asm); (case N0 => k_asm); (case f0 => rfl); (case k0 => rfl); (case k2 => k_asm); (case k8 => k_asm); (case kd => ktr_room); (case N => k_asm); (case m => k_mem); (case i => assumption); (case z => assumption))
  | (refine' K_ones (Sd.law ?X ?T ?F0 ?N0 ?f0 ?k0) ?k2 ?k8 ?kd (PySem.IsL.isList (News.get ?N ?m)) ?i ?z ?_; (case X => k_asm); (case T => k_asm); (case F0 => k_asm); (case N0 => k_asm); (case f0 => rfl); (case k0 => rfl); (case k2 => k_asm); (case k8 => k_asm); (case kd => ktr_room); (case N => k_asm); (case m => k_mem); (case i => assumption); (case z => assumption))
  | (refine' K_carr (Sd.law ?X ?T ?F0 ?N0 ?f0 ?k0) ?k2 ?k8 ?kd ?a ?b ?_; (case X => k_asm); (case T => k_asm); (case F0 => k_asm); (case N0 => k_asm); (case f0 => rfl); (case k0 => rfl); (case k2 => k_asm); (case k8 => k_asm); (case kd => ktr_room); (case a => assumption); (case b => assumption))
  | (refine' K_twos (Sd.law ?X ?T ?F0 ?N0 ?f0 ?k0) ?k2 ?k8 ?kd ?a ?b ?c ?_; (case X => k_asm); (case T => k_asm); (case F0 => k_asm); (case N0 => k_asm); (case f0 => rfl); (case k0 => rfl); (case k2 => k_asm); (case k8 => k_asm); (case kd => ktr_room); (case a => assumption); (case b => assumption); (case c => assumption))); intro t9 h9 tk9 F' N'; (try dsimp only); (try k_sweep)))
local macro_rules | `(tactic| walk_at "compareOp NotEq int int") => `(tactic| (k_here; (refine ne_intK (by assumption) ?_)))
local macro_rules | `(tactic| walk_at "compareOp Eq int int") => `(tactic| (k_here; (refine eq_intK (by assumption) ?_)))
theorem keep_in {a e d t c q : Addr × Obj} {bg : List (Addr × Obj)} (h : q ∈ d :: c :: bg) : q ∈ a :: e :: d :: t :: c :: bg := by
  simp only [List.mem_cons] at h ⊢
  rcases h with h | h | h <;> simp [h]
theorem keep_ne {d c : Addr} {od oc : Obj} {x : Addr} {bg : List (Addr × Obj)} (h1 : d ≠ x) (h2 : c ≠ x) (h3 : ∀ q ∈ bg, q.1 ≠ x) : ∀ q ∈ (d, od) :: (c, oc) :: bg, q.1 ≠ x := fun q hq => by
  rcases List.mem_cons.mp hq with rfl | hq
  · exact h1
  · rcases List.mem_cons.mp hq with rfl | hq
    · exact h2
    · exact h3 q hq
set_option maxRecDepth 100000 in
set_option maxHeartbeats 4000000 in
theorem C_law : PySem.Challenge.rw_oc0020_01.Holds := hd (by
  w_top off
  k_go0
  all_goals try k_fold
  k_with_none
  k_steps
  unfold Hold
  rename Fr _ _ _ _ => F1
  rename News _ _ _ _ => N1
  rename IntsAre _ (_ ++ [13]) => hNum
  rename (_ ∧ _ ∧ _ ∧ _ ∧ _ ∧ _ ∧ 85 < _) => hLt
  rename _ = Data.cell _ => hCell
  rename Top _ _ _ _ _ (ghostOf _ _) => T1
  rename Frag.In _ _ => X1
  obtain ⟨nums, hNums, hNb, hNl⟩ := gen_nums hNum
  clear hNum
  k_dflt (refine K_red (c := 85) (oc := tabObj #[]) X1 T1 F1 N1 rfl rfl ?hdp (k1 := 0) (.tail _ (.tail _ (.head _))) hNums (.head _) (.tail _ (.head _)) ?hi (by decide) (by decide) hNb hNl ?hc tab_ns ?_)
  case hdp => ktr_room
  case hi => k_ne
  case hc => k_dflt k_mem
  intro tp rl rows led tt kk h2 tk2 F2 N2 n1 n2 offL hRows hRlen
  clear F1 N1 hLt
  simp only [List.cons_append, List.nil_append] at N2
  replace N2 := news_thin N2
  k_steps
  unfold Hold
  rename Fr _ _ _ _ => F3
  rename News _ _ _ _ => N3
  rename IsRange _ _ _ _ _ _ _ _ => hR3
  have hN100 : nums.length ≤ 100 := Nat.le_trans hNl (by decide)
  refine LCg.CompSrc.range rfl F3 N3 hR3 (up_sm hN100) (rangeSize_nat _ _) (up_sz hN100) fun g3 => ?_
  refine restG (GenR PairIn _ 85 (stepsL 250 nums)) GenR.start ?turn ?fin
  case turn =>
    clear F3 N3 hR3
    unfold Hold
    intro i v ys nws I oI C oC D m₂ h tk E' hi hv hR hC hx F N off ne
    obtain ⟨tl, rfl, hoff, hpr⟩ := hR
    obtain ⟨t, rfl⟩ := hv
    rw [Int.zero_add] at hx
    have hk0 := nat_nn i
    have hk1 : (i : Int) < (nums.length : Int) := by omega
    simp only [List.cons_append] at N
    (try k_fold)
    k_steps
    rename Fr _ _ _ _ => F9
    rename News _ _ _ _ => N9
    rename (_ ∧ I < _ ∧ C < _ ∧ D < _ ∧ _ ∧ _ ∧ _ ∧ _ ∧ 85 < _ ∧ _) => l9
    exact pair_elG hoff hpr (steps_at (by omega)) F9 N9 (.head _) (fun p hp => .tail _ (.tail _ hp)) off l9.2.1 l9.2.2.1 l9.2.2.2.1 l9.2.2.2.2.2.2.2.2.1 trivial
  unfold Hold
  rintro svs nws ⟨tl, rfl, hoffT, hSt⟩
  intro Ds h3 tk3 F4 N4 o4
  rw [List.take_of_length_le (by rw [steps_len]; omega)] at hSt
  have n4 : @Ne Nat 85 Ds := o4.2.2.2.2.1
  simp only [List.cons_append] at N4
  clear F3 N3 hR3 o4
  replace hRows := paired_mono (G := RowIn (led ++ tl)) (fun v ab hv => hv.mono fun p hp => List.mem_append_left _ hp) hRows
  replace hSt := paired_mono (G := PairIn (led ++ tl)) (fun v ab hv => hv.mono fun p hp => List.mem_append_right _ hp) hSt
  have offS : ∀ q ∈ led ++ tl, q.1 ≠ 85 := fun q hq => (List.mem_append.mp hq).elim (offL q) (hoffT q)
  clear hoffT offL
  generalize led ++ tl = bg at N4 hRows hSt offS
  k_steps
  unfold Hold
  rename Fr _ _ _ _ => F5
  rename News _ _ _ _ => N5
  clear F4 N4
  have hrsz : rows.toArray.size ≤ sizeLine := by rw [List.size_toArray, hRlen, PySem.sizeLine_eq]; omega
  refine LCg.CompSrc.ledger rfl F5 N5 (.tail _ (.tail _ (.head _))) hrsz fun g5 => ?_
  refine restG (GenR PairIn _ 85 (stepsL 250 nums)) GenR.start ?turn2 ?fin2
  case turn2 =>
    clear F5 N5
    unfold Hold
    intro i v ys nws I oI C oC D m₂ h tk E' hi hv hR hC hx F N off ne
    obtain ⟨tl, rfl, hoff, hpr⟩ := hR
    obtain ⟨⟨ra, rb⟩, hab, ro, lk, mo, ms, rs, k1, k2, t4, t5, rfl, hro, hlk, hmo, hms, hrs⟩ := paired_at hRows (by simpa using hv)
    replace hro := List.mem_append_left tl hro
    simp only [List.cons_append] at N
    (try k_fold)
    k_steps
    rename Fr _ _ _ _ => F9
    rename News _ _ _ _ => N9
    rename (I < _ ∧ C < _ ∧ D < _ ∧ _ ∧ _ ∧ _ ∧ _ ∧ _ ∧ 85 < _ ∧ _) => l9
    exact pair_elG hoff hpr hab F9 N9 (.head _) (fun p hp => .tail _ hp) off l9.1 l9.2.1 l9.2.2.1 l9.2.2.2.2.2.2.2.2.1 (.inr ⟨_, List.mem_append_left _ (.tail _ (.tail _ (.head _))), rfl, _, rfl⟩)
  unfold Hold
  rintro rvs nws ⟨tl, rfl, hoffT, hRv⟩
  intro Da h5 tk5 F6 N6 o6
  rw [List.take_of_length_le (by rw [steps_len, List.size_toArray]; omega)] at hRv
  simp only [List.cons_append] at N6
  clear F5 N5 o6
  k_steps
  unfold Hold
  rename Fr _ _ _ _ => F7
  rename News _ _ _ _ => N7
  replace N7 := news_thin2 N7
  clear hRv hoffT
  k_dflt (refine ListComp_WT F7 (by with_unfolding_all rfl) (by decide) (by rfl) (by decide) (by rfl) ?_)
  k_steps
  unfold Hold
  rename Fr _ _ _ _ => F8
  rename News _ _ _ _ => N8
  refine src_list rfl F8 N8 (.inr ⟨_, .tail _ (.tail _ (.head _)), rfl, _, rfl⟩) hrsz ?_
  intro g8 I8 St8 hSrc
  refine ⟨_, _, _, _, _, _, _, rfl, hSrc, ?_⟩
  clear hSrc
  have hsum := sum_bound hNb
  refine restNo ?turn3 ?fin3
  case turn3 =>
    clear F8 N8
    unfold Hold
    intro i v I oI C oC D m₂ h tk E' hi hv hC hx F N off ne
    obtain ⟨⟨ra, rb⟩, hab, ro, lk, mo, ms, rs, k1, k2, t4, t5, rfl, hro, hlk, hmo, hms, hrs⟩ := paired_at hRows (by simpa using hv)
    have hbd := steps_bound nums 250 hNb _ (List.mem_of_getElem? hab)
    dsimp only at hbd hms hrs hro hlk hmo
    have hra : 0 ≤ ra := by omega
    have hrb : 0 ≤ rb := hbd.2.1
    have hrb1 : rb < 40 := hbd.2.2.1
    have hrab : ra + rb < 4096 := by omega
    clear ne hbd
    (try k_fold)
    k_steps
    unfold Hold
    k_dflt (refine' K_right (Sd.law ?X ?T ?F0 ?N0 ?f0 ?k0) ?F ?N ?hdp ?hun ?hro ?hlk ?hmo ?hms ?hrs ?ha ?hb ?hb1 ?hab ?_)
    (case X => k_asm)
    (case T => k_asm)
    (case F0 => k_asm)
    (case N0 => k_asm)
    (case f0 => k_dflt rfl)
    (case k0 => k_dflt rfl)
    (case F => k_asm)
    (case N => k_asm)
    (case hdp => ktr_room)
    (case hun => k_dflt (exact Nat.le_of_ble_eq_true rfl))
    (case hro => kst_mem)
    (case hlk => kst_mem)
    (case hmo => kst_mem)
    (case hms => assumption)
    (case hrs => assumption)
    (case ha => assumption)
    (case hb => assumption)
    (case hb1 => assumption)
    (case hab => assumption)
    intro hA tkA FA NA
    clear F N
    k_steps
    exact LCg.CompEnd.intro FA NA _ (fun _ hp => hp) off (.inr ⟨_, .tail _ (.tail _ (.head _)), rfl, _, rfl⟩) rfl
  unfold Hold
  intro Dz h9 tk9 F10 N10 o10
  clear F8 N8
  have n10 : @Ne Nat 85 Dz := o10.2.2.2.2.2.1
  clear o10
  k_steps
  unfold Hold
  rename Fr _ _ _ _ => F11
  rename News _ _ _ _ => N11
  rename IntsAre _ ([250] ++ nums) => hW
  rename (_ < _ ∧ _ ∧ _ ∧ _ ∧ _ ∧ _ ∧ _ ∧ _ ∧ _ ∧ _ ∧ 85 < _ ∧ AllLt _ bg) => l11
  replace N11 := news_thin3 N11
  have hLast0 : 0 ≤ 250 + nums.sum := by omega
  have hLast1 : 250 + nums.sum < 4096 := by omega
  k_dflt (refine LCg.CompSrc.ledger rfl F11 N11 (.head _) (by rw [List.size_toArray, hW.length, PySem.sizeLine_eq]; simp only [List.length_append, List.length_cons, List.length_nil]; omega) fun g11 => ?_)
  refine restG (GenR LisIn _ 85 (ltrs 250 nums)) GenR.start ?turn4 ?fin4
  case turn4 =>
    clear F11 N11
    unfold Hold
    intro i v ys nws I oI C oC D m₂ h tk E' hi hv hR hC hx F N off ne
    obtain ⟨tl, rfl, hoff, hpr⟩ := hR
    obtain ⟨n, tn, rfl, hni⟩ := IntsAre.at hW i v (by simpa using hv)
    have hn0 := (ltr_b hNb n (List.mem_of_getElem? hni)).1
    have hn1 := (ltr_b hNb n (List.mem_of_getElem? hni)).2
    simp only [List.cons_append] at N
    (try k_fold)
    k_steps
    rename Fr _ _ _ _ => F9
    rename News _ _ _ _ => N9
    rename IntsAre _ (apG n []) => hI9
    rename (I < _ ∧ C < _ ∧ D < _ ∧ _ ∧ _ ∧ _ ∧ _ ∧ _ ∧ 85 < _ ∧ _) => l9
    exact lis_el hoff hpr (ltr_at hni) hI9 F9 N9 (.head _) (fun p hp => .tail _ hp) off l9.1 l9.2.1 l9.2.2.1 l9.2.2.2.2.2.2.2.2.1 (.inr ⟨_, List.mem_append_left _ (.head _), rfl, _, rfl⟩)
  unfold Hold
  rintro lvs nws ⟨tl, rfl, hoffT, hLv⟩
  intro Dl h12 tk12 F12 N12 o12
  simp only [List.cons_append] at N12
  clear F11 N11 o12
  rw [List.take_of_length_le (by rw [List.size_toArray, hW.length]; simp only [ltrs, List.length_map, List.length_cons, List.length_append, List.length_nil]; omega)] at hLv
  rename _ = Data.fields _ => hF1
  rename (_[1]? = some (Value.str _ _)) => hF2
  k_steps
  unfold Hold
  rename Fr _ _ _ _ => F13
  rename News _ _ _ _ => N13
  rename (Dl < _ ∧ _ ∧ _ ∧ _ ∧ _ ∧ _ ∧ 85 < _ ∧ AllLt _ _) => l13
  k_dflt (refine K_glue X1 T1 F13 N13 rfl rfl ?hdp2 (.tail _ (.tail _ (.tail _ (.head _)))) rfl (glues_lam (N13 _ (.tail _ (.tail _ (.tail _ (.head _))))).1 ⟨_, _, _, _, rfl, (N13 _ (.tail _ (.tail _ (.tail _ (.tail _ (.head _)))))).1, hF1, hF2⟩ (fun x y => rfl) rfl rfl rfl rfl rfl (by decide)) (k1 := _) (.tail _ (.head _)) (paired_mono (fun _ _ h => LisIn.mono h fun p hp => .tail _ (.tail _ (.tail _ (.tail _ (.tail _ (.tail _ (.tail _ (.tail _ (List.mem_append_right _ hp))))))))) hLv) (k2 := 0) (.head _) ?hi2 ?hlen2 ?_)
  case hdp2 => ktr_room
  case hi2 => k_ne
  case hlen2 => exact Nat.le_trans (ltrs_100 (by decide) (by decide) hNb hNl) (by decide)
  intro De vsE kE h14 tk14 F14 N14 hIE hneE
  have nDs : Ds ≠ De := hneE _ (.tail _ (.tail _ (.tail _ (.tail _ (.tail _ (.head _)))))) (Nat.ne_of_lt l13.2.2.2.2.1)
  have n85 : 85 ≠ De := hneE _ (.tail _ (.tail _ (.tail _ (.tail _ (.tail _ (.tail _ (.tail _ (.head _)))))))) (Nat.ne_of_lt l13.2.2.2.2.2.2.1)
  have nBg : ∀ q ∈ bg, q.1 ≠ De := fun q hq => hneE _ (.tail _ (.tail _ (.tail _ (.tail _ (.tail _ (.tail _ (.tail _ (.tail _ (List.mem_append_left _ hq))))))))) (Nat.ne_of_lt (allLt_mem l13.2.2.2.2.2.2.2 q (List.mem_append_left _ hq)))
  clear F13 N13 hneE
  replace N14 := news_thin4 N14
  k_steps
  unfold Hold
  rename Fr _ _ _ _ => F15
  rename News _ _ _ _ => N15
  rename IntsAre _ (apG (250 + nums.sum) []) => hIL
  rename (De < _ ∧ Ds < _ ∧ _ < _ ∧ 85 < _ ∧ AllLt _ bg) => l15
  have hlen1 : (ltrs 250 nums).flatten.length ≤ 100 := ltrs_100 (by decide) (by decide) hNb hNl
  have hlen2 : (apG (250 + nums.sum) []).length ≤ 100 := len_1 (ap_3 hLast0 hLast1)
  k_dflt (refine K_uld (outer := []) (fos := []) (keep := _ :: _ :: bg) trivial X1 T1 F15 N15 rfl rfl (fun _ h => nomatch h) ?hdp3 (.tail _ (.head _)) (.head _) (Nat.ne_of_lt l15.1) hIE hIL hlen1 hlen2 (fun q hq => keep_in hq) (keep_ne nDs n85 nBg) (keep_ne (Nat.ne_of_lt l15.2.1) (Nat.ne_of_lt l15.2.2.2.1) (fun q hq => Nat.ne_of_lt (allLt_mem l15.2.2.2.2 q hq))) (fun _ _ h => nomatch h) ?_)
  case hdp3 => ktr_room
  intro tu mi msU rsU n3 n4u h16 tk16 fosU hIM hIR suU FsU F16 N16 kpU fU1 fU2 tmU
  cases fosU with
  | cons q r => exact False.elim suU
  | nil =>
  simp only [List.append_nil] at N16
  clear F15 N15 suU FsU kpU fU1 fU2 tmU
  have hl1 := uld_len1 (ys := apG (250 + nums.sum) []) hlen1
  have hl2 := uld_len2 (xs := (ltrs 250 nums).flatten) hlen2
  have hFin1 := hE1 (nums := nums) (a := 250) (by decide) hNb
  have hFin2 := hE2 (nums := nums) (a := 250) (by decide) hNb
  have hslen : svs.toArray.size ≤ sizeLine := by rw [List.size_toArray, hSt.length, steps_len, PySem.sizeLine_eq]; omega
  k_steps
  unfold Hold
  rename Fr _ _ _ _ => F17
  rename News _ _ _ _ => N17
  k_dflt (refine LCp.SrcLP.ledger rfl F17 N17 (.tail _ (.tail _ (.tail _ (.head _)))) hslen fun g17 => ?_)
  k_dflt (refine restP carr (paired_mono (fun _ _ h => PairIn.mono h fun p hp => .tail _ (.tail _ (.tail _ (.tail _ (.tail _ hp))))) hSt) (fun i v h => by simpa using h) ?turn5 ?fin5)
  case turn5 =>
    clear F17 N17
    unfold Hold
    intro a b t u I oI C oC D m₂ ys h tk E' hab hC hx hx2 F N off ne
    have hbd := steps_bound nums 250 hNb _ hab
    dsimp only at hbd
    have ha : 0 ≤ a := by omega
    have hb : 0 ≤ b := hbd.2.1
    clear hbd ne
    (try k_fold)
    k_steps
    exact ⟨rfl, _, rfl⟩
  unfold Hold
  intro cvs hCv Dc h18 tk18 F18 N18 o18
  clear F17 N17
  k_steps
  unfold Hold
  rename Fr _ _ _ _ => F19
  rename News _ _ _ _ => N19
  k_dflt (refine LCp.SrcLP.ledger rfl F19 N19 (.tail _ (.tail _ (.tail _ (.tail _ (.head _))))) hslen fun g19 => ?_)
  k_dflt (refine restP twos (paired_mono (fun _ _ h => PairIn.mono h fun p hp => .tail _ (.tail _ (.tail _ (.tail _ (.tail _ (.tail _ hp)))))) hSt) (fun i v h => by simpa using h) ?turn6 ?fin6)
  case turn6 =>
    clear F19 N19
    unfold Hold
    intro a b t u I oI C oC D m₂ ys h tk E' hab hC hx hx2 F N off ne
    have hbd := steps_bound nums 250 hNb _ hab
    dsimp only at hbd
    have ha : 0 ≤ a := by omega
    have hb : 0 ≤ b := hbd.2.1
    have hb1 : b < 1000 := by omega
    clear hbd ne
    (try k_fold)
    k_steps
    exact ⟨rfl, _, rfl⟩
  unfold Hold
  intro tvs hTv Dt h20 tk20 F20 N20 o20
  clear F19 N19
  k_steps)
end Mine
end TC12

theorem PySem.Challenge.cw_oc0020_01_holds : PySem.Challenge.rw_oc0020_01.Holds :=
  Mine.C_law
