import PyProof.Rows.All
import Wide.All
import OpenK.AllK
import Wide.FinOn
import Lean
import PySem.Challenge.RW_ha0002_01
open PySem PySem.W PyProof.Rows
set_option Elab.async false
set_option maxRecDepth 100000
namespace Mine
set_option maxRecDepth 100000 in
set_option maxHeartbeats 8000000 in
open_top hd for PySem.Challenge.rw_ha0002_01
end Mine
namespace Mine
section
variable {prog : Program} {w : World} {A₀ A : Around} {s : Shared} {base h₀ : Heap} {outer : List Env} {L : Addr} {m mg mb : Str → Option Value} {env : Env} {news : List (Addr × Obj)} {K : Frag}
  {p : Program} {loose : List Str} {mean : ExcName → Option Value}
  {R : Result → Shared → Prop} {name qual : Str} {params : Arguments} {body : List Stmt} {scope : Scope} {dV kV doc pm cdv ct oc : Value} {an od : Option Addr} {osl : Array (Option Value)} {f : Addr} {args : Args} {binds : List (Str × Value)}

/-- what a callee's ground knows of the heap at the call: all of it but the addresses that are lent -/
structure Lent (news : List (Addr × Obj)) (h g : Heap) : Prop where
  stay : ∀ b o, h.get? b = some o → b ∉ news.map (·.1) → g.get? b = some o
  back : ∀ b o, g.get? b = some o → h.get? b = some o
  size : g.objs.size = h.objs.size

theorem lent_of (news : List (Addr × Obj)) (h : Heap) : Lent news h (hideAll h (news.map (·.1))) :=
  ⟨fun _ _ e hb => hideAll_get _ e hb, fun _ _ e => of_hideAll _ e, hideAll_size _ _⟩

theorem own_def (B : Below A₀ base outer h₀) (F : Fr h₀ L s.heap m) (X₀ : K.In h₀) (N : News h₀ L s.heap news) (T : Top p loose mean mg mb h₀) (hA : A.frames = some (env :: outer)) (hf : env.frame = some L) (hke : env.scope.kind = .function)
    (ho : K.lookup f = some ⟨oc, od, .func (fnOf name qual params body scope dV kV doc pm an cdv ct), osl⟩) (hcd : codeIn K cdv qual = true) (hroom : A.depth < recursionLimit)
    (hbind : BindsTo s (fnOf name qual params body scope dV kV doc pm an cdv ct) args binds) (hloc : ∀ y ∈ binds, scope.names.lookup y.1 = some .local)
    (h : ∀ g L' h₁, Lent news s.heap g → Fr g L' h₁ (fun y => binds.reverse.lookup y) → News g L' h₁ news → Below A base (env :: outer) g → K.In g → Top p loose mean mg mb g →
      wpAny (model prog w) (A.deeper (envOf qual scope L' f cdv)) (execs body (envOf qual scope L' f cdv))
        (fun fl s' => R (.ok (.ret (match fl with | .ret v => v | _ => .none))) s')
        (fun e s' => wpAny (model prog w) (A.deeper (envOf qual scope L' f cdv)) (leaving (envOf qual scope L' f cdv) e) (fun _ s'' => R (.error e) s'') (fun e' s'' => R (.error e') s'') s')
        { s with heap := h₁, toks := s.toks + binds.length })
    (hco : scope.isCoroutine = false) (hgen : scope.isGenerator = false) (hk : scope.kind = .function)
    (hcell : ∀ x ∈ scope.names, x.2 ≠ .cell) : codeAny (model prog w) A (.call (.ref f) args) R s := by
  obtain ⟨_, BG, st, _⟩ := groundX (R := R) B F N hA hf hke
  refine codeAny_call_def (fd := fnOf name qual params body scope dV kV doc pm an cdv ct) (body := body) (binds := binds) hroom ((X₀.keeps F.keep) _ _ ho) rfl (T.nolimit.keeps F.keep) (codeRec_of (X₀.keeps F.keep) hcd) rfl hbind hcell hloc (fun h₁ hns hk₁ => ?_) hco hgen hk
  exact h _ s.heap.objs.size h₁ (lent_of news s.heap) ⟨hns, fun b o e => hk₁ b o (of_hideAll _ e), Nat.le_of_eq (hideAll_size _ _)⟩
    (fun q hq => ⟨hk₁ _ _ (N q hq).1, Nat.ne_of_lt (Heap.lt_size (N q hq).1), hideAll_none _ (List.mem_map_of_mem hq)⟩) BG (X₀.keeps st) (T.keeps st)
end

theorem lent_list {h g : Heap} {l : Addr} {items : Array Value} {news : List (Addr × Obj)} (x : Lent news h g) (y : h.IsList l items) (hn : l ∉ news.map (·.1)) : g.IsList l items :=
  let ⟨o, ho, r⟩ := y; ⟨o, x.stay _ _ ho hn, r⟩
theorem lent_list0 {h g : Heap} {l : Addr} {items : Array Value} (x : Lent [] h g) (y : h.IsList l items) : g.IsList l items := lent_list x y (by simp)
theorem lent_keep {h g h' : Heap} {L : Addr} {m : Str → Option Value} (x : Lent [] h g) (F : Fr g L h' m) : ∀ b o, h.get? b = some o → h'.get? b = some o :=
  fun b o e => F.keep b o (x.stay b o e (by simp))
end Mine
namespace Mine
theorem count_of {ns : List Int} {x r : Int} (d1 : 0 ≤ r) (d2 : r ≤ ns.length) (d3 : ∀ k : Nat, (k : Int) < r → ns.getD k 0 < x) (d4 : ∀ k : Nat, r ≤ (k : Int) → k < ns.length → ¬ ns.getD k 0 < x) :
    r = ((ns.countP (fun y => decide (y < x)) : Nat) : Int) := by
  obtain ⟨n, rfl⟩ : ∃ n : Nat, r = (n : Int) := ⟨r.toNat, by omega⟩
  have h2 : n ≤ ns.length := by omega
  have e : ns.countP (fun y => decide (y < x)) = (ns.take n).countP (fun y => decide (y < x)) + (ns.drop n).countP (fun y => decide (y < x)) := by
    rw [← List.countP_append, List.take_append_drop]
  have a : (ns.take n).countP (fun y => decide (y < x)) = (ns.take n).length := by
    rw [List.countP_eq_length]
    intro y hy
    obtain ⟨i, hi, rfl⟩ := List.getElem_of_mem hy
    have hi' : i < n ∧ i < ns.length := by rw [List.length_take] at hi; omega
    have := d3 i (by omega)
    rw [List.getD_eq_getElem?_getD, List.getElem?_eq_getElem hi'.2] at this
    simpa using this
  have b : (ns.drop n).countP (fun y => decide (y < x)) = 0 := by
    rw [List.countP_eq_zero]
    intro y hy
    obtain ⟨i, hi, rfl⟩ := List.getElem_of_mem hy
    have hi' : i < ns.length - n := by simpa using hi
    have := d4 (n + i) (by omega) (by omega)
    rw [List.getD_eq_getElem?_getD, List.getElem?_eq_getElem (by omega)] at this
    simpa using this
  rw [e, a, b, List.length_take]
  omega

/-- all that stood still stands -/
abbrev Keeps (h h' : Heap) : Prop := ∀ b o, h.get? b = some o → h'.get? b = some o

theorem bis_end {ns : List Int} {x r : Int} {s : Shared} {Q : Value → Shared → Prop} {h' : Heap} {t' : Tok} {tk' : Nat}
    (hret : ∀ t' h' tk', Keeps s.heap h' → Q (.int ((ns.countP (fun y => decide (y < x)) : Nat) : Int) t') { s with heap := h', toks := tk' })
    (d1 : 0 ≤ r) (d2 : r ≤ ns.length) (d3 : ∀ k : Nat, (k : Int) < r → ns.getD k 0 < x) (d4 : ∀ k : Nat, r ≤ (k : Int) → k < ns.length → ¬ ns.getD k 0 < x)
    (hk : Keeps s.heap h') : Q (.int r t') { s with heap := h', toks := tk' } := by
  rw [count_of d1 d2 d3 d4]
  exact hret _ _ _ hk

/-- the call of a def of the text from a def's frame: what it asks, what it hands on -/
def At (w : World) (mean : ExcName → Option Value) (mg mb : Str → Option Value) (n : Nat) (f : Addr) (vs : List Value) (pre : Heap → Heap → Addr → Prop) (post : Shared → (Value → Shared → Prop) → Prop) : Prop :=
  ∀ (dp un : Nat) (gd : Option (List Code)) (cn : Str) (cs : Scope) (a : Addr) (ccd : Value) (cl : List (Str × Addr)) (outer : List Env) (A₀ : Around) (base h₀ : Heap) (L : Addr) (m : Str → Option Value) (s : Shared) (Q E : Value → Shared → Prop),
    Below A₀ base outer h₀ → Fr h₀ L s.heap m → (hd.heap_39 w.params).In h₀ → Top hd.view_39 (looseW hd.view_39 [Str.ofString "insort_left", Str.ofString "bisect_left"]) mean mg mb h₀ → cs.kind = .function →
    dp + n < recursionLimit → un + 12 * n < cLine → pre h₀ s.heap L → post s Q →
      wpAny (model PySem.Challenge.rw_ha0002_01.row.prog w) (ktrTop dp un gd cn cs L a ccd cl outer) (call (.ref f) vs) Q E s

theorem At.use {w : World} {mean : ExcName → Option Value} {mg mb : Str → Option Value} {n : Nat} {f : Addr} {vs : List Value} {pre : Heap → Heap → Addr → Prop} {post : Shared → (Value → Shared → Prop) → Prop} (C : At w mean mg mb n f vs pre post)
    {dp un : Nat} {gd : Option (List Code)} {cn : Str} {cs : Scope} {a : Addr} {ccd : Value} {cl : List (Str × Addr)} {outer : List Env} {A₀ : Around} {base h₀ : Heap} {L : Addr} {m : Str → Option Value} {s : Shared} {Q E : Value → Shared → Prop}
    (B : Below A₀ base outer h₀) (F : Fr h₀ L s.heap m) (X : (hd.heap_39 w.params).In h₀) (T : Top hd.view_39 (looseW hd.view_39 [Str.ofString "insort_left", Str.ofString "bisect_left"]) mean mg mb h₀) (hk : cs.kind = .function)
    (hd : dp + n < recursionLimit) (hu : un + 12 * n < cLine) (hp : pre h₀ s.heap L) (hq : post s Q) :
    wpAny (model PySem.Challenge.rw_ha0002_01.row.prog w) (ktrTop dp un gd cn cs L a ccd cl outer) (call (.ref f) vs) Q E s := C dp un gd cn cs a ccd cl outer A₀ base h₀ L m s Q E B F X T hk hd hu hp hq

set_option maxHeartbeats 4000000 in
theorem bisect4 (w : World) (mean : ExcName → Option Value) (mg mb : Str → Option Value) (l : Addr) (vs : List Value) (ns : List Int) (x : Int) (t t0 : Tok) :
    At w mean mg mb 3 32 [.ref l, .int x t, .int 0 t0, .none] (fun _ h _ => h.IsList l vs.toArray ∧ IntsAre vs ns ∧ ns.length ≤ 1000 ∧ sortedZ ns = true)
      (fun s Q => ∀ t' h' tk', Keeps s.heap h' → Q (.int ((ns.countP (fun y => decide (y < x)) : Nat) : Int) t') { s with heap := h', toks := tk' }) := by
  w_top off
  unfold At
  k_fill
  intro dp un gd cn cs a ccd cl outer A₀ base h₀ L m s Q E B F X T hk hdp hun hpre hret
  obtain ⟨hl, hi, hlen, hs⟩ := hpre
  have N : News h₀ L s.heap [] := News.nil
  refine wpAny_call ?_
  k_dflt (refine' own_def ?k1 ?k2 ?k3 ?k4 ?k5 ?kA ?kF ?kK ?k6 ?k7 ?k8 ?k9 ?kB ?_ ?c2 ?c3 ?c4 ?c5; (case kA => exact rfl); (case kF => exact rfl); (case kK => assumption); (case k1 => k_asm); (case k2 => k_asm); (case k3 => k_asm); (case k4 => exact N); (case k5 => k_asm); (case k6 => k_is); (case k7 => k_is); (case k8 => ktr_room); (case k9 => (refine' kp_binds ?kx ?ke; (case kx => k_in); (case ke => exact fun _ => rfl))); (case c5 => decide); (case kB => exact locs rfl); (case c2 => exact rfl); (case c3 => exact rfl); (case c4 => exact rfl); k_whole)
  intro g' L' h' lent' F' N' B' X' T'
  have hl' := lent_list0 lent' hl
  (try dsimp only)
  (try k_fold)
  k_steps
  all_goals (dsimp only; exact bis_end hret (by assumption) (by assumption) (by assumption) (by assumption) (lent_keep lent' (by assumption)))
set_option maxHeartbeats 4000000 in
theorem bisect2 (w : World) (mean : ExcName → Option Value) (mg mb : Str → Option Value) (l : Addr) (vs : List Value) (ns : List Int) (x : Int) (t : Tok) :
    At w mean mg mb 3 32 [.ref l, .int x t] (fun _ h _ => h.IsList l vs.toArray ∧ IntsAre vs ns ∧ ns.length ≤ 1000 ∧ sortedZ ns = true)
      (fun s Q => ∀ t' h' tk', Keeps s.heap h' → Q (.int ((ns.countP (fun y => decide (y < x)) : Nat) : Int) t') { s with heap := h', toks := tk' }) := by
  w_top off
  unfold At
  k_fill
  intro dp un gd cn cs a ccd cl outer A₀ base h₀ L m s Q E B F X T hk hdp hun hpre hret
  obtain ⟨hl, hi, hlen, hs⟩ := hpre
  have N : News h₀ L s.heap [] := News.nil
  refine wpAny_call ?_
  k_dflt (refine' own_def ?k1 ?k2 ?k3 ?k4 ?k5 ?kA ?kF ?kK ?k6 ?k7 ?k8 ?k9 ?kB ?_ ?c2 ?c3 ?c4 ?c5; (case kA => exact rfl); (case kF => exact rfl); (case kK => assumption); (case k1 => k_asm); (case k2 => k_asm); (case k3 => k_asm); (case k4 => exact N); (case k5 => k_asm); (case k6 => k_is); (case k7 => k_is); (case k8 => ktr_room); (case k9 => (refine' kp_binds ?kx ?ke; (case kx => k_in); (case ke => exact fun _ => rfl))); (case c5 => decide); (case kB => exact locs rfl); (case c2 => exact rfl); (case c3 => exact rfl); (case c4 => exact rfl); k_whole)
  intro g' L' h' lent' F' N' B' X' T'
  have hl' := lent_list0 lent' hl
  (try dsimp only)
  (try k_fold)
  k_steps
  all_goals (dsimp only; exact bis_end hret (by assumption) (by assumption) (by assumption) (by assumption) (lent_keep lent' (by assumption)))
end Mine
namespace Mine
def cnt (ns : List Int) (x : Int) : Nat := ns.countP (fun y => decide (y < x))
/-- where insort_left puts x -/
def ins (ns : List Int) (x : Int) : List Int := ns.take (cnt ns x) ++ x :: ns.drop (cnt ns x)

theorem cnt_le (ns : List Int) (x : Int) : cnt ns x ≤ ns.length := List.countP_le_length
theorem kl_ins_at (vs : List Value) (c : Nat) (y : Value) (h : c ≤ vs.length) : kl_ins vs (c : Int) y = vs.take c ++ y :: vs.drop c := by
  unfold kl_ins
  rw [if_neg (by omega), show min (Int.toNat (c : Int)) vs.length = c by simp; omega]
theorem ins_ints {vs : List Value} {ns : List Int} (h : IntsAre vs ns) (x : Int) (t : Tok) : IntsAre (kl_ins vs ((ns.countP (fun y => decide (y < x)) : Nat) : Int) (.int x t)) (ins ns x) := by
  rw [kl_ins_at _ _ _ (by rw [h.length]; exact cnt_le ns x)]
  exact (h.take _).append (.cons _ _ (h.drop _))

/-- all but one object stands -/
abbrev KeepsBut (l : Addr) (h h' : Heap) : Prop := ∀ b o, b ≠ l → h.get? b = some o → h'.get? b = some o

theorem fits_of {n : Nat} (h : n ≤ 1000) : Builtin.List.listFitsIndex (n : Int) = true := by
  unfold Builtin.List.listFitsIndex
  simp
  omega
theorem fits_len {vs : List Value} {ns : List Int} (h : IntsAre vs ns) (hl : ns.length ≤ 1000) : vs.length ≤ sizeLine := by
  rw [h.length, PySem.sizeLine_eq]; omega

local macro_rules | `(tactic| walk_at "call ref") => `(tactic| (k_here; (with_reducible show wpAny _ _ (call (Value.ref 32) [_, _, _, _]) _ _ _); k_dflt (refine' At.use (bisect4 _ _ _ _ _ _ _ _ _ _) ?k1 ?k2 ?k3 ?k4 ?k5 ?k6 ?k7 ?k8 ?_; (case k1 => k_asm); (case k2 => k_asm); (case k3 => k_asm); (case k4 => k_asm); (case k5 => exact rfl); (case k6 => ktr_room); (case k7 => ktr_units); (case k8 => exact ⟨by is_list, by assumption, by assumption, by assumption⟩)); intro t' h' tk' kp'; (have F' := Fr.keeps (by k_asm) kp'); (have N' := News.grown (by k_asm) kp'); clear kp'; k_sweep))
local macro_rules | `(tactic| walk_at "call builtin:list.insert") => `(tactic| (k_here; (with_reducible show wpAny _ _ (call (Value.builtin _) [Value.ref _, Value.int _ _, _]) _ _ _); k_dflt (refine' kl_insert ?F ?N ?f ?e ?U ?z ?_; (case F => k_asm); (case N => k_asm); (case U => k_upd); (case f => exact fits_of (Nat.le_trans (cnt_le _ _) (by assumption))); (case e => rfl); (case z => exact fits_len (by assumption) (by assumption))); kl_rest))

set_option maxHeartbeats 4000000 in
theorem insort (w : World) (mean : ExcName → Option Value) (mg mb : Str → Option Value) (l : Addr) (vs : List Value) (n : Nat) (ns : List Int) (x : Int) (t : Tok) :
    At w mean mg mb 6 23 [.ref l, .int x t] (fun h₀ h L => h.get? l = some (listOf vs.toArray n) ∧ l ≠ L ∧ h₀.get? l = none ∧ IntsAre vs ns ∧ ns.length ≤ 1000 ∧ sortedZ ns = true)
      (fun s Q => ∀ vs' n' h' tk', KeepsBut l s.heap h' → h'.get? l = some (listOf vs'.toArray n') → IntsAre vs' (ins ns x) → Q .none { s with heap := h', toks := tk' }) := by
  w_top off
  unfold At
  k_fill
  intro dp un gd cn cs a ccd cl outer A₀ base h₀ L m s Q E B F X T hk hdp hun hpre hret
  obtain ⟨hl, hne, h0, hi, hlen, hs⟩ := hpre
  have N : News h₀ L s.heap [(l, listOf vs.toArray n)] := fun p hp => by
    rw [List.mem_singleton.mp hp]; exact ⟨hl, hne, h0⟩
  refine wpAny_call ?_
  k_dflt (refine' own_def ?k1 ?k2 ?k3 ?k4 ?k5 ?kA ?kF ?kK ?k6 ?k7 ?k8 ?k9 ?kB ?_ ?c2 ?c3 ?c4 ?c5; (case kA => exact rfl); (case kF => exact rfl); (case kK => assumption); (case k1 => k_asm); (case k2 => k_asm); (case k3 => k_asm); (case k4 => exact N); (case k5 => k_asm); (case k6 => k_is); (case k7 => k_is); (case k8 => ktr_room); (case k9 => (refine' kp_binds ?kx ?ke; (case kx => k_in); (case ke => exact fun _ => rfl))); (case c5 => decide); (case kB => exact locs rfl); (case c2 => exact rfl); (case c3 => exact rfl); (case c4 => exact rfl); k_whole)
  intro g' L' h' lent' F' N' B' X' T'
  (try dsimp only)
  (try k_fold)
  k_steps
  all_goals ((try dsimp only); refine hret _ _ _ _ (fun b o hb e => Fr.keep (by assumption) b o (lent'.stay b o e (by simpa using hb))) (News.get (by assumption) (List.Mem.head _)) (ins_ints hi x t))
end Mine
namespace Mine
def putA (xs : Array Value) (ks : List Nat) (ys : List Value) : Array Value := (ks.zip ys).foldl (fun xs p => xs.setIfInBounds p.1 p.2) xs
def putL {α : Type} (xs : List α) (ks : List Nat) (ys : List α) : List α := (ks.zip ys).foldl (fun xs p => xs.set p.1 p.2) xs

theorem putA_list : ∀ (ks : List Nat) (ys xs : List Value), putA xs.toArray ks ys = (putL xs ks ys).toArray
  | [], _, _ => by simp [putA, putL]
  | _ :: _, [], _ => by simp [putA, putL]
  | k :: ks, y :: ys, xs => by
    have := putA_list ks ys (xs.set k y)
    simp only [putA, putL, List.zip_cons_cons, List.foldl_cons] at this ⊢
    rw [← this]
    congr 1
    simp
theorem putL_length {α : Type} : ∀ (ks : List Nat) (ys xs : List α), (putL xs ks ys).length = xs.length
  | [], _, _ => by simp [putL]
  | _ :: _, [], _ => by simp [putL]
  | k :: ks, y :: ys, xs => by
    have := putL_length ks ys (xs.set k y)
    simp only [putL, List.zip_cons_cons, List.foldl_cons] at this ⊢
    rw [this, List.length_set]
theorem ints_set : ∀ {vs : List Value} {ns : List Int}, IntsAre vs ns → ∀ (k : Nat) (y : Int) (t : Tok), IntsAre (vs.set k (.int y t)) (ns.set k y)
  | _, _, .nil, _, _, _ => by simpa using IntsAre.nil
  | _, _, .cons _ _ h, 0, y, t => by simpa using IntsAre.cons y t h
  | _, _, .cons n u h, k + 1, y, t => by simpa using IntsAre.cons n u (ints_set h k y t)
theorem ints_put : ∀ {ks : List Nat} {ys : List Value} {ms : List Int}, IntsAre ys ms → ∀ {vs : List Value} {ns : List Int}, IntsAre vs ns → IntsAre (putL vs ks ys) (putL ns ks ms)
  | [], _, _, _, _, _, h => by simpa [putL] using h
  | _ :: _, _, _, .nil, _, _, h => by simpa [putL] using h
  | k :: ks, _, _, .cons y t hr, _, _, h => by
    have := ints_put (ks := ks) hr (ints_set h k y t)
    simpa [putL] using this

/-- a whole tail written anew, item by item -/
theorem put_tail {α : Type} : ∀ (ys xs : List α) (a : Nat), a + ys.length = xs.length → putL xs ((List.range ys.length).map (a + ·)) ys = xs.take a ++ ys
  | [], xs, a, h => by simp at h; simp [putL, h]
  | y :: ys, xs, a, h => by
    have hs : ((List.range (y :: ys).length).map (a + ·)) = a :: ((List.range ys.length).map ((a + 1) + ·)) := by
      rw [List.length_cons, List.range_succ_eq_map, List.map_cons, List.map_map]
      congr 1
      apply List.map_congr_left
      intro i _
      simp; omega
    rw [hs]
    have := put_tail ys (xs.set a y) (a + 1) (by simp at h ⊢; omega)
    simp only [putL, List.zip_cons_cons, List.foldl_cons] at this ⊢
    rw [this]
    have hl : a < xs.length := by simp at h; omega
    rw [List.take_add_one, List.take_set_of_le (Nat.le_refl a)]
    simp [hl]

section
variable {prog : Program} {w : World} {A : Around} {E : Value → Shared → Prop} {s : Shared}
theorem setItem_slice {l sl b : Addr} {items its2 : Array Value} {n : Nat} {vl vu vs : Value} {lo hi st : Option Int} {Q : Unit → Shared → Prop}
    (hl : s.heap.get? l = some (listOf items n)) (hs : s.heap.IsSliceOf sl vl vu vs) (pl : IsPart vl lo) (pu : IsPart vu hi) (ps : IsPart vs st) (h0 : st ≠ some 0)
    (hb : s.heap.IsList b its2) (hlb : l ≠ b) (hz : items.size ≤ 1000) (hz2 : its2.size ≤ 1000) (res : Array Value) (hrs : res.size = items.size)
    (h1 : (sliceBounds lo hi st items.size).2.2 = 1 → items.extract 0 (sliceBounds lo hi st items.size).1.toNat ++ its2 ++ items.extract (max (sliceBounds lo hi st items.size).1 (sliceBounds lo hi st items.size).2.1).toNat items.size = res)
    (h2 : (sliceBounds lo hi st items.size).2.2 ≠ 1 → its2.size = (sliceRange (sliceBounds lo hi st items.size).1 (sliceBounds lo hi st items.size).2.1 (sliceBounds lo hi st items.size).2.2).length ∧
      putA items (sliceRange (sliceBounds lo hi st items.size).1 (sliceBounds lo hi st items.size).2.1 (sliceBounds lo hi st items.size).2.2) its2.toList = res)
    (h : ∀ h', h'.get? l = some (listOf res n) → Heap.SameBut l s.heap h' → Q () { s with heap := h' }) : wpAny (model prog w) A (setItem (.ref l) (.ref sl) (.ref b)) Q E s := by
  have hl' : s.heap.IsList l items := ⟨_, hl, rfl, n, rfl⟩
  obtain ⟨os, hos, hcs, hds⟩ := id hs
  obtain ⟨ob, hob, hcb, nb, hdb⟩ := id hb
  have hTs : s.TypeIs (.ref sl) "slice" := ⟨os, hos, hcs⟩
  have fin : ∀ f : Array Value → Array Value, f items = res → ∃ o, (s.heap.update l (Obj.mapSeq f)).get? l = some o ∧ o = listOf res n := by
    intro f hf
    have q := PySem.IsL.update hl f
    rw [hf, if_pos (by simpa using hrs)] at q
    exact ⟨_, q, rfl⟩
  unfold setItem
  try with_reducible refine wpAny_holding ?_
  first | refine wpAny_bind (wpAny_pure ?_) | skip
  refine wpAny_bind (wpAny_sequenceKey hl'.typeIs (by decide) ?_)
  refine wpAny_bind (wpAny_callSpecial?_slot (name := Str.ofString "__setitem__") hl'.typeIs PySem.slot_list_setitem
    (wpAny_call_entry PySem.slot_list_setitem hl'.typeIs PySem.entry_list_setitem ?_ (PySem.args_list_setitem _ _ _)))
  show wpAny _ _ (Builtin.List.listSubscript? (.ref sl) >>= _) _ _ s
  refine wpAny_bind ?_
  unfold Builtin.List.listSubscript?
  refine wpAny_bind (wpAny_specialOf hTs slice_no_index ?_)
  simp only [Option.isNone_none, if_true]
  refine wpAny_pure ?_
  show wpAny _ _ (typeOf (.ref sl) >>= _) _ _ s
  refine wpAny_bind (wpAny_typeOf hTs ?_)
  rw [if_neg (by decide)]
  rw [listSliceParts_eq]
  have hstep : ¬ ((rawPart st == rawInt 0) = true) := by
    cases st with
    | none => exact Bool.false_ne_true
    | some c =>
      intro hh
      have : c = 0 := by simpa [rawPart, rawInt] using hh
      exact h0 (by rw [this])
  refine wpAny_bind (wpAny_bind (wpAny_field hos hds (x := vs) rfl (wpAny_bind (wpAny_listPart ps ?_))))
  rw [if_neg hstep]
  refine wpAny_bind (wpAny_field hos hds (x := vl) rfl (wpAny_bind (wpAny_listPart pl ?_)))
  refine wpAny_bind (wpAny_field hos hds (x := vu) rfl (wpAny_bind (wpAny_listPart pu (wpAny_pure ?_))))
  have hsame : Builtin.List.listSameRef (.ref l) (.ref b) = false := by simpa [Builtin.List.listSameRef] using hlb
  simp only [hsame, Bool.false_eq_true, if_false]
  refine wpAny_bind ?_
  unfold Builtin.List.listAllItems
  refine wpAny_bind (wpAny_typeOf hb.typeIs ?_)
  rw [if_pos (by decide)]
  unfold Builtin.List.listItems
  refine wpAny_bind (wpAny_seqItems hob hdb (wpAny_pure ?_))
  refine wpAny_bind (wpAny_bind (wpAny_seqItems hl rfl (wpAny_pure ?_)))
  refine wpAny_bind (wpAny_of_eq (sliceIndices_raw lo hi st items.size h0) ?_)
  generalize hB : sliceBounds lo hi st items.size = B at h1 h2
  obtain ⟨a, c, k⟩ := B
  dsimp only at h1 h2 ⊢
  have hbig : ¬ (Builtin.List.listTooLong (items.size + its2.size) = true) := by
    unfold Builtin.List.listTooLong
    simp [PySem.sizeLine_eq]
    omega
  by_cases hk : k = 1
  · subst hk
    rw [if_pos (by decide)]
    refine wpAny_bind (wpAny_rule ?_)
    rw [if_neg hbig]
    refine wpAny_bind ?_
    unfold Builtin.List.listUpdate
    have e := h1 rfl
    refine wpAny_updateSeq hl rfl ?_ (by rw [PySem.sizeLine_eq]; omega) (by rw [e, PySem.sizeLine_eq]; omega)
    refine wpAny_bind (wpAny_letGo ?_)
    refine wpAny_pure ⟨_, rfl, wpAny_pure (h _ ?_ (Heap.SameBut.update ..))⟩
    obtain ⟨o, q, rfl⟩ := fin (fun xs => xs.extract 0 a.toNat ++ its2 ++ xs.extract (max a c).toNat xs.size) e
    exact q
  · rw [if_neg (by simpa using hk)]
    obtain ⟨e1, e2⟩ := h2 hk
    rw [if_neg (by simp [e1])]
    refine wpAny_bind (wpAny_rule ?_)
    refine wpAny_bind ?_
    unfold Builtin.List.listUpdate
    refine wpAny_updateSeq hl rfl ?_ (by rw [PySem.sizeLine_eq]; omega) (by show (putA items _ its2.toList).size ≤ _; rw [e2, PySem.sizeLine_eq]; omega)
    refine wpAny_bind (wpAny_letGo ?_)
    refine wpAny_pure ⟨_, rfl, wpAny_pure (h _ ?_ (Heap.SameBut.update ..))⟩
    obtain ⟨o, q, rfl⟩ := fin (fun xs => putA xs (sliceRange a c k) its2.toList) e2
    exact q
end
end Mine
namespace Mine
def isort (ms : List Int) : List Int := ms.foldl ins []

theorem cnt_cons (y : Int) (r : List Int) (x : Int) : cnt (y :: r) x = cnt r x + (if y < x then 1 else 0) := by
  simp [cnt, List.countP_cons]
theorem ins_cons_lt {y x : Int} {r : List Int} (h : y < x) : ins (y :: r) x = y :: ins r x := by
  simp [ins, cnt_cons, h]
theorem cnt_zero : ∀ {r : List Int} {x : Int}, (∀ y ∈ r, ¬ y < x) → cnt r x = 0
  | [], _, _ => rfl
  | y :: r, x, h => by
    rw [cnt_cons, cnt_zero (fun z hz => h z (.tail _ hz)), if_neg (h y (.head _))]
theorem ins_cons_ge {y x : Int} {r : List Int} (hs : (y :: r).Pairwise (· ≤ ·)) (h : ¬ y < x) : ins (y :: r) x = x :: y :: r := by
  have : cnt (y :: r) x = 0 := cnt_zero fun z hz => by
    rcases List.mem_cons.mp hz with rfl | hz
    · exact h
    · have := List.rel_of_pairwise_cons hs hz; omega
  simp [ins, this]
theorem ins_perm (ns : List Int) (x : Int) : (ins ns x).Perm (x :: ns) := by
  unfold ins
  refine List.perm_middle.trans (.cons _ ?_)
  rw [List.take_append_drop]
theorem ins_sorted : ∀ {ns : List Int} {x : Int}, ns.Pairwise (· ≤ ·) → (ins ns x).Pairwise (· ≤ ·)
  | [], x, _ => by simp [ins]
  | y :: r, x, hs => by
    by_cases h : y < x
    · rw [ins_cons_lt h, List.pairwise_cons]
      refine ⟨fun z hz => ?_, ins_sorted hs.of_cons⟩
      rcases List.mem_cons.mp ((ins_perm r x).mem_iff.mp hz) with rfl | hz
      · omega
      · exact List.rel_of_pairwise_cons hs hz
    · rw [ins_cons_ge hs h, List.pairwise_cons]
      refine ⟨fun z hz => ?_, hs⟩
      rcases List.mem_cons.mp hz with rfl | hz
      · omega
      · have := List.rel_of_pairwise_cons hs hz; omega
theorem isort_go : ∀ (ms acc : List Int), acc.Pairwise (· ≤ ·) → (ms.foldl ins acc).Pairwise (· ≤ ·) ∧ (ms.foldl ins acc).Perm (ms ++ acc)
  | [], acc, h => ⟨h, .refl _⟩
  | m :: ms, acc, h => by
    obtain ⟨h1, h2⟩ := isort_go ms (ins acc m) (ins_sorted h)
    refine ⟨h1, h2.trans ?_⟩
    exact ((List.Perm.append_left ms (ins_perm acc m)).trans List.perm_middle)
theorem isort_pairwise (ms : List Int) : (isort ms).Pairwise (· ≤ ·) := (isort_go ms [] .nil).1
theorem isort_sorted (ms : List Int) : sortedZ (isort ms) = true := (sortedZ_iff _).mpr (isort_pairwise ms)
theorem isort_perm (ms : List Int) : (isort ms).Perm ms := by simpa [isort] using (isort_go ms [] .nil).2
theorem isort_length (ms : List Int) : (isort ms).length = ms.length := (isort_perm ms).length_eq
theorem isort_snoc (ms : List Int) (x : Int) : isort (ms ++ [x]) = ins (isort ms) x := by simp [isort, List.foldl_append]

theorem memA {α : Type} {a b : α} {c d : List α} : ∀ p ∈ a :: b :: c, p ∈ [a] ++ b :: (c ++ d) := by
  intro p hp
  rcases List.mem_cons.mp hp with rfl | hp
  · exact .head _
  · rcases List.mem_cons.mp hp with rfl | hp
    · exact .tail _ (.head _)
    · exact .tail _ (.tail _ (List.mem_append_left _ hp))
theorem memB {α : Type} {a b : α} {c d : List α} : ∀ p ∈ d, p ∈ [a] ++ b :: (c ++ d) := fun _ hp => .tail _ (.tail _ (List.mem_append_right _ hp))
/-! the heap's side -/
section
variable {h₀ h h' : Heap} {L O : Addr} {m : Str → Option Value} {o o' : Obj} {pre post : List (Addr × Obj)}
theorem fr_but (F : Fr h₀ L h m) (hO : O ≠ L) (h0 : h₀.get? O = none) (k : KeepsBut O h h') : Fr h₀ L h' m :=
  ⟨F.ns.at' fun o e => k _ o (Ne.symm hO) e, fun b ob e => k b ob (fun q => by rw [q, h0] at e; cases e) (F.keep b ob e), F.above⟩
theorem news_put (N : News h₀ L h (pre ++ (O, o) :: post)) (a : ∀ p ∈ pre, p.1 ≠ O) (b : ∀ p ∈ post, p.1 ≠ O) (k : KeepsBut O h h') (e : h'.get? O = some o') : News h₀ L h' (pre ++ (O, o') :: post) := by
  intro p hp
  rcases List.mem_append.mp hp with hq | hq
  · exact ⟨k _ _ (a p hq) (N p (List.mem_append_left _ hq)).1, (N p (List.mem_append_left _ hq)).2⟩
  · rcases List.mem_cons.mp hq with rfl | hq
    · exact ⟨e, (N (O, o) (List.mem_append_right _ (.head _))).2⟩
    · have := N p (List.mem_append_right _ (.tail _ hq))
      exact ⟨k _ _ (b p hq) this.1, this.2⟩
end
end Mine
namespace Mine
def slots (b h : Int) (n : Nat) : List Nat := sliceRange (sliceBounds (some b) none (some h) n).1 (sliceBounds (some b) none (some h) n).2.1 (sliceBounds (some b) none (some h) n).2.2
def lay1 (ns : List Int) (h : Int) (f : List Int) (b : Int) : List Int := putL f (slots b h f.length) (isort (pickNums ns (some b) none (some h)))
def laid (ns : List Int) (h : Int) : List Int := (rangeKs 0 (h - 0).toNat).foldl (lay1 ns h) ns

theorem ceil_lt {m h i : Nat} (hh : 1 ≤ h) : i < (m + h - 1) / h ↔ h * i < m := by
  rw [Nat.lt_iff_add_one_le, Nat.le_div_iff_mul_le (by omega), Nat.add_mul, Nat.one_mul, Nat.mul_comm h i]
  omega

theorem slots_nat (b h n : Nat) (hh : 1 ≤ h) : slots (b : Int) (h : Int) n = (List.range ((n - b + h - 1) / h)).map (fun i => b + h * i) := by
  have hp : (h : Int) > 0 := by omega
  have hb : ¬ ((b : Int) < 0) := by omega
  simp only [slots, sliceBounds, sliceRange, Option.getD_some, hp, if_true, hb, if_false]
  by_cases hlt : b < n
  · have e1 : max 0 (min (b : Int) (n : Int)) = (b : Int) := by omega
    rw [e1, if_pos (by omega)]
    have e2 : (((n : Int) - b + h - 1) / h).toNat = (n - b + h - 1) / h := by
      have : ((n : Int) - b + h - 1) = ((n - b + h - 1 : Nat) : Int) := by omega
      rw [this, ← Int.natCast_ediv, Int.toNat_natCast]
    rw [e2]
    apply List.map_congr_left
    intro i _
    have : (b : Int) + (h : Int) * (i : Int) = ((b + h * i : Nat) : Int) := by simp
    rw [this, Int.toNat_natCast]
  · have e1 : max 0 (min (b : Int) (n : Int)) = (n : Int) := by omega
    rw [e1, if_neg (by omega)]
    have : (n - b + h - 1) / h = 0 := by
      rw [Nat.div_eq_of_lt (by omega)]
    rw [this]
    simp

theorem slots_mem {b h n : Nat} (hh : 1 ≤ h) {j : Nat} (hj : j ∈ slots (b : Int) (h : Int) n) : j < n := by
  rw [slots_nat b h n hh] at hj
  obtain ⟨i, hi, rfl⟩ := List.mem_map.mp hj
  rw [List.mem_range, ceil_lt hh] at hi
  omega

theorem pick_eq (ns : List Int) (b h : Int) : pickNums ns (some b) none (some h) = (slots b h ns.length).filterMap (ns[·]?) := rfl
theorem pick_map {ns : List Int} {b h : Nat} (hh : 1 ≤ h) : pickNums ns (some (b : Int)) none (some (h : Int)) = (slots (b : Int) (h : Int) ns.length).map (ns.getD · 0) := by
  rw [pick_eq]
  have : ∀ ks : List Nat, (∀ k ∈ ks, k < ns.length) → ks.filterMap (ns[·]?) = ks.map (ns.getD · 0) := by
    intro ks
    induction ks with
    | nil => intro _; rfl
    | cons k ks ih =>
      intro hk
      have h1 := hk k (.head _)
      rw [List.filterMap_cons, List.map_cons, ih fun q hq => hk q (.tail _ hq)]
      simp [List.getElem?_eq_getElem h1, List.getD_eq_getElem?_getD]
  exact this _ fun k hk => slots_mem hh hk
theorem pick_length {ns : List Int} {b h : Nat} (hh : 1 ≤ h) : (pickNums ns (some (b : Int)) none (some (h : Int))).length = (slots (b : Int) (h : Int) ns.length).length := by
  rw [pick_map hh, List.length_map]

theorem lay_len (ns : List Int) (h : Int) : ∀ (ks f : List Int), (ks.foldl (lay1 ns h) f).length = f.length
  | [], _ => rfl
  | k :: ks, f => by rw [List.foldl_cons, lay_len ns h ks, lay1, putL_length]
theorem laid_len (ns : List Int) (h : Int) : (laid ns h).length = ns.length := lay_len ns h _ _

theorem lent_none {h g : Heap} {D : Addr} (x : Lent [] h g) (e : g.get? D = none) : h.get? D = none := by
  cases q : h.get? D with
  | none => rfl
  | some o => have := x.stay D o q (by simp); rw [e] at this; cases this

theorem put_one {xs ys : List Value} (e : ys.length = xs.length) : xs.toArray.extract 0 (sliceBounds (some 0) none (some 1) xs.toArray.size).1.toNat ++ ys.toArray ++ xs.toArray.extract (max (sliceBounds (some 0) none (some 1) xs.toArray.size).1 (sliceBounds (some 0) none (some 1) xs.toArray.size).2.1).toNat xs.toArray.size = (putL xs (slots 0 1 xs.length) ys).toArray := by
  have hs : slots 0 1 xs.length = (List.range ys.length).map (0 + ·) := by
    have e2 : slots 0 1 xs.length = slots ((0 : Nat) : Int) ((1 : Nat) : Int) xs.length := rfl
    rw [e2, slots_nat 0 1 xs.length (Nat.le_refl 1), e]
    simp
  rw [hs, put_tail ys xs 0 (by omega)]
  simp [sliceBounds]
  have e0 : (max 0 (min 0 (xs.length : Int))).toNat = 0 := by omega
  have e1 : (max 0 (max (min 0 (xs.length : Int)) (xs.length : Int))).toNat = xs.length := by omega
  rw [e0, e1]
  simp
end Mine
namespace Mine
set_option maxHeartbeats 4000000 in
theorem laid_c (w : World) (mean : ExcName → Option Value) (mg mb : Str → Option Value) (l : Addr) (vs : List Value) (ns : List Int) (h : Int) (t : Tok) :
    At w mean mg mb 10 67 [.ref l, .int h t] (fun _ hp _ => hp.IsList l vs.toArray ∧ IntsAre vs ns ∧ ns.length ≤ 1000 ∧ 1 ≤ h ∧ h ≤ 5)
      (fun s Q => ∀ D vs' n' h' tk', Keeps s.heap h' → s.heap.get? D = none → h'.get? D = some (listOf vs'.toArray n') → IntsAre vs' (laid ns h) → Q (.ref D) { s with heap := h', toks := tk' }) := by
  w_top off
  unfold At
  k_fill
  intro dp un gd cn cs a ccd cl outer A₀ base h₀ L m s Q E B F X T hk hdp hun hpre hret
  obtain ⟨hl, hi, hlen, hh1, hh2⟩ := hpre
  have N : News h₀ L s.heap [] := News.nil
  refine wpAny_call ?_
  k_dflt (refine' own_def ?k1 ?k2 ?k3 ?k4 ?k5 ?kA ?kF ?kK ?k6 ?k7 ?k8 ?k9 ?kB ?_ ?c2 ?c3 ?c4 ?c5; (case kA => exact rfl); (case kF => exact rfl); (case kK => assumption); (case k1 => k_asm); (case k2 => k_asm); (case k3 => k_asm); (case k4 => exact N); (case k5 => k_asm); (case k6 => k_is); (case k7 => k_is); (case k8 => ktr_room); (case k9 => exact BindsTo.of_eq rfl); (case c5 => decide); (case kB => exact locs rfl); (case c2 => exact rfl); (case c3 => exact rfl); (case c4 => exact rfl); k_whole)
  intro g' L' h' lent' F' N' B' X' T'
  have hl' := lent_list0 lent' hl
  (try dsimp only)
  (try k_fold)
  iterate 11 walk1
  walk1
  (rename Fr _ _ _ _ => lF'); (with_unfolding_all refine' For_invVF lF' ?k1 ?k2 ?_; (case k1 => exact rfl); (case k2 => exact rfl))
  iterate 7 walk1
  rename IsRange _ _ _ _ _ _ _ _ => hR
  rename Fr _ _ _ _ => F1
  rename News _ _ _ _ => N1
  have hD0 : g'.get? _ = none := News.fresh N1 (List.Mem.head _)
  refine kst_range (fun c : List Value × Nat => [(_, listOf c.1.toArray c.2)]) (fun _ => []) (fun _ => True) [Str.ofString "order", Str.ofString "number"] (fun pre c => IntsAre c.1 (pre.foldl (lay1 ns h) ns)) (vs, _) rfl hR (small_one (by decide) (by decide) (by omega) (by omega)) (rangeSize_nat _ _) F1 N1 trivial (fun p hp => nomatch hp) hi ?turn ?done
  case turn =>
    intro c pre k tk1 u h1 tk2 own hk hkn hoff _ hP F2 N2
    dsimp only at F2 N2 ⊢
    iterate 4 walk1
    refine newList_K F2 N2 ?_
    intro O h2 F3 N3 lO
    iterate 3 walk1
    (rename Fr _ _ _ _ => lF'); (with_unfolding_all refine' For_invVF lF' ?k1 ?k2 ?_; (case k1 => exact rfl); (case k2 => exact rfl))
    have lS : O < _ := Heap.lt_size (News.get (by assumption) (List.Mem.head _))
    iterate 9 walk1
    rename Fr _ _ _ _ => F4
    rename News _ _ _ _ => N4
    have hneS : @Ne Nat _ O := (Nat.ne_of_lt (Nat.lt_succ_of_lt lS)).symm
    have hsep : ∀ p ∈ [(_, listOf c.1.toArray c.2)] ++ own, p.1 ≠ O := fun p hp => Nat.ne_of_lt (lO p hp)
    have hO0 := News.fresh N3 (List.Mem.head _)
    have hOL := (N3 _ (List.Mem.head _)).2.1
    refine kst_listL (fun d : List Value × Nat => (_, listOf (slicePick vs.toArray (some k) none (some h)).toList.toArray 0) :: (O, listOf d.1.toArray d.2) :: ([(_, listOf c.1.toArray c.2)] ++ own)) (fun _ => []) (fun _ => True) [] (fun pre d => IntsAre d.1 (isort pre)) ([], 0) rfl (fun _ => List.Mem.head _) (hi.pick (some k) none (some h)) F4 N4 trivial (fun p hp => nomatch hp) IntsAre.nil ?turn2 ?done2
    case turn2 =>
      intro d pre2 post2 n tk3 u2 h3 tk4 own2 hns hn hoff2 _ hP2 F5 N5
      dsimp only at F5 N5 hoff2 ⊢
      have hl2 : (isort pre2).length ≤ 1000 := by
        have h1 := length_pickNums_le hi (some k) none (some h)
        rw [hns, List.length_append] at h1
        rw [isort_length]; omega
      have hsep2 : ∀ p ∈ ([(_, listOf c.1.toArray c.2)] ++ own) ++ own2, p.1 ≠ O := fun p hp => (List.mem_append.mp hp).elim (hsep p) fun hq => hoff2 p hq O (by simp)
      iterate 11 walk1
      k_dflt (refine' At.use (insort w mean mg mb O d.1 d.2 (isort pre2) n tk3) ?k1 ?k2 ?k3 ?k4 ?k5 ?k6 ?k7 ?k8 ?_; (case k1 => k_asm); (case k2 => exact F5); (case k3 => k_asm); (case k4 => k_asm); (case k5 => exact rfl); (case k6 => ktr_room); (case k7 => ktr_units); (case k8 => exact ⟨News.get N5 (by simp), hOL, hO0, hP2, hl2, isort_sorted _⟩))
      intro vs6 n6 h6 tk6 kb ho6 hi6
      have F6 := fr_but F5 hOL hO0 kb
      have N6 := news_put (pre := [(_, listOf (slicePick vs.toArray (some k) none (some h)).toList.toArray 0)]) (post := ([(_, listOf c.1.toArray c.2)] ++ own) ++ own2) N5 (fun p hp => by rw [List.mem_singleton.mp hp]; exact hneS) hsep2 kb ho6
      walk1
      refine kst_end (vs6, n6) F6 N6 memA memB rfl trivial (fun p hp => nomatch hp) (fun z hz _ _ => by simp [hz, kstB]) (by rw [isort_snoc]; exact hi6)
    case done2 =>
      intro d u2 h3 tk3 _ hP2 F5 N5
      dsimp only at F5 N5 ⊢
      iterate 10 walk1
      dsimp only
      have hcl : c.1.length = ns.length := by rw [hP.length, lay_len]
      obtain ⟨kn, rfl⟩ : ∃ kn : Nat, k = (kn : Int) := ⟨pre.length, by omega⟩
      obtain ⟨hn, rfl⟩ : ∃ hn : Nat, h = (hn : Int) := ⟨h.toNat, by omega⟩
      have hdl : d.1.length = (slots (kn : Int) (hn : Int) ns.length).length := by rw [hP2.length, isort_length, pick_length (by omega)]
      have hdle : d.1.length ≤ 1000 := by
        have h1 := length_pickNums_le hi (some (kn : Int)) none (some (hn : Int))
        rw [hP2.length, isort_length]; omega
      refine setItem_slice (lo := some (kn : Int)) (hi := none) (st := some (hn : Int)) (Heap.get?_push_of_some _ (News.get N5 (.tail _ (.tail _ (.head _))))) (Heap.IsSliceOf.new h3 _ _ _) (.int _ _) .none (.int _ _) (by intro hh; have := Option.some.inj hh; omega) ((News.isList N5 (.tail _ (.head _))).push _) (hsep _ (.head _)) (by simp; omega) (by simp; omega)
        (putL c.1 (slots kn hn c.1.length) d.1).toArray (by simp [putL_length]) ?s1 ?s2 ?_
      case s1 =>
        intro hh
        have h1 : hn = 1 := by
          have : (hn : Int) = 1 := hh
          omega
        subst h1
        have h0 : kn = 0 := by omega
        subst h0
        refine put_one ?_
        rw [hdl, hcl, slots_nat _ _ _ (Nat.le_refl 1)]
        simp
      case s2 =>
        intro _
        refine ⟨?_, ?_⟩
        · rw [List.size_toArray, hdl, List.size_toArray, hcl]; rfl
        · show putA c.1.toArray (slots kn hn c.1.toArray.size) d.1.toArray.toList = _
          rw [putA_list]
          rfl
      intro h7 ho7 hs7
      have kb7 : KeepsBut _ h3 h7 := fun b o hb e => (hs7.2 b hb).trans (Heap.get?_push_of_some _ e)
      have F7 := fr_but F5 (N2 _ (.head _)).2.1 hD0 kb7
      have N7 := news_put (pre := []) (post := own) (kst_newsOf N5 fun p hp => .tail _ (.tail _ hp)) (fun p hp => nomatch hp) (fun p hp => hoff p hp _ (.head _)) kb7 ho7
      walk1
      refine kst_end (putL c.1 (slots kn hn c.1.length) d.1, c.2) F7 N7 ?hn ?ho rfl trivial (fun p hp => nomatch hp) ?hr ?hp
      case hn => exact fun p hp => by rw [List.mem_singleton.mp hp]; exact .head _
      case ho => exact fun p hp => .tail _ hp
      case hr =>
        intro z hz _ hst
        simp only [List.contains_cons, List.contains_nil, Bool.or_false, Bool.or_eq_false_iff, beq_eq_false_iff_ne, ne_eq] at hst
        simp [hz, hst.1, hst.2, kstB]
      case hp =>
        show IntsAre _ _
        rw [List.foldl_append]
        show IntsAre (putL c.1 (slots kn hn c.1.length) d.1) (lay1 ns hn _ kn)
        unfold lay1
        rw [show c.1.length = (pre.foldl (lay1 ns hn) ns).length from hP.length]
        exact ints_put hP2 hP
  case done =>
    intro c u h1 tk1 _ hP F2 N2
    dsimp only at F2 N2 ⊢
    iterate 3 walk1
    dsimp only
    exact hret _ _ _ _ _ (lent_keep lent' F2) (lent_none lent' hD0) (News.get N2 (.head _)) hP
end Mine
namespace Mine
def cmp3 (a b : Int) : Int := if a < b then -1 else if a > b then 1 else 0

abbrev tup1 (a : Int) (t : Tok) : Obj := { cls := .type "tuple", data := .seq #[.int a t] }
abbrev tcLed (w : World) (x dx CL P : Addr) (kt t0 t1 : Tok) : List (Addr × Obj) :=
  [(x, instObj 56 dx), (dx, dictOf [{ hash := PyData.keyHash w.params (Str.ofString "comp_select_list"), key := .str (Str.ofString "comp_select_list") kt, val := .ref CL }] 1),
    (CL, listOf #[.ref P] 0), (P, { cls := .type "tuple", data := .seq #[.int 0 t0, .int 1 t1] })]

theorem lent_keepN {h g h' : Heap} {L : Addr} {m : Str → Option Value} {news : List (Addr × Obj)} {h₀ : Heap} {L₀ : Addr} (x : Lent news h g) (N : News h₀ L₀ h news) (F : Fr g L h' m) (N' : News g L h' news) : Keeps h h' := by
  intro b o e
  by_cases hb : b ∈ news.map (·.1)
  · obtain ⟨p, hp, rfl⟩ := List.mem_map.mp hb
    rw [(N p hp).1] at e
    rw [← Option.some.inj e]
    exact (N' p hp).1
  · exact F.keep b o (x.stay b o e hb)

theorem cmp_ret {va vb r : Int} {s : Shared} {Q : Value → Shared → Prop} {h' : Heap} {t' : Tok} {tk' : Nat}
    (hret : ∀ t' h' tk', Keeps s.heap h' → Q (.int (cmp3 va vb) t') { s with heap := h', toks := tk' }) (e : r = cmp3 va vb) (hk : Keeps s.heap h') : Q (.int r t') { s with heap := h', toks := tk' } := by
  rw [e]
  exact hret _ _ _ hk

local macro_rules | `(tactic| walk_at "exec For Tuple Attribute cons nil") => `(tactic| (k_here; (rename Fr _ _ _ _ => lF'); (with_unfolding_all refine' For_turns lF' ?_; k_whole)))

set_option maxHeartbeats 4000000 in
theorem compare_c (w : World) (mean : ExcName → Option Value) (mg mb : Str → Option Value) (x dx CL P lt rt : Addr) (kt t0 t1 ta tb : Tok) (va vb : Int) :
    At w mean mg mb 3 53 [.ref x, .ref lt, .ref rt] (fun h₀ h L => News h₀ L h ((rt, tup1 vb tb) :: (lt, tup1 va ta) :: tcLed w x dx CL P kt t0 t1))
      (fun s Q => ∀ t' h' tk', Keeps s.heap h' → Q (.int (cmp3 va vb) t') { s with heap := h', toks := tk' }) := by
  w_top off
  unfold At
  k_fill
  intro dp un gd cn cs a ccd cl outer A₀ base h₀ L m s Q E B F X T hk hdp hun N hret
  refine wpAny_call ?_
  k_dflt (refine' own_def ?k1 ?k2 ?k3 ?k4 ?k5 ?kA ?kF ?kK ?k6 ?k7 ?k8 ?k9 ?kB ?_ ?c2 ?c3 ?c4 ?c5; (case kA => exact rfl); (case kF => exact rfl); (case kK => assumption); (case k1 => k_asm); (case k2 => k_asm); (case k3 => k_asm); (case k4 => exact N); (case k5 => k_asm); (case k6 => k_is); (case k7 => k_is); (case k8 => ktr_room); (case k9 => exact BindsTo.of_eq rfl); (case c5 => decide); (case kB => exact locs rfl); (case c2 => exact rfl); (case c3 => exact rfl); (case c4 => exact rfl); k_whole)
  intro g' L' h' lent' F' N' B' X' T'
  (try dsimp only)
  (try k_fold)
  k_steps
  all_goals ((try dsimp only); refine' cmp_ret hret ?e (lent_keepN lent' N ?f ?n); (case f => assumption); (case n => first | assumption | exact kst_newsOf (by assumption) (fun p hp => .tail _ hp)); (case e => simp [cmp3, *]))
end Mine
namespace Mine
section
variable {prog : Program} {w : World} {A₀ A : Around} {s : Shared} {base h₀ : Heap} {outer : List Env} {L : Addr} {m mg mb : Str → Option Value} {env : Env} {news : List (Addr × Obj)} {K : Frag}
  {p : Program} {loose : List Str} {mean : ExcName → Option Value}
  {R : Result → Shared → Prop} {name qual : Str} {params : Arguments} {body : List Stmt} {scope : Scope} {dV kV doc pm cdv ct oc : Value} {an od : Option Addr} {osl : Array (Option Value)} {f : Addr} {args : Args} {binds : List (Str × Value)}

theorem own_defC (B : Below A₀ base outer h₀) (F : Fr h₀ L s.heap m) (X₀ : K.In h₀) (N : News h₀ L s.heap news) (T : Top p loose mean mg mb h₀) (hA : A.frames = some (env :: outer)) (hf : env.frame = some L) (hke : env.scope.kind = .function)
    (ho : K.lookup f = some ⟨oc, od, .func (fnOf name qual params body scope dV kV doc pm an cdv ct), osl⟩) (hcd : codeIn K cdv qual = true) (hroom : A.depth < recursionLimit)
    (hbind : BindsTo s (fnOf name qual params body scope dV kV doc pm an cdv ct) args binds) (hkind : (binds.all fun y => scope.names.lookup y.1 == some .local || scope.names.lookup y.1 == some .cell) = true)
    (hnd : ((cellsFrom 0 scope.names []).map (·.1)).Nodup)
    (h : ∀ g L' h₁ tk cells, Lent news s.heap g → Fr g L' h₁ (bindL (envOfC qual scope L' f cdv).kindOf binds fun _ => none) → News g L' h₁ (cells ++ news) →
      CellsAre (bindC (envOfC qual scope L' f cdv).kindOf binds fun _ => none) (cellsFrom (L' + 1) scope.names []) cells → Below A base (env :: outer) g → K.In g → Top p loose mean mg mb g → (∀ p ∈ news, p.1 < L') →
      wpAny (model prog w) (A.deeper (envOfC qual scope L' f cdv)) (execs body (envOfC qual scope L' f cdv))
        (fun fl s' => R (.ok (.ret (match fl with | .ret v => v | _ => .none))) s')
        (fun e s' => wpAny (model prog w) (A.deeper (envOfC qual scope L' f cdv)) (leaving (envOfC qual scope L' f cdv) e) (fun _ s'' => R (.error e) s'') (fun e' s'' => R (.error e') s'') s')
        { s with heap := h₁, toks := tk })
    (hco : scope.isCoroutine = false) (hgen : scope.isGenerator = false) (hk : scope.kind = .function) : codeAny (model prog w) A (.call (.ref f) args) R s := by
  obtain ⟨_, BG, st, _⟩ := groundX (R := R) B F N hA hf hke
  have hlim := T.nolimit.keeps F.keep
  refine codeAny_call_function hroom ((X₀.keeps F.keep) _ _ ho) rfl hco hgen rfl (codeRec_of (X₀.keeps F.keep) hcd) (hbind _ _ _ _ ?_)
  refine wpAny_newFunctionEnv_cells hk (kindsX hkind _) fun env' he s' x => ?_
  subst he
  refine ⟨hlim.keeps x.toInCall.keep, codeAny_func ?_⟩
  obtain ⟨h₁, tk, rfl, _⟩ := x.done
  have hk₁ := x.toInCall.keep
  obtain ⟨cells, NC, Y⟩ := Cl.news (h₀ := s.heap) (Nat.le_refl _) fun n c hm => ⟨x.cell n c (lookup_of_mem_nodup (cellsFrom_names scope.names 0 (s.heap.objs.size + 1) [] [] rfl ▸ hnd) hm), x.above n c hm⟩
  refine h _ s.heap.objs.size h₁ tk cells (lent_of news s.heap) ⟨x.toInCall.ns, fun b o e => hk₁ b o (of_hideAll _ e), Nat.le_of_eq (hideAll_size _ _)⟩ (fun q hq => ?_) Y BG (X₀.keeps st) (T.keeps st) (fun q hq => Heap.lt_size (N q hq).1)
  rcases List.mem_append.mp hq with hq | hq
  · refine ⟨(NC q hq).1, (NC q hq).2.1, ?_⟩
    cases e : (hideAll s.heap (news.map (·.1))).get? q.1 with
    | none => rfl
    | some o => have := of_hideAll _ e; rw [(NC q hq).2.2] at this; cases this
  · exact ⟨hk₁ _ _ (N q hq).1, Nat.ne_of_lt (Heap.lt_size (N q hq).1), hideAll_none _ (List.mem_map_of_mem hq)⟩
end
end Mine
namespace Mine
theorem cmp3_pos (a b : Int) : 0 < cmp3 a b ↔ a > b := by unfold cmp3; split <;> (try split) <;> omega
theorem grows_if (p : Int → Prop) [DecidablePred p] : KPfGrows fun acc k => if p k then acc ++ [k] else acc := by
  intro l k
  dsimp only
  split <;> simp
theorem foldl_filter (p : Int → Prop) [DecidablePred p] : ∀ (ks acc : List Int), ks.foldl (fun acc k => if p k then acc ++ [k] else acc) acc = acc ++ ks.filter (fun k => decide (p k))
  | [], acc => by simp
  | k :: ks, acc => by
    rw [List.foldl_cons, foldl_filter p ks, List.filter_cons]
    by_cases h : p k <;> simp [h]

theorem mem_ks {a : Int} {n : Nat} {k : Int} : k ∈ rangeKs a n ↔ a ≤ k ∧ k < a + n := by
  simp only [rangeKs, List.mem_map, List.mem_range]
  constructor
  · rintro ⟨i, hi, rfl⟩; omega
  · rintro ⟨h1, h2⟩; exact ⟨(k - a).toNat, by omega, by omega⟩
/-- in order by steps of h -/
def Right (ns : List Int) (h : Int) : Prop := ∀ k : Nat, k < ns.length → h ≤ k → ns.getD (k - h.toNat) 0 ≤ ns.getD k 0
theorem right_iff (ns : List Int) (h : Int) (hh : 1 ≤ h) :
    (rangeKs h (ns.length - h).toNat).foldl (fun acc k => if ns.getD (k - h).toNat 0 > ns.getD k.toNat 0 then acc ++ [k] else acc) [] = [] ↔ Right ns h := by
  rw [foldl_filter (fun k => ns.getD (k - h).toNat 0 > ns.getD k.toNat 0), List.nil_append, List.filter_eq_nil_iff]
  constructor
  · intro H k hk hhk
    have := H (k : Int) (mem_ks.mpr ⟨hhk, by omega⟩)
    simp only [decide_eq_true_eq, Int.toNat_natCast, Int.not_lt, gt_iff_lt] at this
    rw [show ((k : Int) - h).toNat = k - h.toNat by omega] at this
    exact this
  · intro H k hk
    obtain ⟨h1, h2⟩ := mem_ks.mp hk
    have := H k.toNat (by omega) (by omega)
    rw [show k.toNat - h.toNat = (k - h).toNat by omega] at this
    simp only [decide_eq_true_eq, gt_iff_lt, Int.not_lt]
    exact this

def rightB (ns : List Int) (h : Int) : Bool :=
  decide ((rangeKs h (ns.length - h).toNat).foldl (fun acc k => if ns.getD (k - h).toNat 0 > ns.getD k.toNat 0 then acc ++ [k] else acc) [] = [])
theorem rightB_iff (ns : List Int) (h : Int) (hh : 1 ≤ h) : rightB ns h = true ↔ Right ns h := by
  unfold rightB
  rw [decide_eq_true_eq, right_iff ns h hh]

local macro_rules | `(tactic| k_room) => `(tactic| ktr_room)
local macro_rules | `(tactic| walk_at "call ref") => `(tactic| (k_here; (with_reducible show wpAny _ _ (call (Value.ref 53) [_, _, _]) _ _ _); k_dflt (refine' At.use (compare_c _ _ _ _ _ _ _ _ _ _ _ _ _ _ _ _ _) ?k1 ?k2 ?k3 ?k4 ?k5 ?k6 ?k7 ?k8 ?_; (case k1 => k_asm); (case k2 => k_asm); (case k3 => k_asm); (case k4 => k_asm); (case k5 => exact rfl); (case k6 => ktr_room); (case k7 => ktr_units); (case k8 => exact kst_newsOf (by assumption) (by kst_allIn))); intro t' h' tk' kp'; (have F' := Fr.keeps (by k_asm) kp'); (have N' := News.grown (by k_asm) kp'); clear kp'; k_sweep))

local macro_rules | `(tactic| walk_at "subscriptTail Name Name ref int") => `(tactic| ((with_reducible show wpAny _ _ (subscriptTail _ _ (Value.ref _) (Value.int _ _)) _ _ _); (with_unfolding_all refine' item_list_ints ?k1 ?k2 ?k3 ?k4 ?k5 ?_; (case k1 => is_list); (case k2 => assumption); (case k3 => omega); (case k4 => omega); (case k5 => omega); k_whole); intro _))
local macro_rules | `(tactic| walk_at "subscriptTail Name BinOp ref int") => `(tactic| ((with_reducible show wpAny _ _ (subscriptTail _ _ (Value.ref _) (Value.int _ _)) _ _ _); (with_unfolding_all refine' item_list_ints ?k1 ?k2 ?k3 ?k4 ?k5 ?_; (case k1 => is_list); (case k2 => assumption); (case k3 => omega); (case k4 => omega); (case k5 => omega); k_whole); intro _))
local macro_rules | `(tactic| walk_at "CompEnd") => `(tactic| (k_here; first
  | (refine' LCg.CompEnd.intro ?F ?N _ ?sub ?off trivial (kci_el ?e rfl rfl); (case F => k_asm); (case N => k_asm); (case sub => kst_allIn); (case off => assumption))
  | (refine' LCg.CompEnd.intro ?F ?N _ ?sub ?off trivial (kci_no ?e rfl); (case F => k_asm); (case N => k_asm); (case sub => kst_allIn); (case off => assumption))))

set_option maxHeartbeats 4000000 in
theorem right_c (w : World) (mean : ExcName → Option Value) (mg mb : Str → Option Value) (l : Addr) (vs : List Value) (ns : List Int) (h : Int) (t : Tok) :
    At w mean mg mb 10 77 [.ref l, .int h t] (fun _ hp _ => hp.IsList l vs.toArray ∧ IntsAre vs ns ∧ ns.length ≤ 1000 ∧ 1 ≤ h ∧ h ≤ 2000)
      (fun s Q => ∀ h' tk', Keeps s.heap h' → Q (.bool (rightB ns h)) { s with heap := h', toks := tk' }) := by
  w_top off
  unfold At
  k_fill
  intro dp un gd cn cs a ccd cl outer A₀ base h₀ L m s Q E B F X T hk hdp hun hpre hret
  obtain ⟨hl, hi, hlen, hh1, hh2⟩ := hpre
  have N : News h₀ L s.heap [] := News.nil
  refine wpAny_call ?_
  k_dflt (refine' own_defC ?k1 ?k2 ?k3 ?k4 ?k5 ?kA ?kF ?kK ?k6 ?k7 ?k8 ?k9 ?kB ?kD ?_ ?c2 ?c3 ?c4; (case kA => exact rfl); (case kF => exact rfl); (case kK => assumption); (case k1 => k_asm); (case k2 => k_asm); (case k3 => k_asm); (case k4 => exact N); (case k5 => k_asm); (case k6 => k_is); (case k7 => k_is); (case k8 => ktr_room); (case k9 => exact BindsTo.of_eq rfl); (case kB => exact rfl); (case kD => decide +kernel); (case c2 => exact rfl); (case c3 => exact rfl); (case c4 => exact rfl); k_whole)
  intro g' L' h' tk' cells' lent' F' N' Y' B' X' T' l1
  (try k_lt l1); k_cells Y'; (try simp only [List.cons_append, List.nil_append] at N')
  have hl' := lent_list0 lent' hl
  (try dsimp only)
  (try k_fold)
  iterate 33 ((try (k_unfold; (try dsimp only))); (first | walk1 | (dsimp only; walk1)))
  lct_look
  lcg_calm
  k_dflt (refine LCt.ListComp_T (F₀ := by k_asm) (by with_unfolding_all rfl) (by decide) (by rfl) (by decide) (by rfl) ?_)
  iterate 15 walk1
  k_dflt (refine LCt.CompSrcT.range (by rfl) (by k_asm) (by k_asm) (by assumption) (small_one (by omega) (by omega) (by omega) (by omega)) (rangeSize_nat _ _) (by rw [PySem.sizeLine_eq]; omega) ?_)
  intro g2
  refine' kci_range (fun acc k => if ns.getD (k - h).toNat 0 > ns.getD k.toNat 0 then acc ++ [k] else acc) (fun k' t' I' oI' C' oC' D' m' ys' l' h' tk' E' hlo' hhi' hI' hC' hx' F' N' off' ne' mk' => ?_) ?_ ?_
  · (try k_fold)
    k_steps
    · rename 0 < cmp3 _ _ => hc
      rw [if_pos ((cmp3_pos _ _).mp hc)]
    · rename ¬ 0 < cmp3 _ _ => hc
      refine' LCg.CompEnd.intro ?F ?N _ ?sub ?off trivial (kci_no ?e rfl)
      case F => assumption
      case N => assumption
      case sub => kst_allIn
      case off => assumption
      case e => rw [if_neg (fun q => hc ((cmp3_pos _ _).mpr q))]
  · intro ys hys hyl D h5 tk5 F5 N5 off5
    dsimp only
    k_steps
    exact hret _ _ (lent_keep lent' (by assumption))
  · exact grows_if (fun k => ns.getD (k - h).toNat 0 > ns.getD k.toNat 0)
end Mine
namespace Mine
theorem turn_in (elt ct iter : Expr) (target : Expr) (g : Comprehension) (scope : Scope) (pos : Pos) (it acc : Value) (env : Env) :
    compTurn (.ListComp elt [g, ⟨target, iter, [ct], 0⟩] scope pos) 1 it acc env = (standAt iter.pos >>= fun _ => pyNext it >>= fun r => match r with
      | none => pure (.done .next)
      | some v => letOwnedTupleGo target it v >>= fun _ => assign target env v >>= fun _ =>
        (forIn [ct] true fun c r => if r = true then do let ok ← isTrue c env (eval c env); pure (ForInStep.yield ok) else pure (ForInStep.yield r)) >>= fun ok =>
        if ok = true then (eval elt env >>= fun x => call (.builtin "list.append") [acc, x] >>= fun _ => pure ()) >>= fun _ =>
          again (.compLoop (.ListComp elt [g, ⟨target, iter, [ct], 0⟩] scope pos) 1 it acc env)
        else again (.compLoop (.ListComp elt [g, ⟨target, iter, [ct], 0⟩] scope pos) 1 it acc env)) := by rfl

theorem turn_out (elt iter : Expr) (target : Expr) (target1 iter1 : Expr) (ifs1 : List Expr) (scope : Scope) (pos : Pos) (it acc : Value) (env : Env) :
    compTurn (.ListComp elt [⟨target, iter, [], 0⟩, ⟨target1, iter1, ifs1, 0⟩] scope pos) 0 it acc env = (standAt iter.pos >>= fun _ => pyNext it >>= fun r => match r with
      | none => pure (.done .next)
      | some v => letOwnedTupleGo target it v >>= fun _ => assign target env v >>= fun _ =>
        eval iter1 env >>= fun x => standAt iter1.pos >>= fun _ => foldedSetIterable iter1 env x >>= fun x => holding [x] (pyIter x) >>= fun i1 =>
          runOwn (.compStart (.ListComp elt [⟨target, iter, [], 0⟩, ⟨target1, iter1, ifs1, 0⟩] scope pos) 1 i1 acc env) env >>= fun _ =>
          again (.compLoop (.ListComp elt [⟨target, iter, [], 0⟩, ⟨target1, iter1, ifs1, 0⟩] scope pos) 0 it acc env)) := by rfl

section
variable {prog : Program} {w : World} {A : Around} {E : Value → Shared → Prop} {R : Result → Shared → Prop} {s : Shared}

theorem loop_in {elt ct iter target : Expr} {g : Comprehension} {scope : Scope} {pos : Pos} {it acc : Value} {env : Env} (I : Nat → Shared → Prop)
    (turn : ∀ n s, I n s → wpAny (model prog w) A (pyNext it) (fun r s₁ => match r with
      | none => R (.ok .next) s₁
      | some v => wpAny (model prog w) A (assign target env v) (fun _ s₂ =>
          wpAny (model prog w) A (isTrue ct env (eval ct env)) (fun ok s₃ =>
            if ok = true then wpAny (model prog w) A (eval elt env) (fun x s₄ =>
              wpAny (model prog w) A (call (.builtin "list.append") [acc, x]) (fun _ s₅ => ∃ m, m < n ∧ I m s₅) (notedBy (model prog w) A env fun e s' => R (.error e) s') s₄) (notedBy (model prog w) A env fun e s' => R (.error e) s') s₃
            else ∃ m, m < n ∧ I m s₃) (notedBy (model prog w) A env fun e s' => R (.error e) s') s₂) (notedBy (model prog w) A env fun e s' => R (.error e) s') s₁) (notedBy (model prog w) A env fun e s' => R (.error e) s') s)
    (n : Nat) (h : I n s) (ht : ∀ v, letOwnedTupleGo target it v = pure ()) :
    codeAny (model prog w) A (.compLoop (.ListComp elt [g, ⟨target, iter, [ct], 0⟩] scope pos) 1 it acc env) R s := by
  refine codeAny_loop rfl I (fun n s hI => ?_) n h
  show wpAny _ A ((compTurn (.ListComp elt [g, ⟨target, iter, [ct], 0⟩] scope pos) 1 it acc env).onRaise (fun x => do noteFrame x env; theTreesLotGoes x)) _ _ s
  refine wpAny_noted ?_
  rw [turn_in]
  refine wpAny_bind (wpAny_standAt (wpAny_bind (wpAny_mono (turn n s hI) (fun r s₁ h₁ => ?_) fun _ _ h' => h')))
  cases r with
  | none => exact wpAny_pure h₁
  | some v =>
    refine wpAny_bind (wpAny_of_eq (ht v) ?_)
    refine wpAny_bind (wpAny_mono h₁ (fun _ s₂ h₂ => wpAny_bind (wpAny_tests_one (wpAny_mono h₂ (fun ok s₃ h₃ => ?_) fun _ _ h' => h'))) fun _ _ h' => h')
    cases ok with
    | false => exact wpAny_pure ⟨rfl, h₃⟩
    | true =>
      exact wpAny_bind (wpAny_bind (wpAny_mono h₃ (fun x s₄ h₄ => wpAny_bind (wpAny_mono h₄ (fun _ s₅ h₅ => wpAny_pure (wpAny_pure ⟨rfl, h₅⟩)) fun _ _ h' => h')) fun _ _ h' => h'))

theorem start_in {elt ct iter target : Expr} {g : Comprehension} {scope : Scope} {pos : Pos} {it acc : Value} {env : Env}
    (h0 : codeAny (model prog w) A (.compLoop (.ListComp elt [g, ⟨target, iter, [ct], 0⟩] scope pos) 1 it acc env) R s)
    (h : wpAny (model prog w) A (pyIter it) (fun it' s' => codeAny (model prog w) A (.compLoop (.ListComp elt [g, ⟨target, iter, [ct], 0⟩] scope pos) 1 it' acc env) R s')
      (notedBy (model prog w) A env fun x s' => R (.error x) s') s) :
    codeAny (model prog w) A (.compStart (.ListComp elt [g, ⟨target, iter, [ct], 0⟩] scope pos) 1 it acc env) R s := by
  refine codeAny_of_tree ?_
  show wpAny _ _ ((compStart (.ListComp elt [g, ⟨target, iter, [ct], 0⟩] scope pos) 1 it acc env).onRaise (fun x => do noteFrame x env; standAt theWindowsPlace)) _ _ s
  refine wpAny_notedAt ?_
  unfold compStart
  show wpAny _ _ (ask >>= _) _ _ s
  refine wpAny_bind (wpAny_askSetting (wpAny_ite ?_))
  split
  · first
      | exact wpAny_bind (wpAny_pure (wpAny_pure (And.intro rfl h0)))
      | exact wpAny_pure (And.intro rfl h0)
  · refine wpAny_bind (wpAny_rule ?_)
    show wpAny _ _ (standAt iter.pos >>= _) _ _ s
    exact wpAny_bind (wpAny_standAt (wpAny_bind (wpAny_mono h (fun it' s' h' => wpAny_pure (And.intro rfl h')) fun _ _ x => x)))

theorem loop_out {elt iter target target1 iter1 : Expr} {ifs1 : List Expr} {scope : Scope} {pos : Pos} {it acc : Value} {env : Env} (I : Nat → Shared → Prop)
    (turn : ∀ n s, I n s → wpAny (model prog w) A (pyNext it) (fun r s₁ => match r with
      | none => R (.ok .next) s₁
      | some v => wpAny (model prog w) A (assign target env v) (fun _ s₂ =>
          wpAny (model prog w) A (eval iter1 env) (fun x s₃ => wpAny (model prog w) A (pyIter x) (fun i1 s₄ =>
            codeAny (model prog w) A (.compStart (.ListComp elt [⟨target, iter, [], 0⟩, ⟨target1, iter1, ifs1, 0⟩] scope pos) 1 i1 acc env)
              (fun r s' => match r with | .ok _ => ∃ m, m < n ∧ I m s' | .error _ => False) s₄) (notedBy (model prog w) A env fun e s' => R (.error e) s') s₃) (notedBy (model prog w) A env fun e s' => R (.error e) s') s₂) (notedBy (model prog w) A env fun e s' => R (.error e) s') s₁) (notedBy (model prog w) A env fun e s' => R (.error e) s') s)
    (n : Nat) (h : I n s) (ht : ∀ v, letOwnedTupleGo target it v = pure ()) (hf : ∀ x, foldedSetIterable iter1 env x = pure x) :
    codeAny (model prog w) A (.compLoop (.ListComp elt [⟨target, iter, [], 0⟩, ⟨target1, iter1, ifs1, 0⟩] scope pos) 0 it acc env) R s := by
  refine codeAny_loop rfl I (fun n s hI => ?_) n h
  show wpAny _ A ((compTurn (.ListComp elt [⟨target, iter, [], 0⟩, ⟨target1, iter1, ifs1, 0⟩] scope pos) 0 it acc env).onRaise (fun x => do noteFrame x env; theTreesLotGoes x)) _ _ s
  refine wpAny_noted ?_
  rw [turn_out]
  refine wpAny_bind (wpAny_standAt (wpAny_bind (wpAny_mono (turn n s hI) (fun r s₁ h₁ => ?_) fun _ _ h' => h')))
  cases r with
  | none => exact wpAny_pure h₁
  | some v =>
    refine wpAny_bind (wpAny_of_eq (ht v) ?_)
    refine wpAny_bind (wpAny_mono h₁ (fun _ s₂ h₂ => wpAny_bind (wpAny_mono h₂ (fun x s₃ h₃ => ?_) fun _ _ h' => h')) fun _ _ h' => h')
    refine wpAny_bind (wpAny_standAt (wpAny_bind (wpAny_of_eq (hf x) (wpAny_bind (wpAny_holding (wpAny_mono h₃ (fun i1 s₄ h₄ => ?_) fun _ _ h' => h'))))))
    refine wpAny_bind (wpAny_runOwn (h := none) (codeAny_mono h₄ fun r s' hr => ?_))
    cases r with
    | ok f => exact wpAny_pure ⟨rfl, hr⟩
    | error e => exact hr.elim
end
end Mine
namespace Mine
open PyProof.Rows.LCg
/-- an iterator, a comprehension's frame and its list stand apart from each other and from the ledger -/
structure Sep (h₀ : Heap) (L I C D : Addr) (news : List (Addr × Obj)) : Prop where
  IL : I ≠ L
  CL : C ≠ L
  DL : D ≠ L
  IC : I ≠ C
  ID : I ≠ D
  CD : C ≠ D
  offI : ∀ p ∈ news, p.1 ≠ I
  offC : ∀ p ∈ news, p.1 ≠ C
  offD : ∀ p ∈ news, p.1 ≠ D
  I0 : h₀.get? I = none
  C0 : h₀.get? C = none
  D0 : h₀.get? D = none

section
variable {h₀ h h' : Heap} {L I C D : Addr} {news : List (Addr × Obj)} {m : Str → Option Value}
theorem fr_b {d : Addr} (F : Fr h₀ L h m) (hk : ∀ b o, b ∉ [d] → h.get? b = some o → h'.get? b = some o) (hL : d ≠ L) (hI : h₀.get? d = none) : Fr h₀ L h' m :=
  fr_but F hL hI fun b o hb e => hk b o (by simpa using hb) e
theorem news_b {d : Addr} (N : News h₀ L h news) (hk : ∀ b o, b ∉ [d] → h.get? b = some o → h'.get? b = some o) (off : ∀ p ∈ news, p.1 ≠ d) : News h₀ L h' news :=
  fun p hp => ⟨hk _ _ (by simpa using off p hp) (N p hp).1, (N p hp).2⟩
theorem news_same {d : Addr} (N : News h₀ L h news) (hs : Heap.SameBut d h h') (off : ∀ p ∈ news, p.1 ≠ d) : News h₀ L h' news :=
  fun p hp => ⟨hs.extBut _ _ (off p hp) (N p hp).1, (N p hp).2⟩
theorem off_cons {d : Addr} {q : Addr × Obj} (h1 : q.1 ≠ d) (h2 : ∀ p ∈ news, p.1 ≠ d) : ∀ p ∈ q :: news, p.1 ≠ d := fun p hp => by
  rcases List.mem_cons.mp hp with rfl | hp
  · exact h1
  · exact h2 p hp
end

theorem repl_snoc {ys : List Value} {a : Nat} {t : Tok} (h : IntsAre ys (List.replicate a 1)) : IntsAre (ys ++ [.int 1 t]) (List.replicate (a + 1) 1) := by
  rw [List.replicate_succ']
  exact h.append (.cons 1 t .nil)

section
variable {prog : Program} {w : World} {A : Around} {R : Result → Shared → Prop} {s : Shared} {h₀ : Heap} {L : Addr} {m : Str → Option Value} {env : Env}

theorem inner_run {elt ct iter : Expr} {g : Comprehension} {x y : Str} {py : Pos} {scope : Scope} {pos : Pos} {cl : List (Str × Addr)} {J C D : Addr} {news : List (Addr × Obj)} {k : Nat} {p : Nat → Bool} {a : Nat} {vx : Value}
    {ys : List Value} {m₁ : Str → Option Value} {h : Heap} {tk : Nat}
    (S : Sep h₀ L J C D news) (hh : A.handled = none) (hkind : scope.kind = .function) (hy : scope.names.lookup y = some .local) (hxy : x ≠ y) (hst : IsRangeIter h J 0 k 1) (F : Fr h₀ L h m) (hC : h.Ns C m₁) (hvx : m₁ x = some vx)
    (N : News h₀ L h ((D, lst ys) :: news)) (hi : IntsAre ys (List.replicate a 1)) (hsz : a + k ≤ 2000000)
    (h2 : ∀ (j : Nat) oJ oC ys m₂ h tk (E : Value → Shared → Prop), j < k → NsObj oC m₂ → m₂ x = some vx → (∃ t, m₂ y = some (.int j t)) → Fr h₀ L h m → News h₀ L h ((J, oJ) :: (C, oC) :: (D, lst ys) :: news) →
      wpAny (model prog w) A (isTrue ct (compEnvC scope cl C env) (eval ct (compEnvC scope cl C env))) (fun b s₁ => ∃ h' tk', s₁ = { s with heap := h', toks := tk' } ∧ b = p j ∧ Fr h₀ L h' m ∧ News h₀ L h' ((J, oJ) :: (C, oC) :: (D, lst ys) :: news)) E { s with heap := h, toks := tk })
    (h3 : ∀ (j : Nat) oJ oC ys m₂ h tk (E : Value → Shared → Prop), j < k → NsObj oC m₂ → m₂ x = some vx → (∃ t, m₂ y = some (.int j t)) → Fr h₀ L h m → News h₀ L h ((J, oJ) :: (C, oC) :: (D, lst ys) :: news) →
      wpAny (model prog w) A (eval elt (compEnvC scope cl C env)) (fun v s₁ => ∃ h' tk', s₁ = { s with heap := h', toks := tk' } ∧ (∃ t, v = .int 1 t) ∧ Fr h₀ L h' m ∧ News h₀ L h' ((J, oJ) :: (C, oC) :: (D, lst ys) :: news)) E { s with heap := h, toks := tk })
    (fin : ∀ ys' h tk m₂, IntsAre ys' (List.replicate (a + (List.range k).countP p) 1) → Fr h₀ L h m → h.Ns C m₂ → News h₀ L h ((D, lst ys') :: news) → R (.ok .next) { s with heap := h, toks := tk }) :
    codeAny (model prog w) A (.compLoop (.ListComp elt [g, ⟨.Name y py, iter, [ct], 0⟩] scope pos) 1 (.ref J) (.ref D) (compEnvC scope cl C env)) R { s with heap := h, toks := tk } := by
  have W := range_walks (prog := prog) (w := w) (I := J) hh 0 k
  refine loop_in
    (fun c s' => ∃ h' tk' i ys m', s' = { s with heap := h', toks := tk' } ∧ i ≤ k ∧ c = k + 1 - i ∧ IntsAre ys (List.replicate (a + (List.range i).countP p) 1) ∧ IsRangeIter h' J (0 + (i : Nat) * 1) ((k : Int) - (i : Nat)) 1 ∧ Fr h₀ L h' m ∧ h'.Ns C m' ∧ m' x = some vx ∧
      News h₀ L h' ((D, lst ys) :: news)) ?_ (k + 1)
    ⟨h, tk, 0, ys, m₁, rfl, Nat.zero_le _, rfl, by simpa using hi, by simpa using hst, F, hC, hvx, N⟩ (by intro _; rfl)
  rintro c s' ⟨h', tk', i, ys, m', rfl, hik, rfl, hi', hst', F', hC', hx', N'⟩
  by_cases hlt : i < k
  · refine W.item i _ _ _ hlt hst' fun v h₂ tk₂ hP hst₂ hk₂ => ?_
    obtain ⟨t, rfl⟩ := hP
    refine wpAny_assign_Name (wpAny_storeName_local (lookup_relabel_local hy) (hC'.at' fun o e => hk₂ _ o (by simpa using Ne.symm S.IC) e) (fun h₃ hn₃ hs₃ => ?_) (by simp [compEnvC, relabel, hkind]))
    have hs₃' : Heap.SameBut C h₂ h₃ := hs₃
    have hn₃' : h₃.Ns C (fun z => if z = y then some (Value.int (0 + (i : Int)) t) else m' z) := hn₃
    have F₂ : Fr h₀ L h₂ m := fr_b F' hk₂ S.IL S.I0
    have F₃ : Fr h₀ L h₃ m := F₂.change hs₃' S.CL S.C0
    have offJ : ∀ q ∈ (D, lst ys) :: news, q.1 ≠ J := off_cons (Ne.symm S.ID) S.offI
    have offC : ∀ q ∈ (D, lst ys) :: news, q.1 ≠ C := off_cons (Ne.symm S.CD) S.offC
    have N₂ := news_b N' hk₂ offJ
    have N₃ := news_same N₂ hs₃' offC
    obtain ⟨oC, heC, hoC⟩ := ns_obj hn₃'
    have hst₃ : IsRangeIter h₃ J (0 + ((i + 1 : Nat) : Int) * 1) ((k : Int) - ((i + 1 : Nat) : Int)) 1 := hs₃'.extBut _ _ S.IC hst₂
    have N₄ : News h₀ L h₃ ((J, _) :: (C, oC) :: (D, lst ys) :: news) := fun q hq => by
      rcases List.mem_cons.mp hq with rfl | hq
      · exact ⟨hst₃, S.IL, S.I0⟩
      · rcases List.mem_cons.mp hq with rfl | hq
        · exact ⟨heC, S.CL, S.C0⟩
        · exact N₃ q hq
    have hxn : (fun z => if z = y then some (Value.int (0 + (i : Int)) t) else m' z) x = some vx := by
      show (if x = y then _ else m' x) = _
      rw [if_neg hxy]; exact hx'
    have hyn : ∃ t', (fun z => if z = y then some (Value.int (0 + (i : Int)) t) else m' z) y = some (.int i t') := ⟨t, by simp⟩
    have hcnt : (List.range (i + 1)).countP p = (List.range i).countP p + (if p i then 1 else 0) := by
      rw [List.range_succ, List.countP_append]; simp [List.countP_cons]
    refine wpAny_mono (h2 i _ oC ys _ h₃ _ _ hlt hoC hxn hyn F₃ N₄) (fun b s₁ h₁ => ?_) fun _ _ e => e
    obtain ⟨h₅, tk₅, rfl, rfl, F₅, N₅⟩ := h₁
    by_cases hb : p i = true
    · rw [if_pos hb]
      refine wpAny_mono (h3 i _ oC ys _ h₅ _ _ hlt hoC hxn hyn F₅ N₅) (fun v s₂ h₂ => ?_) fun _ _ e => e
      obtain ⟨h₆, tk₆, rfl, ⟨t', rfl⟩, F₆, N₆⟩ := h₂
      have zD := (N₆ (D, lst ys) (.tail _ (.tail _ (.head _)))).1
      have zC := (N₆ (C, oC) (.tail _ (.head _))).1
      have zJ := (N₆ _ (.head _)).1
      have hlen : ys.length ≤ 2000000 := by
        have := hi'.length
        rw [this, List.length_replicate]
        have h1 := List.countP_le_length (p := p) (l := List.range i)
        rw [List.length_range] at h1
        omega
      refine append_at (hsz := by show ys.toArray.size ≤ sizeLine; rw [List.size_toArray, PySem.sizeLine_eq]; omega) zD fun h₇ hs₇ hD₇ => ?_
      refine ⟨k + 1 - (i + 1), by omega, h₇, tk₆, i + 1, ys ++ [.int 1 t'], _, rfl, hlt, rfl, ?_, hs₇.extBut _ _ S.ID zJ, F₆.change hs₇ S.DL S.D0, (hoC.ns zC).sameBut hs₇ S.CD, hxn, fun q hq => ?_⟩
      · rw [hcnt, if_pos hb, ← Nat.add_assoc]
        exact repl_snoc hi'
      · rcases List.mem_cons.mp hq with rfl | hq
        · exact ⟨hD₇.trans (congrArg some (lst_snoc ys _)), S.DL, S.D0⟩
        · have z := N₆ q (.tail _ (.tail _ (.tail _ hq)))
          exact ⟨hs₇.extBut _ _ (S.offD q hq) z.1, z.2⟩
    · rw [if_neg hb]
      have zC := (N₅ (C, oC) (.tail _ (.head _))).1
      have zJ := (N₅ _ (.head _)).1
      refine ⟨k + 1 - (i + 1), by omega, h₅, tk₅, i + 1, ys, _, rfl, hlt, rfl, ?_, zJ, F₅, hoC.ns zC, hxn, fun q hq => N₅ q (.tail _ (.tail _ hq))⟩
      rw [hcnt, if_neg hb, Nat.add_zero]
      exact hi'
  · obtain rfl : i = k := Nat.le_antisymm hik (Nat.not_lt.mp hlt)
    refine W.done _ _ _ hst' fun h₂ tk₂ hk₂ => ?_
    exact fin ys h₂ tk₂ m' hi' (fr_b F' hk₂ S.IL S.I0) (hC'.at' fun o e => hk₂ _ o (by simpa using Ne.symm S.IC) e) (news_b N' hk₂ (off_cons (Ne.symm S.ID) S.offI))
end
end Mine
namespace Mine
open PyProof.Rows.LCg
def tot (p : Nat → Nat → Bool) (n : Nat) : Nat := ((List.range n).map fun k => (List.range k).countP (p k)).sum
theorem tot_succ (p : Nat → Nat → Bool) (n : Nat) : tot p (n + 1) = tot p n + (List.range n).countP (p n) := by
  simp [tot, List.range_succ]
theorem tot_le (p : Nat → Nat → Bool) : ∀ n, n ≤ 1000 → tot p n ≤ n * 1000
  | 0, _ => by simp [tot]
  | n + 1, h => by
    have h1 := tot_le p n (by omega)
    have h2 := List.countP_le_length (p := p n) (l := List.range n)
    rw [List.length_range] at h2
    rw [tot_succ]
    omega

section
variable {prog : Program} {w : World} {A : Around} {R : Result → Shared → Prop} {s : Shared} {h₀ : Heap} {L : Addr} {m : Str → Option Value} {env : Env}

theorem outer_run {elt ct iter0 iter1 : Expr} {x y : Str} {px py : Pos} {scope : Scope} {pos : Pos} {cl : List (Str × Addr)} {I C D : Addr} {news : List (Addr × Obj)} {n : Nat} {p : Nat → Nat → Bool}
    {m₁ : Str → Option Value} {h : Heap} {tk : Nat}
    (S : Sep h₀ L I C D news) (hh : A.handled = none) (hkind : scope.kind = .function) (hx : scope.names.lookup x = some .local) (hy : scope.names.lookup y = some .local) (hxy : x ≠ y) (hst : IsRangeIter h I 0 n 1) (F : Fr h₀ L h m) (hC : h.Ns C m₁)
    (N : News h₀ L h ((D, lst []) :: news)) (hn : n ≤ 1000)
    (hf : ∀ v, foldedSetIterable iter1 (compEnvC scope cl C env) v = pure v)
    (h1 : ∀ (k : Nat) oI oC ys m₂ h tk (E : Value → Shared → Prop), k < n → NsObj oC m₂ → (∃ t, m₂ x = some (.int k t)) → Fr h₀ L h m → News h₀ L h ((I, oI) :: (C, oC) :: (D, lst ys) :: news) →
      wpAny (model prog w) A (eval iter1 (compEnvC scope cl C env)) (fun v s₁ => ∃ r t u q h' tk', v = .ref r ∧ s₁ = { s with heap := h', toks := tk' } ∧ IsRange h' r 0 k 1 t u q ∧ Fr h₀ L h' m ∧ News h₀ L h' ((I, oI) :: (C, oC) :: (D, lst ys) :: news)) E { s with heap := h, toks := tk })
    (h2 : ∀ (k j : Nat) J oJ oI oC ys m₂ h tk (E : Value → Shared → Prop), k < n → j < k → NsObj oC m₂ → (∃ t, m₂ x = some (.int k t)) → (∃ t, m₂ y = some (.int j t)) → Fr h₀ L h m → News h₀ L h ((J, oJ) :: (C, oC) :: (D, lst ys) :: (I, oI) :: news) →
      wpAny (model prog w) A (isTrue ct (compEnvC scope cl C env) (eval ct (compEnvC scope cl C env))) (fun b s₁ => ∃ h' tk', s₁ = { s with heap := h', toks := tk' } ∧ b = p k j ∧ Fr h₀ L h' m ∧ News h₀ L h' ((J, oJ) :: (C, oC) :: (D, lst ys) :: (I, oI) :: news)) E { s with heap := h, toks := tk })
    (h3 : ∀ (k j : Nat) J oJ oI oC ys m₂ h tk (E : Value → Shared → Prop), k < n → j < k → NsObj oC m₂ → (∃ t, m₂ x = some (.int k t)) → (∃ t, m₂ y = some (.int j t)) → Fr h₀ L h m → News h₀ L h ((J, oJ) :: (C, oC) :: (D, lst ys) :: (I, oI) :: news) →
      wpAny (model prog w) A (eval elt (compEnvC scope cl C env)) (fun v s₁ => ∃ h' tk', s₁ = { s with heap := h', toks := tk' } ∧ (∃ t, v = .int 1 t) ∧ Fr h₀ L h' m ∧ News h₀ L h' ((J, oJ) :: (C, oC) :: (D, lst ys) :: (I, oI) :: news)) E { s with heap := h, toks := tk })
    (fin : ∀ ys' h tk m₂, IntsAre ys' (List.replicate (tot p n) 1) → Fr h₀ L h m → h.Ns C m₂ → News h₀ L h ((D, lst ys') :: news) → R (.ok .next) { s with heap := h, toks := tk }) :
    codeAny (model prog w) A (.compLoop (.ListComp elt [⟨.Name x px, iter0, [], 0⟩, ⟨.Name y py, iter1, [ct], 0⟩] scope pos) 0 (.ref I) (.ref D) (compEnvC scope cl C env)) R { s with heap := h, toks := tk } := by
  have W := range_walks (prog := prog) (w := w) (I := I) hh 0 n
  refine loop_out
    (fun c s' => ∃ h' tk' i ys m', s' = { s with heap := h', toks := tk' } ∧ i ≤ n ∧ c = n + 1 - i ∧ IntsAre ys (List.replicate (tot p i) 1) ∧ IsRangeIter h' I (0 + (i : Nat) * 1) ((n : Int) - (i : Nat)) 1 ∧ Fr h₀ L h' m ∧ h'.Ns C m' ∧
      News h₀ L h' ((D, lst ys) :: news)) ?_ (n + 1)
    ⟨h, tk, 0, [], m₁, rfl, Nat.zero_le _, rfl, by simpa [tot] using IntsAre.nil, by simpa using hst, F, hC, N⟩ (by intro _; rfl) hf
  rintro c s' ⟨h', tk', i, ys, m', rfl, hin, rfl, hi', hst', F', hC', N'⟩
  by_cases hlt : i < n
  · refine W.item i _ _ _ hlt hst' fun v h₂ tk₂ hP hst₂ hk₂ => ?_
    obtain ⟨t, rfl⟩ := hP
    refine wpAny_assign_Name (wpAny_storeName_local (lookup_relabel_local hx) (hC'.at' fun o e => hk₂ _ o (by simpa using Ne.symm S.IC) e) (fun h₃ hn₃ hs₃ => ?_) (by simp [compEnvC, relabel, hkind]))
    have hs₃' : Heap.SameBut C h₂ h₃ := hs₃
    have hn₃' : h₃.Ns C (fun z => if z = x then some (Value.int (0 + (i : Int)) t) else m' z) := hn₃
    have F₂ : Fr h₀ L h₂ m := fr_b F' hk₂ S.IL S.I0
    have F₃ : Fr h₀ L h₃ m := F₂.change hs₃' S.CL S.C0
    have offI : ∀ q ∈ (D, lst ys) :: news, q.1 ≠ I := off_cons (Ne.symm S.ID) S.offI
    have offC : ∀ q ∈ (D, lst ys) :: news, q.1 ≠ C := off_cons (Ne.symm S.CD) S.offC
    have N₃ := news_same (news_b N' hk₂ offI) hs₃' offC
    obtain ⟨oC, heC, hoC⟩ := ns_obj hn₃'
    have hst₃ : IsRangeIter h₃ I (0 + ((i + 1 : Nat) : Int) * 1) ((n : Int) - ((i + 1 : Nat) : Int)) 1 := hs₃'.extBut _ _ S.IC hst₂
    have N₄ : News h₀ L h₃ ((I, _) :: (C, oC) :: (D, lst ys) :: news) := fun q hq => by
      rcases List.mem_cons.mp hq with rfl | hq
      · exact ⟨hst₃, S.IL, S.I0⟩
      · rcases List.mem_cons.mp hq with rfl | hq
        · exact ⟨heC, S.CL, S.C0⟩
        · exact N₃ q hq
    have hxn : (fun z => if z = x then some (Value.int (0 + (i : Int)) t) else m' z) x = some (.int (0 + (i : Int)) t) := by simp
    refine wpAny_mono (h1 i _ oC ys _ h₃ _ _ hlt hoC ⟨t, by simp⟩ F₃ N₄) (fun v s₁ h₁ => ?_) fun _ _ e => e
    obtain ⟨r, tr, ur, qr, h₅, tk₅, rfl, rfl, hr, F₅, N₅⟩ := h₁
    refine wpAny_pyIter_range hr (small_one (by decide) (by decide) (by omega) (by omega)) ?_
    have eI := N₅ _ (.head _)
    have eC := N₅ (C, oC) (.tail _ (.head _))
    have eD := N₅ (D, lst ys) (.tail _ (.tail _ (.head _)))
    have up : ∀ b o, h₅.get? b = some o → (h₅.push { cls := .type "range_iterator", data := .fields #[rawInt 0, rawInt (Builtin.Range.rangeSize 0 (i : Int) 1), rawInt 1] }).get? b = some o := fun b o e => Heap.get?_push_of_some _ e
    have ne : ∀ {b : Addr} {o : Obj}, h₅.get? b = some o → h₅.objs.size ≠ b := fun e q => absurd (Heap.lt_size e) (q ▸ Nat.lt_irrefl _)
    have hJ : IsRangeIter (h₅.push { cls := .type "range_iterator", data := .fields #[rawInt 0, rawInt (Builtin.Range.rangeSize 0 (i : Int) 1), rawInt 1] }) h₅.objs.size 0 i 1 := by
      have e : Builtin.Range.rangeSize 0 (i : Int) 1 = (i : Int) := by rw [rangeSize_nat]; omega
      rw [e]
      exact Heap.get?_push_size _ rfl
    generalize (h₅.push { cls := .type "range_iterator", data := .fields #[rawInt 0, rawInt (Builtin.Range.rangeSize 0 (i : Int) 1), rawInt 1] }) = h₆ at up hJ ⊢
    have S' : Sep h₀ L h₅.objs.size C D ((I, _) :: news) :=
      ⟨(by obtain ⟨oL, _, _, hL, _⟩ := F₅.ns; exact ne hL), S.CL, S.DL, ne eC.1, ne eD.1, S.CD,
        off_cons (Ne.symm (ne eI.1)) (fun q hq => Ne.symm (ne (N₅ q (.tail _ (.tail _ (.tail _ hq)))).1)),
        off_cons S.IC S.offC, off_cons S.ID S.offD, next_is_new F₅, S.C0, S.D0⟩
    have N₆ : News h₀ L h₆ ((D, lst ys) :: (I, _) :: news) := fun q hq => by
      rcases List.mem_cons.mp hq with rfl | hq
      · exact ⟨up _ _ eD.1, eD.2⟩
      · rcases List.mem_cons.mp hq with rfl | hq
        · exact ⟨up _ _ eI.1, eI.2⟩
        · have z := N₅ q (.tail _ (.tail _ (.tail _ hq)))
          exact ⟨up _ _ z.1, z.2⟩
    refine (fun loop => start_in loop ((range_walks hh 0 i).self 0 _ _ _ (by simpa using hJ) loop)) ?_
    exact inner_run (p := p i) (vx := .int (0 + (i : Int)) t)
      S' hh hkind hy hxy hJ (F₅.keeps up) ((hoC.ns eC.1).at' fun o e => up _ _ e) hxn N₆ hi' (by have := tot_le p i (by omega); omega)
      (fun j oJ oC ys m₂ h tk E hj hC hx9 hy9 F9 N9 => h2 i j _ oJ _ oC ys m₂ h tk E hlt hj hC ⟨t, by rw [hx9]; simp⟩ hy9 F9 N9)
      (fun j oJ oC ys m₂ h tk E hj hC hx9 hy9 F9 N9 => h3 i j _ oJ _ oC ys m₂ h tk E hlt hj hC ⟨t, by rw [hx9]; simp⟩ hy9 F9 N9)
      (fun ys' h tk m₂ hi9 F9 hC9 N9 => ⟨n + 1 - (i + 1), by omega, h, tk, i + 1, ys', m₂, rfl, hlt, rfl, by rw [tot_succ]; exact hi9, (N9 _ (.tail _ (.head _))).1, F9, hC9, fun q hq => N9 q (by
        rcases List.mem_cons.mp hq with rfl | hq
        · exact .head _
        · exact .tail _ (.tail _ hq))⟩)
  · obtain rfl : i = n := Nat.le_antisymm hin (Nat.not_lt.mp hlt)
    refine W.done _ _ _ hst' fun h₂ tk₂ hk₂ => ?_
    exact fin ys h₂ tk₂ m' hi' (fr_b F' hk₂ S.IL S.I0) (hC'.at' fun o e => hk₂ _ o (by simpa using Ne.symm S.IC) e) (news_b N' hk₂ (off_cons (Ne.symm S.ID) S.offI))
end
end Mine
namespace Mine
open PyProof.Rows.LCg
section
variable {prog : Program} {w : World} {A : Around} {E : Value → Shared → Prop} {s : Shared} {h₀ : Heap} {L : Addr} {m : Str → Option Value} {env : Env}

theorem comp_two {elt ct iter0 iter1 : Expr} {x y : Str} {px py : Pos} {scope : Scope} {cl : List (Str × Addr)} {pos : Pos} {Q : Value → Shared → Prop} {news : List (Addr × Obj)} {n : Nat} (p : Nat → Nat → Bool) (_F₀ : Fr h₀ L s.heap m) (_N₀ : News h₀ L s.heap news)
    (hclos : closureFor scope env = pure cl) (hcell : ∀ y ∈ scope.names, y.2 ≠ .cell) (hkind : scope.kind = .function)
    (hnames : ∀ y ∈ scope.names, y.2 = .local → scope.names.lookup y.1 = some .local) (hx : scope.names.lookup x = some .local) (hy : scope.names.lookup y = some .local) (hxy : x ≠ y) (hh : A.handled = none) (hn : n ≤ 1000)
    (hs : ∀ v, foldedSetIterable iter0 env v = pure v) (hf : ∀ C v, foldedSetIterable iter1 (compEnvC scope cl C env) v = pure v)
    (h0 : wpAny (model prog w) A (eval iter0 env) (fun xv s₁ => ∃ r t u v h tk, xv = .ref r ∧ s₁ = { s with heap := h, toks := tk } ∧ IsRange h r 0 n 1 t u v ∧ Fr h₀ L h m ∧ News h₀ L h news) E s)
    (h1 : ∀ (k : Nat) I oI C oC D ys m₂ h tk (E : Value → Shared → Prop), k < n → NsObj oC m₂ → (∃ t, m₂ x = some (.int k t)) → Fr h₀ L h m → News h₀ L h ((I, oI) :: (C, oC) :: (D, lst ys) :: news) →
      wpAny (model prog w) A (eval iter1 (compEnvC scope cl C env)) (fun v s₁ => ∃ r t u q h' tk', v = .ref r ∧ s₁ = { s with heap := h', toks := tk' } ∧ IsRange h' r 0 k 1 t u q ∧ Fr h₀ L h' m ∧ News h₀ L h' ((I, oI) :: (C, oC) :: (D, lst ys) :: news)) E { s with heap := h, toks := tk })
    (h2 : ∀ (k j : Nat) J oJ I oI C oC D ys m₂ h tk (E : Value → Shared → Prop), k < n → j < k → NsObj oC m₂ → (∃ t, m₂ x = some (.int k t)) → (∃ t, m₂ y = some (.int j t)) → Fr h₀ L h m → News h₀ L h ((J, oJ) :: (C, oC) :: (D, lst ys) :: (I, oI) :: news) →
      wpAny (model prog w) A (isTrue ct (compEnvC scope cl C env) (eval ct (compEnvC scope cl C env))) (fun b s₁ => ∃ h' tk', s₁ = { s with heap := h', toks := tk' } ∧ b = p k j ∧ Fr h₀ L h' m ∧ News h₀ L h' ((J, oJ) :: (C, oC) :: (D, lst ys) :: (I, oI) :: news)) E { s with heap := h, toks := tk })
    (h3 : ∀ (k j : Nat) J oJ I oI C oC D ys m₂ h tk (E : Value → Shared → Prop), k < n → j < k → NsObj oC m₂ → (∃ t, m₂ x = some (.int k t)) → (∃ t, m₂ y = some (.int j t)) → Fr h₀ L h m → News h₀ L h ((J, oJ) :: (C, oC) :: (D, lst ys) :: (I, oI) :: news) →
      wpAny (model prog w) A (eval elt (compEnvC scope cl C env)) (fun v s₁ => ∃ h' tk', s₁ = { s with heap := h', toks := tk' } ∧ (∃ t, v = .int 1 t) ∧ Fr h₀ L h' m ∧ News h₀ L h' ((J, oJ) :: (C, oC) :: (D, lst ys) :: (I, oI) :: news)) E { s with heap := h, toks := tk })
    (fin : ∀ D ys h tk, IntsAre ys (List.replicate (tot p n) 1) → Fr h₀ L h m → News h₀ L h ((D, lst ys) :: news) → Q (.ref D) { s with heap := h, toks := tk }) :
    wpAny (model prog w) A (eval (.ListComp elt [⟨.Name x px, iter0, [], 0⟩, ⟨.Name y py, iter1, [ct], 0⟩] scope pos) env) Q E s := by
  rw [eval_ListComp]
  refine wpAny_comprehension_free (use := none) rfl hs hclos hkind hnames (wpAny_mono h0 (fun xv s₁ h₁ => ?_) fun _ _ e => e)
  obtain ⟨r, tr, ur, qr, hA, tkA, rfl, rfl, hr, FA, NA⟩ := h₁
  refine wpAny_pyIter_range hr (small_one (by decide) (by decide) (by omega) (by omega)) ?_
  have up : ∀ b o, hA.get? b = some o → (hA.push { cls := .type "range_iterator", data := .fields #[rawInt 0, rawInt (Builtin.Range.rangeSize 0 (n : Int) 1), rawInt 1] }).get? b = some o := fun b o e => Heap.get?_push_of_some _ e
  have ne : ∀ {b : Addr} {o : Obj}, hA.get? b = some o → hA.objs.size ≠ b := fun e q => absurd (Heap.lt_size e) (q ▸ Nat.lt_irrefl _)
  have hI : IsRangeIter (hA.push { cls := .type "range_iterator", data := .fields #[rawInt 0, rawInt (Builtin.Range.rangeSize 0 (n : Int) 1), rawInt 1] }) hA.objs.size 0 n 1 := by
    have e : Builtin.Range.rangeSize 0 (n : Int) 1 = (n : Int) := by rw [rangeSize_nat]; omega
    rw [e]
    exact Heap.get?_push_size _ rfl
  have FB := FA.keeps up
  have NB := NA.grown up
  have iL : hA.objs.size ≠ L := (by obtain ⟨oL, _, _, hL, _⟩ := FA.ns; exact ne hL)
  have offI : ∀ q ∈ news, q.1 ≠ hA.objs.size := fun q hq => Ne.symm (ne (NA q hq).1)
  have I0 := next_is_new FA
  generalize (hA.push { cls := .type "range_iterator", data := .fields #[rawInt 0, rawInt (Builtin.Range.rangeSize 0 (n : Int) 1), rawInt 1] }) = hB at hI FB NB ⊢
  generalize hA.objs.size = I at hI iL offI I0 ⊢
  refine wpAny_newObj_type (wpAny_newFunctionEnv hcell (by intro y hy; simp at hy) (fun hC hnsC hsbC => ?_) hkind)
  dsimp only at hnsC hsbC ⊢
  have upD : ∀ b o, hB.get? b = some o → (hB.push { cls := .type "list", dict := none, data := .seq ([] : List Value).toArray }).get? b = some o := fun b o e => Heap.get?_push_of_some _ e
  have hD : (hB.push { cls := .type "list", dict := none, data := .seq ([] : List Value).toArray }).get? hB.objs.size = some (lst []) := Heap.get?_push_size _ rfl
  have neD : ∀ {b : Addr} {o : Obj}, hB.get? b = some o → hB.objs.size ≠ b := fun e q => absurd (Heap.lt_size e) (q ▸ Nat.lt_irrefl _)
  have D0 := next_is_new FB
  have dL : hB.objs.size ≠ L := (by obtain ⟨oL, _, _, hL, _⟩ := FB.ns; exact neD hL)
  have dI : I ≠ hB.objs.size := Ne.symm (neD hI)
  have offD : ∀ q ∈ news, q.1 ≠ hB.objs.size := fun q hq => Ne.symm (neD (NB q hq).1)
  have FD := FB.keeps upD
  have ND := NB.grown upD
  have hID := upD _ _ hI
  generalize hB.objs.size = D at hD neD D0 dL dI offD ⊢
  generalize (hB.push { cls := .type "list", dict := none, data := .seq ([] : List Value).toArray }) = hE at hnsC hsbC hD FD ND hID ⊢
  have neC : ∀ {b : Addr} {o : Obj}, hE.get? b = some o → hE.objs.size ≠ b := fun e q => absurd (Heap.lt_size e) (q ▸ Nat.lt_irrefl _)
  have old : ∀ b o, hE.get? b = some o → hC.get? b = some o := fun b o e => hsbC.extBut b o (Ne.symm (neC e)) (Heap.get?_push_of_some _ e)
  have S : Sep h₀ L I hE.objs.size D news :=
    ⟨iL, (by obtain ⟨oL, _, _, hL, _⟩ := FD.ns; exact neC hL), dL, Ne.symm (neC hID), dI, neC hD, offI, fun q hq => Ne.symm (neC (ND q hq).1), offD, I0, next_is_new FD, D0⟩
  have F1 := FD.keeps old
  have N1 : News h₀ L hC ((D, lst []) :: news) := fun q hq => by
    rcases List.mem_cons.mp hq with rfl | hq
    · exact ⟨old _ _ hD, dL, D0⟩
    · exact ⟨old _ _ (ND q hq).1, (ND q hq).2⟩
  have loop : ∀ tk, codeAny (model prog w) A (.compLoop (.ListComp elt [⟨.Name x px, iter0, [], 0⟩, ⟨.Name y py, iter1, [ct], 0⟩] scope pos) 0 (.ref I) (.ref D) (compEnvC scope cl hE.objs.size env))
      (compPost (model prog w) A E none Q (.ref D) hE.objs.size) { s with heap := hC, toks := tk } := fun tk =>
    outer_run S hh hkind hx hy hxy (old _ _ hID) F1 hnsC N1 hn (hf _)
      (fun k oI oC ys m₂ h tk E => h1 k _ oI _ oC _ ys m₂ h tk E)
      (fun k j J oJ oI oC ys m₂ h tk E => h2 k j J oJ _ oI _ oC _ ys m₂ h tk E)
      (fun k j J oJ oI oC ys m₂ h tk E => h3 k j J oJ _ oI _ oC _ ys m₂ h tk E)
      (fun ys h tk m₂ hi F hCns N => ⟨m₂, hCns, fun h'' hs'' => fin D ys h'' tk hi (F.change hs'' S.CL S.C0) (news_same N hs'' (off_cons (Ne.symm S.CD) S.offC))⟩)
  exact codeAny_compStart_list (loop _) ((range_walks hh 0 n).self 0 _ _ _ (by simpa using old _ _ hID) (loop _))
end
end Mine
namespace Mine
open PyProof.Rows.LCg
def wrong (ns : List Int) : Nat := tot (fun k j => decide (ns.getD j 0 > ns.getD k 0)) ns.length

local macro_rules | `(tactic| k_room) => `(tactic| ktr_room)
local macro_rules | `(tactic| walk_at "subscriptTail Name Name ref int") => `(tactic| ((with_reducible show wpAny _ _ (subscriptTail _ _ (Value.ref _) (Value.int _ _)) _ _ _); (with_unfolding_all refine' item_list_ints ?k1 ?k2 ?k3 ?k4 ?k5 ?_; (case k1 => is_list); (case k2 => assumption); (case k3 => omega); (case k4 => omega); (case k5 => omega); k_whole); intro _))

set_option maxHeartbeats 4000000 in
theorem wrong_c (w : World) (mean : ExcName → Option Value) (mg mb : Str → Option Value) (l : Addr) (vs : List Value) (ns : List Int) :
    At w mean mg mb 10 72 [.ref l] (fun _ hp _ => hp.IsList l vs.toArray ∧ IntsAre vs ns ∧ ns.length ≤ 1000)
      (fun s Q => ∀ t' h' tk', Keeps s.heap h' → Q (.int (wrong ns : Nat) t') { s with heap := h', toks := tk' }) := by
  w_top off
  unfold At
  k_fill
  intro dp un gd cn cs a ccd cl outer A₀ base h₀ L m s Q E B F X T hk hdp hun hpre hret
  obtain ⟨hl, hi, hlen⟩ := hpre
  have N : News h₀ L s.heap [] := News.nil
  refine wpAny_call ?_
  k_dflt (refine' own_defC ?k1 ?k2 ?k3 ?k4 ?k5 ?kA ?kF ?kK ?k6 ?k7 ?k8 ?k9 ?kB ?kD ?_ ?c2 ?c3 ?c4; (case kA => exact rfl); (case kF => exact rfl); (case kK => assumption); (case k1 => k_asm); (case k2 => k_asm); (case k3 => k_asm); (case k4 => exact N); (case k5 => k_asm); (case k6 => k_is); (case k7 => k_is); (case k8 => ktr_room); (case k9 => exact BindsTo.of_eq rfl); (case kB => exact rfl); (case kD => decide +kernel); (case c2 => exact rfl); (case c3 => exact rfl); (case c4 => exact rfl); k_whole)
  intro g' L' h' tk' cells' lent' F' N' Y' B' X' T' l1
  (try k_lt l1); k_cells Y'; (try simp only [List.cons_append, List.nil_append] at N')
  have hl' := lent_list0 lent' hl
  (try dsimp only)
  iterate 6 walk1
  refine comp_two (n := ns.length) (fun k j => decide (ns.getD j 0 > ns.getD k 0)) F' N' (by with_unfolding_all rfl) (by decide) (by rfl) (by decide) (by rfl) (by rfl) (by decide) (by rfl) hlen (by intro _; rfl) (by intro _ _; rfl) ?h0 ?h1 ?h2 ?h3 ?fin
  case h0 =>
    k_steps
    all_goals assumption
  case h1 =>
    intro k I oI C oC D ys m₂ h9 tk9 E9 hk9 hC9 hx9 F9 N9
    obtain ⟨tx, hx9⟩ := hx9
    (try k_fold)
    k_steps
    all_goals assumption
  case h2 =>
    intro k j J oJ I oI C oC D ys m₂ h9 tk9 E9 hk9 hj9 hC9 hx9 hy9 F9 N9
    obtain ⟨tx, hx9⟩ := hx9
    obtain ⟨ty, hy9⟩ := hy9
    (try k_fold)
    k_steps
    all_goals assumption
  case h3 =>
    intro k j J oJ I oI C oC D ys m₂ h9 tk9 E9 hk9 hj9 hC9 hx9 hy9 F9 N9
    (try k_fold)
    k_steps
    all_goals assumption
  case fin =>
    intro D ys h9 tk9 hi9 F9 N9
    dsimp only
    k_steps
    have hf := tot_le (fun k j => decide (ns.getD j 0 > ns.getD k 0)) ns.length hlen
    refine len_ints_fit (News.isList N9 (.head _)) hi9 (by rw [List.length_replicate]; omega) ?_
    dsimp only
    rw [List.length_replicate]
    exact hret _ _ _ (lent_keep lent' F9)
end Mine
namespace Mine
open PyProof.Rows.LCg
section
variable {M : Model} {A : Around} {E : Value → Shared → Prop} {s : Shared}
theorem env_of {scope : Scope} {globals : Addr} {cl : List (Str × Addr)} {qual : Str} {func : Option Addr} {code : Value} {outer : Env} {builtins : Addr} {Q : Env → Shared → Prop}
    (h : Q (newEnv scope s.heap.objs.size globals (cellsFrom (s.heap.objs.size + 1) scope.names cl) qual func code (some outer) builtins) { s with heap := pushCells (s.heap.push { cls := .type "dict", data := .dict #[] }) scope.names }) :
    wpAny M A (newFunctionEnv scope globals cl [] qual func code (some outer) builtins) Q E s := by
  simp only [newFunctionEnv, Option.isSome_some, if_true]
  refine wpAny_bind (wpAny_alloc ?_)
  refine wpAny_bind (wpAny_layCells _ (fun name kind cells => by cases hkc : kind == NameKind.cell <;> simp [hkc]) _ _ _ _ ?_)
  rw [show ({ s with heap := s.heap.push { cls := .type "dict", data := .dict #[] } } : Shared).heap.objs.size = s.heap.objs.size + 1 from Heap.size_push ..]
  exact wpAny_bind (wpAny_pure (wpAny_pure h))
end

section
variable {prog : Program} {w : World} {A : Around} {E : Value → Shared → Prop} {R : Result → Shared → Prop} {s : Shared} {h₀ : Heap} {L : Addr} {m : Str → Option Value} {env : Env}

theorem none_run {elt ct iter0 : Expr} {x : Str} {px : Pos} {scope : Scope} {pos : Pos} {cl : List (Str × Addr)} {I K C D : Addr} {oC : Obj} {news : List (Addr × Obj)} {n : Nat} {h : Heap} {tk : Nat} {v₀ : Option Value}
    (S : Sep h₀ L I K D ((C, oC) :: news)) (hh : A.handled = none) (hkind : scope.kind = .function) (hx : (compEnvC scope ((x, K) :: cl) C env).kindOf x = some .cell) (hst : IsRangeIter h I 0 n 1) (F : Fr h₀ L h m) (hK : h.IsCell K v₀)
    (N : News h₀ L h ((D, lst []) :: (C, oC) :: news)) (hn : n ≤ 1000)
    (h2 : ∀ (k : Nat) oI oK h tk t (E : Value → Shared → Prop), k < n → oK.data = .cell (some (.int k t)) → Fr h₀ L h m → News h₀ L h ((I, oI) :: (K, oK) :: (D, lst []) :: (C, oC) :: news) →
      wpAny (model prog w) A (isTrue ct (compEnvC scope ((x, K) :: cl) C env) (eval ct (compEnvC scope ((x, K) :: cl) C env))) (fun b s₁ => ∃ h' tk', s₁ = { s with heap := h', toks := tk' } ∧ b = false ∧ Fr h₀ L h' m ∧ News h₀ L h' ((I, oI) :: (K, oK) :: (D, lst []) :: (C, oC) :: news)) E { s with heap := h, toks := tk })
    (fin : ∀ h tk, Fr h₀ L h m → News h₀ L h ((D, lst []) :: (C, oC) :: news) → R (.ok .next) { s with heap := h, toks := tk }) :
    codeAny (model prog w) A (.compLoop (.ListComp elt [⟨.Name x px, iter0, [ct], 0⟩] scope pos) 0 (.ref I) (.ref D) (compEnvC scope ((x, K) :: cl) C env)) R { s with heap := h, toks := tk } := by
  have W := range_walks (prog := prog) (w := w) (I := I) hh 0 n
  refine codeAny_compLoop_tests
    (fun c s' => ∃ h' tk' i v, s' = { s with heap := h', toks := tk' } ∧ i ≤ n ∧ c = n + 1 - i ∧ IsRangeIter h' I (0 + (i : Nat) * 1) ((n : Int) - (i : Nat)) 1 ∧ Fr h₀ L h' m ∧ h'.IsCell K v ∧
      News h₀ L h' ((D, lst []) :: (C, oC) :: news)) ?_ (n + 1)
    ⟨h, tk, 0, v₀, rfl, Nat.zero_le _, rfl, by simpa using hst, F, hK, N⟩
  rintro c s' ⟨h', tk', i, v, rfl, hin, rfl, hst', F', hK', N'⟩
  have offI : ∀ q ∈ (D, lst []) :: (C, oC) :: news, q.1 ≠ I := off_cons (Ne.symm S.ID) S.offI
  have offK : ∀ q ∈ (D, lst []) :: (C, oC) :: news, q.1 ≠ K := off_cons (Ne.symm S.CD) S.offC
  by_cases hlt : i < n
  · refine W.item i _ _ _ hlt hst' fun v h₂ tk₂ hP hst₂ hk₂ => ?_
    obtain ⟨t, rfl⟩ := hP
    obtain ⟨oK₀, eK₀, dK₀⟩ := hK'
    have eK₂ : h₂.IsCell K _ := ⟨oK₀, hk₂ _ _ (by simpa using Ne.symm S.IC) eK₀, dK₀⟩
    refine wpAny_assign_Name (wpAny_storeName_cell (by simp [compEnvC, relabel, hkind]) hx (by simp [compEnvC]) eK₂ (fun h₃ hc₃ hs₃ => ?_))
    refine wpAny_tests_one ?_
    obtain ⟨oK, eK, dK⟩ := hc₃
    have F₂ : Fr h₀ L h₂ m := fr_b F' hk₂ S.IL S.I0
    have F₃ : Fr h₀ L h₃ m := F₂.change hs₃ S.CL S.C0
    have N₃ := news_same (news_b N' hk₂ offI) hs₃ offK
    have hst₃ : IsRangeIter h₃ I (0 + ((i + 1 : Nat) : Int) * 1) ((n : Int) - ((i + 1 : Nat) : Int)) 1 := hs₃.extBut _ _ S.IC hst₂
    have N₄ : News h₀ L h₃ ((I, _) :: (K, oK) :: (D, lst []) :: (C, oC) :: news) := fun q hq => by
      rcases List.mem_cons.mp hq with rfl | hq
      · exact ⟨hst₃, S.IL, S.I0⟩
      · rcases List.mem_cons.mp hq with rfl | hq
        · exact ⟨eK, S.CL, S.C0⟩
        · exact N₃ q hq
    refine wpAny_mono (h2 i _ oK h₃ _ t _ hlt (by rw [dK]; simp) F₃ N₄) (fun b s₁ h₁ => ?_) fun _ _ e => e
    obtain ⟨h₅, tk₅, rfl, rfl, F₅, N₅⟩ := h₁
    rw [if_neg Bool.false_ne_true]
    exact ⟨n + 1 - (i + 1), by omega, h₅, tk₅, i + 1, _, rfl, hlt, rfl, (N₅ _ (.head _)).1, F₅, ⟨oK, (N₅ _ (.tail _ (.head _))).1, dK⟩, fun q hq => N₅ q (.tail _ (.tail _ hq))⟩
  · obtain rfl : i = n := Nat.le_antisymm hin (Nat.not_lt.mp hlt)
    refine W.done _ _ _ hst' fun h₂ tk₂ hk₂ => ?_
    exact fin h₂ tk₂ (fr_b F' hk₂ S.IL S.I0) (news_b N' hk₂ offI)

/-- a comprehension over range(n) whose loop name is a cell, and whose test is never true -/
theorem comp_none {elt ct iter0 : Expr} {x : Str} {px : Pos} {scope : Scope} {cl : List (Str × Addr)} {pos : Pos} {Q : Value → Shared → Prop} {news : List (Addr × Obj)} {n : Nat} (_F₀ : Fr h₀ L s.heap m) (_N₀ : News h₀ L s.heap news)
    (hclos : closureFor scope env = pure cl) (hcells : ∀ a, cellsFrom a scope.names cl = (x, a) :: cl) (hpush : ∀ h : Heap, pushCells h scope.names = h.push { cls := .type "cell", data := .cell none }) (hkind : scope.kind = .function)
    (hnames : ∀ y ∈ scope.names, y.2 = .local → scope.names.lookup y.1 = some .local) (hx : ∀ K C, (compEnvC scope ((x, K) :: cl) C env).kindOf x = some .cell) (hh : A.handled = none) (hn : n ≤ 1000)
    (hs : ∀ v, foldedSetIterable iter0 env v = pure v)
    (h0 : wpAny (model prog w) A (eval iter0 env) (fun xv s₁ => ∃ r t u v h tk, xv = .ref r ∧ s₁ = { s with heap := h, toks := tk } ∧ IsRange h r 0 n 1 t u v ∧ Fr h₀ L h m ∧ News h₀ L h news) E s)
    (h2 : ∀ (k : Nat) I oI K oK C oC D h tk t (E : Value → Shared → Prop), k < n → oK.data = .cell (some (.int k t)) → Fr h₀ L h m → News h₀ L h ((I, oI) :: (K, oK) :: (D, lst []) :: (C, oC) :: news) →
      wpAny (model prog w) A (isTrue ct (compEnvC scope ((x, K) :: cl) C env) (eval ct (compEnvC scope ((x, K) :: cl) C env))) (fun b s₁ => ∃ h' tk', s₁ = { s with heap := h', toks := tk' } ∧ b = false ∧ Fr h₀ L h' m ∧ News h₀ L h' ((I, oI) :: (K, oK) :: (D, lst []) :: (C, oC) :: news)) E { s with heap := h, toks := tk })
    (fin : ∀ D h tk, Fr h₀ L h m → News h₀ L h ((D, lst []) :: news) → Q (.ref D) { s with heap := h, toks := tk }) :
    wpAny (model prog w) A (eval (.ListComp elt [⟨.Name x px, iter0, [ct], 0⟩] scope pos) env) Q E s := by
  rw [eval_ListComp]
  refine wpAny_comprehension_free (use := none) rfl hs hclos hkind hnames (wpAny_mono h0 (fun xv s₁ h₁ => ?_) fun _ _ e => e)
  obtain ⟨r, tr, ur, qr, hA, tkA, rfl, rfl, hr, FA, NA⟩ := h₁
  refine wpAny_pyIter_range hr (small_one (by decide) (by decide) (by omega) (by omega)) ?_
  have up : ∀ b o, hA.get? b = some o → (hA.push { cls := .type "range_iterator", data := .fields #[rawInt 0, rawInt (Builtin.Range.rangeSize 0 (n : Int) 1), rawInt 1] }).get? b = some o := fun b o e => Heap.get?_push_of_some _ e
  have ne : ∀ {b : Addr} {o : Obj}, hA.get? b = some o → hA.objs.size ≠ b := fun e q => absurd (Heap.lt_size e) (q ▸ Nat.lt_irrefl _)
  have hI : IsRangeIter (hA.push { cls := .type "range_iterator", data := .fields #[rawInt 0, rawInt (Builtin.Range.rangeSize 0 (n : Int) 1), rawInt 1] }) hA.objs.size 0 n 1 := by
    have e : Builtin.Range.rangeSize 0 (n : Int) 1 = (n : Int) := by rw [rangeSize_nat]; omega
    rw [e]
    exact Heap.get?_push_size _ rfl
  have FB := FA.keeps up
  have NB := NA.grown up
  have iL : hA.objs.size ≠ L := (by obtain ⟨oL, _, _, hL, _⟩ := FA.ns; exact ne hL)
  have offI : ∀ q ∈ news, q.1 ≠ hA.objs.size := fun q hq => Ne.symm (ne (NA q hq).1)
  have I0 := next_is_new FA
  generalize (hA.push { cls := .type "range_iterator", data := .fields #[rawInt 0, rawInt (Builtin.Range.rangeSize 0 (n : Int) 1), rawInt 1] }) = hB at hI FB NB ⊢
  generalize hA.objs.size = I at hI iL offI I0 ⊢
  refine wpAny_newObj_type (env_of ?_)
  dsimp only
  rw [hcells, hpush]
  have upD : ∀ b o, hB.get? b = some o → (hB.push { cls := .type "list", dict := none, data := .seq ([] : List Value).toArray }).get? b = some o := fun b o e => Heap.get?_push_of_some _ e
  have hD : (hB.push { cls := .type "list", dict := none, data := .seq ([] : List Value).toArray }).get? hB.objs.size = some (lst []) := Heap.get?_push_size _ rfl
  have neD : ∀ {b : Addr} {o : Obj}, hB.get? b = some o → hB.objs.size ≠ b := fun e q => absurd (Heap.lt_size e) (q ▸ Nat.lt_irrefl _)
  have D0 := next_is_new FB
  have dL : hB.objs.size ≠ L := (by obtain ⟨oL, _, _, hL, _⟩ := FB.ns; exact neD hL)
  have dI : I ≠ hB.objs.size := Ne.symm (neD hI)
  have offD : ∀ q ∈ news, q.1 ≠ hB.objs.size := fun q hq => Ne.symm (neD (NB q hq).1)
  have FD := FB.keeps upD
  have ND := NB.grown upD
  have hID := upD _ _ hI
  generalize hB.objs.size = D at hD neD D0 dL dI offD ⊢
  generalize (hB.push { cls := .type "list", dict := none, data := .seq ([] : List Value).toArray }) = hE at hD FD ND hID ⊢
  have neC : ∀ {b : Addr} {o : Obj}, hE.get? b = some o → hE.objs.size ≠ b := fun e q => absurd (Heap.lt_size e) (q ▸ Nat.lt_irrefl _)
  have upC : ∀ b o, hE.get? b = some o → (hE.push { cls := .type "dict", data := .dict #[] }).get? b = some o := fun b o e => Heap.get?_push_of_some _ e
  have hCn : (hE.push { cls := .type "dict", data := .dict #[] }).get? hE.objs.size = some { cls := .type "dict", data := .dict #[] } := Heap.get?_push_size _ rfl
  have szF : (hE.push { cls := .type "dict", data := .dict #[] }).objs.size = hE.objs.size + 1 := Heap.size_push ..
  have C0 := next_is_new FD
  have cL : hE.objs.size ≠ L := (by obtain ⟨oL, _, _, hL, _⟩ := FD.ns; exact neC hL)
  have FF := FD.keeps upC
  have NF := ND.grown upC
  generalize hFe : (hE.push { cls := .type "dict", data := .dict #[] }) = hF at upC hCn szF FF NF ⊢
  have neK : ∀ {b : Addr} {o : Obj}, hF.get? b = some o → hF.objs.size ≠ b := fun e q => absurd (Heap.lt_size e) (q ▸ Nat.lt_irrefl _)
  have upK : ∀ b o, hF.get? b = some o → (hF.push { cls := .type "cell", data := .cell none }).get? b = some o := fun b o e => Heap.get?_push_of_some _ e
  have hKn : (hF.push { cls := .type "cell", data := .cell none }).IsCell hF.objs.size none := ⟨_, Heap.get?_push_size _ rfl, rfl⟩
  have S : Sep h₀ L I hF.objs.size D ((hE.objs.size, { cls := .type "dict", data := .dict #[] }) :: news) :=
    ⟨iL, (by obtain ⟨oL, _, _, hL, _⟩ := FF.ns; exact neK hL), dL, Ne.symm (neK (upC _ _ hID)), dI, neK (upC _ _ hD),
      off_cons (neC hID) offI, off_cons (Ne.symm (neK hCn)) (fun q hq => Ne.symm (neK (NF q hq).1)), off_cons (neC hD) offD, I0, next_is_new FF, D0⟩
  have F1 := FF.keeps upK
  have N1 : News h₀ L (hF.push { cls := .type "cell", data := .cell none }) ((D, lst []) :: (hE.objs.size, { cls := .type "dict", data := .dict #[] }) :: news) := fun q hq => by
    rcases List.mem_cons.mp hq with rfl | hq
    · exact ⟨upK _ _ (upC _ _ hD), dL, D0⟩
    · rcases List.mem_cons.mp hq with rfl | hq
      · exact ⟨upK _ _ hCn, cL, C0⟩
      · exact ⟨upK _ _ (NF q hq).1, (NF q hq).2⟩
  have hIK := upK _ _ (upC _ _ hID)
  rw [show hE.objs.size + 1 = hF.objs.size from szF.symm]
  have loop : ∀ tk, codeAny (model prog w) A (.compLoop (.ListComp elt [⟨.Name x px, iter0, [ct], 0⟩] scope pos) 0 (.ref I) (.ref D) (compEnvC scope ((x, hF.objs.size) :: cl) hE.objs.size env))
      (compPost (model prog w) A E none Q (.ref D) hE.objs.size) { s with heap := hF.push { cls := .type "cell", data := .cell none }, toks := tk } := fun tk =>
    none_run S hh hkind (hx _ _) hIK F1 hKn N1 hn (fun k oI oK h tk t E => h2 k _ oI _ oK _ _ _ h tk t E)
      (fun h tk F N => ⟨fun _ => none, ⟨_, #[], 0, (N _ (.tail _ (.head _))).1, rfl, fun _ he => by simp at he, fun _ => rfl⟩, fun h'' hs'' => fin D h'' tk (F.change hs'' cL C0) (news_same (fun q hq => N q (by
        rcases List.mem_cons.mp hq with rfl | hq
        · exact .head _
        · exact .tail _ (.tail _ hq))) hs'' (off_cons (Ne.symm (neC hD)) fun q hq => Ne.symm (neC (ND q hq).1)))⟩)
  exact codeAny_compStart_list (loop _) ((range_walks hh 0 n).self 0 _ _ _ (by simpa using hIK) (loop _))
end
end Mine
namespace Mine
open PyProof.Rows.LCg
theorem new_led {h₀ h h' : Heap} {L D : Addr} {m : Str → Option Value} {news : List (Addr × Obj)} {o : Obj} (F : Fr h₀ L h m) (N : News h₀ L h news) (kp : Keeps h h') (hn : h.get? D = none) (hD : h'.get? D = some o) :
    News h₀ L h' ((D, o) :: news) ∧ Off1 D news := by
  refine ⟨fun p hp => ?_, ?_⟩
  · rcases List.mem_cons.mp hp with rfl | hp
    · refine ⟨hD, fun q => ?_, ?_⟩
      · obtain ⟨oL, _, _, hL, _⟩ := F.ns
        have q' : D = L := q
        rw [← q', hn] at hL; cases hL
      · cases e : h₀.get? D with
        | none => rfl
        | some o' => have := F.keep _ _ e; rw [hn] at this; cases this
    · exact ⟨kp _ _ (N p hp).1, (N p hp).2⟩
  · have key : ∀ l : List (Addr × Obj), (∀ p ∈ l, h.get? p.1 = some p.2) → Off1 D l := by
      intro l
      induction l with
      | nil => intro _; trivial
      | cons p l ih =>
        intro hl
        refine ⟨fun q => ?_, ih fun p hp => hl p (.tail _ hp)⟩
        have := hl p (.head _)
        have q' : p.1 = D := q
        rw [q', hn] at this; cases this
    exact key news fun p hp => (N p hp).1

theorem right_true (w : World) (mean : ExcName → Option Value) (mg mb : Str → Option Value) (l : Addr) (vs : List Value) (ns : List Int) (h : Int) (t : Tok) :
    At w mean mg mb 10 77 [.ref l, .int h t] (fun _ hp _ => hp.IsList l vs.toArray ∧ IntsAre vs ns ∧ ns.length ≤ 1000 ∧ 1 ≤ h ∧ h ≤ 2000 ∧ Right ns h)
      (fun s Q => ∀ h' tk', Keeps s.heap h' → Q (.bool true) { s with heap := h', toks := tk' }) :=
  fun dp un gd cn cs a ccd cl outer A₀ base h₀ L m s Q E B F X T hk hd hu hp hq =>
    right_c w mean mg mb l vs ns h t dp un gd cn cs a ccd cl outer A₀ base h₀ L m s Q E B F X T hk hd hu ⟨hp.1, hp.2.1, hp.2.2.1, hp.2.2.2.1, hp.2.2.2.2.1⟩
      (by rw [(rightB_iff ns h hp.2.2.2.1).mpr hp.2.2.2.2.2]; exact hq)

theorem cell_opt {o : Obj} {x : Int} {t : Tok} (h : o.data = .cell (some (.int (2 + Int.fmod x 4) t))) : ∃ o2 : Int, 2 ≤ o2 ∧ o2 ≤ 5 ∧ o.data = .cell (some (.int o2 t)) :=
  ⟨_, by have := fmod_lo x (show (0 : Int) < 4 by decide); omega, by have := fmod_hi x (show (0 : Int) < 4 by decide); omega, h⟩
theorem row_opt {ys : List Value} {xs : List Int} {f : Int → Int} (h : IntsAre ys (List.map f (List.take 12 xs))) : ∃ r : List Int, r.length ≤ 12 ∧ IntsAre ys r :=
  ⟨_, by rw [List.length_map, List.length_take]; omega, h⟩
theorem sorted_eq : ∀ {a b : List Int}, a.Perm b → a.Pairwise (· ≤ ·) → b.Pairwise (· ≤ ·) → a = b
  | [], b, p, _, _ => (List.nil_perm.mp p).symm
  | x :: a, b, p, ha, hb => by
    cases b with
    | nil => exact absurd p.symm (by simp)
    | cons y b =>
      have h1 : y ≤ x := by
        rcases List.mem_cons.mp (p.mem_iff.mp (List.mem_cons_self ..)) with e | h
        · omega
        · exact List.rel_of_pairwise_cons hb h
      have h2 : x ≤ y := by
        rcases List.mem_cons.mp (p.mem_iff.mpr (List.mem_cons_self ..)) with e | h
        · omega
        · exact List.rel_of_pairwise_cons ha h
      obtain rfl : x = y := by omega
      rw [sorted_eq (List.Perm.cons_inv p) ha.of_cons hb.of_cons]
theorem sort_eq {a b r : List Int} (p : a.Perm b) (o : a.Pairwise (· ≤ ·)) (q : b.Perm r) : a = isort r :=
  sorted_eq (p.trans (q.trans (isort_perm r).symm)) o (isort_pairwise r)
theorem news_pick {h₀ h : Heap} {L : Addr} {l : List (Addr × Obj)} (N : News h₀ L h l) (ks : List Nat) : News h₀ L h (ks.filterMap (l[·]?)) := fun p hp => by
  obtain ⟨k, _, e⟩ := List.mem_filterMap.mp hp
  exact N p (List.mem_of_getElem? e)
/-- in order by all sums of two steps -/
def RightSums (ns : List Int) (o1 o2 : Int) : Prop := ∀ a b : Int, 0 ≤ a → 0 ≤ b → 0 < a + b → Right ns (a * o1 + b * o2)
theorem RightSums.use {ns : List Int} {o1 o2 a b : Int} (h : RightSums ns o1 o2) (ha : 0 ≤ a) (hb : 0 ≤ b) (hab : 0 < a + b) : Right ns (a * o1 + b * o2) := h a b ha hb hab
end Mine
namespace Mine
theorem putL_cons {α : Type} (xs : List α) (k : Nat) (ks : List Nat) (y : α) (ys : List α) : putL xs (k :: ks) (y :: ys) = putL (xs.set k y) ks ys := rfl
theorem putL_off : ∀ (ks : List Nat) (ys xs : List Int) (j : Nat), j ∉ ks → (putL xs ks ys).getD j 0 = xs.getD j 0
  | [], ys, xs, j, _ => by simp [putL]
  | _ :: _, [], xs, j, _ => by simp [putL]
  | k :: ks, y :: ys, xs, j, h => by
    rw [putL_cons, putL_off ks ys _ j (fun q => h (.tail _ q))]
    have : k ≠ j := fun e => h (e ▸ .head _)
    simp [List.getD_eq_getElem?_getD, List.getElem?_set_ne this]
theorem putL_at : ∀ (ks : List Nat) (ys xs : List Int) (t : Nat), ks.Nodup → (∀ k ∈ ks, k < xs.length) → ks.length = ys.length → ∀ ht : t < ks.length, (putL xs ks ys).getD ks[t] 0 = ys.getD t 0
  | [], _, _, _, _, _, _, ht => absurd ht (by simp)
  | _ :: _, [], _, _, _, _, e, _ => by simp at e
  | k :: ks, y :: ys, xs, t, hn, hl, e, ht => by
    rw [List.nodup_cons] at hn
    rw [putL_cons]
    cases t with
    | zero =>
      rw [List.getElem_cons_zero, putL_off ks ys _ k hn.1]
      simp [List.getD_eq_getElem?_getD, List.getElem?_set_self (hl k (.head _))]
    | succ t =>
      rw [List.getElem_cons_succ, putL_at ks ys _ t hn.2 (fun q hq => by rw [List.length_set]; exact hl q (.tail _ hq)) (by simpa using e) (by simpa using ht)]
      simp

/-- the first j classes laid -/
def layN (ns : List Int) (h : Nat) : Nat → List Int
  | 0 => ns
  | j + 1 => lay1 ns (h : Int) (layN ns h j) (j : Int)
theorem laid_layN (ns : List Int) (h : Nat) : laid ns (h : Int) = layN ns h h := by
  have : ∀ j, (rangeKs 0 j).foldl (lay1 ns (h : Int)) ns = layN ns h j := by
    intro j
    induction j with
    | zero => rfl
    | succ j ih =>
      have e : rangeKs 0 (j + 1) = rangeKs 0 j ++ [(j : Int)] := by simp [rangeKs, List.range_succ]
      rw [e, List.foldl_append, ih]
      rfl
  have e : ((h : Int) - 0).toNat = h := by omega
  rw [laid, e, this]
theorem layN_len (ns : List Int) (h : Nat) : ∀ j, (layN ns h j).length = ns.length
  | 0 => rfl
  | j + 1 => by rw [layN, lay1, putL_length, layN_len ns h j]

/-- the class of b -/
def cls (ns : List Int) (h b : Nat) : List Int := pickNums ns (some (b : Int)) none (some (h : Int))
theorem cls_len {ns : List Int} {h b : Nat} (hh : 1 ≤ h) : (cls ns h b).length = (ns.length - b + h - 1) / h := by
  rw [cls, pick_length hh, slots_nat b h _ hh]; simp
theorem cls_lt {ns : List Int} {h b t : Nat} (hh : 1 ≤ h) : t < (cls ns h b).length ↔ b + h * t < ns.length := by
  rw [cls_len hh, ceil_lt hh]; omega
theorem cls_at {ns : List Int} {h b t : Nat} (hh : 1 ≤ h) (ht : b + h * t < ns.length) : (cls ns h b).getD t 0 = ns.getD (b + h * t) 0 := by
  have h1 := (cls_lt hh).mpr ht
  rw [cls_len hh] at h1
  rw [cls, pick_map hh, slots_nat b h _ hh]
  simp [List.getD_eq_getElem?_getD, h1]

theorem slots_nodup {b h n : Nat} (hh : 1 ≤ h) : (slots (b : Int) (h : Int) n).Nodup := by
  rw [slots_nat b h n hh]
  unfold List.Nodup
  rw [List.pairwise_map]
  refine List.Pairwise.imp (fun {x y} hxy e => hxy ?_) (List.nodup_range (n := (n - b + h - 1) / h))
  have e : h * x = h * y := by omega
  exact Nat.eq_of_mul_eq_mul_left (by omega) e
theorem slots_mod {b h n j : Nat} (hh : 1 ≤ h) (hb : b < h) (hj : j ∈ slots (b : Int) (h : Int) n) : j % h = b := by
  rw [slots_nat b h n hh] at hj
  obtain ⟨i, _, rfl⟩ := List.mem_map.mp hj
  rw [Nat.add_mul_mod_self_left, Nat.mod_eq_of_lt hb]

theorem lay1_off {ns f : List Int} {h b j : Nat} (hh : 1 ≤ h) (hb : b < h) (hj : j % h ≠ b) : (lay1 ns (h : Int) f (b : Int)).getD j 0 = f.getD j 0 :=
  putL_off _ _ _ _ fun q => hj (slots_mod hh hb q)
theorem lay1_at {ns f : List Int} {h b t : Nat} (hh : 1 ≤ h) (ht : b + h * t < ns.length) (e : f.length = ns.length) : (lay1 ns (h : Int) f (b : Int)).getD (b + h * t) 0 = (isort (cls ns h b)).getD t 0 := by
  have h1 := (cls_lt hh).mpr ht
  rw [cls_len hh] at h1
  have h2 : t < (slots (b : Int) (h : Int) f.length).length := by rw [slots_nat b h _ hh, e]; simpa using h1
  have h3 : (slots (b : Int) (h : Int) f.length)[t] = b + h * t := by simp [slots_nat b h _ hh]
  have := putL_at (slots (b : Int) (h : Int) f.length) (isort (cls ns h b)) f t (slots_nodup hh) (fun k hk => slots_mem hh hk) (by rw [isort_length, cls, pick_length hh, e]) h2
  rw [h3] at this
  exact this
theorem layN_off {ns : List Int} {h i : Nat} (hh : 1 ≤ h) : ∀ j, j ≤ h → j ≤ i % h → (layN ns h j).getD i 0 = ns.getD i 0
  | 0, _, _ => rfl
  | j + 1, hj, hi => by
    rw [layN, lay1_off hh (by omega) (by omega), layN_off hh j (by omega) (by omega)]
theorem layN_at {ns : List Int} {h b t : Nat} (hh : 1 ≤ h) (hb : b < h) (ht : b + h * t < ns.length) : ∀ j, j ≤ h → b < j → (layN ns h j).getD (b + h * t) 0 = (isort (cls ns h b)).getD t 0
  | 0, _, q => absurd q (by omega)
  | j + 1, hj, q => by
    rw [layN]
    by_cases e : b = j
    · subst e
      exact lay1_at hh ht (layN_len ns h b)
    · have hm : (b + h * t) % h = b := by rw [Nat.add_mul_mod_self_left, Nat.mod_eq_of_lt hb]
      rw [lay1_off hh (by omega) (by omega), layN_at hh hb ht j (by omega) (by omega)]
theorem laid_at {ns : List Int} {h b t : Nat} (hh : 1 ≤ h) (hb : b < h) (ht : b + h * t < ns.length) : (laid ns (h : Int)).getD (b + h * t) 0 = (isort (cls ns h b)).getD t 0 := by
  rw [laid_layN]
  exact layN_at hh hb ht h (Nat.le_refl h) hb

/-- in an ordered list the place is told by the count -/
theorem sorted_lt : ∀ {S : List Int} {q : Nat} {x : Int}, S.Pairwise (· ≤ ·) → q < S.length → (S.getD q 0 < x ↔ q < S.countP (fun y => decide (y < x)))
  | [], _, _, _, h => absurd h (by simp)
  | y :: S, q, x, hs, hq => by
    rw [List.pairwise_cons] at hs
    rw [List.countP_cons]
    cases q with
    | zero =>
      simp only [List.getD_cons_zero]
      by_cases h : y < x
      · simp [h]
      · have : S.countP (fun y => decide (y < x)) = 0 := by
          rw [List.countP_eq_zero]
          intro z hz
          have := hs.1 z hz
          simp only [decide_eq_true_eq]; omega
        simp [h, this]
    | succ q =>
      have ih := sorted_lt (x := x) hs.2 (show q < S.length by simpa using hq)
      simp only [List.getD_cons_succ]
      by_cases h : y < x
      · rw [ih]; simp [h]
      · have h0 : S.countP (fun y => decide (y < x)) = 0 := by
          rw [List.countP_eq_zero]
          intro z hz
          have := hs.1 z hz
          simp only [decide_eq_true_eq]; omega
        rw [ih, h0]
        simp [h]
theorem count_dom (x : Int) : ∀ (X Z : List Int), (∀ s, s < Z.length → s < X.length ∧ X.getD s 0 ≤ Z.getD s 0) → Z.countP (fun y => decide (y < x)) ≤ X.countP (fun y => decide (y < x))
  | _, [], _ => by simp
  | [], z :: Z, h => absurd (h 0 (by simp)).1 (by simp)
  | y :: X, z :: Z, h => by
    have ih := count_dom x X Z fun s hs => by have := h (s + 1) (by simpa using hs); simpa using this
    have h0 := (h 0 (by simp)).2
    simp only [List.getD_cons_zero] at h0
    rw [List.countP_cons, List.countP_cons]
    by_cases h1 : z < x
    · have : y < x := by omega
      simp [h1, this, ih]
    · simp only [h1, decide_false]
      have : (if false = true then 1 else 0) = 0 := rfl
      omega
theorem isort_dom {X Y : List Int} {d q : Nat} (h : ∀ s, s + d < Y.length → s < X.length ∧ X.getD s 0 ≤ Y.getD (s + d) 0) (hq : q + d < Y.length) : (isort X).getD q 0 ≤ (isort Y).getD (q + d) 0 := by
  refine Int.not_lt.mp fun hlt => ?_
  have h1 := (sorted_lt (isort_pairwise Y) (by rw [isort_length]; exact hq)).mp hlt
  rw [(isort_perm Y).countP_eq] at h1
  have h2 : Y.countP (fun y => decide (y < (isort X).getD q 0)) ≤ d + (Y.drop d).countP (fun y => decide (y < (isort X).getD q 0)) := by
    conv => lhs; rw [← List.take_append_drop d Y]
    rw [List.countP_append]
    have := List.countP_le_length (p := fun y => decide (y < (isort X).getD q 0)) (l := Y.take d)
    have := List.length_take_le d Y
    omega
  have h3 := count_dom ((isort X).getD q 0) X (Y.drop d) fun s hs => by
    rw [List.length_drop] at hs
    have := h s (by omega)
    simpa [List.getD_eq_getElem?_getD, List.getElem?_drop, Nat.add_comm d s] using this
  rw [← (isort_perm X).countP_eq] at h3
  have h4 := (sorted_lt (x := (isort X).getD q 0) (isort_pairwise X) (by rw [isort_length]; exact (h q hq).1)).mpr (by omega)
  omega

theorem nat_of {o : Int} (h : 1 ≤ o) : ∃ k : Nat, o = (k : Int) ∧ 1 ≤ k := ⟨o.toNat, by omega, by omega⟩
theorem law_first {r : List Int} {o1 : Int} (h : 1 ≤ o1) : Right (laid r o1) o1 := by
  obtain ⟨n, rfl, hn⟩ := nat_of h
  intro k hk hle
  rw [laid_len] at hk
  rw [Int.toNat_natCast]
  have e1 : k = k % n + n * (k / n) := (Nat.mod_add_div k n).symm
  have hb : k % n < n := Nat.mod_lt _ (by omega)
  have hd : 1 ≤ k / n := (Nat.le_div_iff_mul_le (by omega)).mpr (by omega)
  have e2 : k - n = k % n + n * (k / n - 1) := by
    rw [Nat.mul_sub_one]
    have : n * 1 ≤ n * (k / n) := Nat.mul_le_mul_left n hd
    omega
  have a1 := laid_at (ns := r) hn hb (t := k / n) (by omega)
  have a2 := laid_at (ns := r) hn hb (t := k / n - 1) (by omega)
  rw [← e1] at a1
  rw [← e2] at a2
  rw [a1, a2]
  have hl : k / n < (isort (cls r n (k % n))).length := by rw [isort_length, cls_lt hn]; omega
  have := List.pairwise_iff_getElem.mp (isort_pairwise (cls r n (k % n))) (k / n - 1) (k / n) (by omega) hl (by omega)
  simpa [List.getD_eq_getElem?_getD, hl, (show k / n - 1 < (isort (cls r n (k % n))).length by omega)] using this

theorem keep_right {r : List Int} {n k : Nat} (hn : 1 ≤ n) (_hk : 1 ≤ k) (h : Right r (k : Int)) : Right (laid r (n : Int)) (k : Int) := by
  intro j hj hle
  rw [laid_len] at hj
  rw [Int.toNat_natCast]
  obtain ⟨i, rfl⟩ : ∃ i, j = i + k := ⟨j - k, by omega⟩
  rw [Nat.add_sub_cancel]
  have e1 : i = i % n + n * (i / n) := (Nat.mod_add_div i n).symm
  have e2 : i + k = (i + k) % n + n * ((i + k) / n) := (Nat.mod_add_div (i + k) n).symm
  have hb : i % n < n := Nat.mod_lt _ (by omega)
  have hc : (i + k) % n < n := Nat.mod_lt _ (by omega)
  have hd : i / n ≤ (i + k) / n := Nat.div_le_div_right (by omega)
  have a1 := laid_at (ns := r) hn hb (t := i / n) (by omega)
  have a2 := laid_at (ns := r) hn hc (t := (i + k) / n) (by omega)
  rw [← e1] at a1
  rw [← e2] at a2
  rw [a1, a2]
  have e3 : (i + k) / n = i / n + ((i + k) / n - i / n) := by omega
  rw [e3]
  have key : ∀ s, (i + k) % n + n * (s + ((i + k) / n - i / n)) = i % n + n * s + k := by
    intro s
    have m1 : n * (s + ((i + k) / n - i / n)) = n * s + (n * ((i + k) / n) - n * (i / n)) := by rw [Nat.mul_add, Nat.mul_sub]
    have m2 : n * (i / n) ≤ n * ((i + k) / n) := Nat.mul_le_mul_left n hd
    omega
  refine isort_dom (fun s hs => ?_) ?_
  · rw [cls_lt hn, key] at hs
    refine ⟨(cls_lt hn).mpr (by omega), ?_⟩
    rw [cls_at hn (by omega), cls_at hn (by rw [key]; exact hs), key]
    have := h (i % n + n * s + k) hs (by omega)
    rwa [Int.toNat_natCast, Nat.add_sub_cancel] at this
  · rw [cls_lt hn, ← e3, ← e2]
    exact hj
theorem law_both1 {r : List Int} {o1 o2 : Int} (h1 : 1 ≤ o1) (h2 : 1 ≤ o2) : Right (laid (laid r o1) o2) o1 := by
  have f := law_first (r := r) h1
  obtain ⟨k, rfl, hk⟩ := nat_of h1
  obtain ⟨n, rfl, hn⟩ := nat_of h2
  exact keep_right hn hk f
theorem putL_set : ∀ (ks : List Nat) (ys xs : List Int) (k : Nat) (v : Int), k ∉ ks → putL (xs.set k v) ks ys = (putL xs ks ys).set k v
  | [], ys, xs, k, v, _ => by simp [putL]
  | _ :: _, [], xs, k, v, _ => by simp [putL]
  | q :: ks, y :: ys, xs, k, v, h => by
    have hq : k ≠ q := fun e => h (e ▸ .head _)
    rw [putL_cons, putL_cons, List.set_comm _ _ hq, putL_set ks ys _ k v fun e => h (.tail _ e)]

/-- the inversions of a list -/
def inv : List Int → Nat
  | [] => 0
  | x :: l => l.countP (fun y => decide (y < x)) + inv l

theorem inv_mid (y : Int) (s : List Int) : ∀ m : List Int, inv (m ++ y :: s) = m.countP (fun z => decide (y < z)) + s.countP (fun z => decide (z < y)) + inv (m ++ s)
  | [] => by simp [inv]
  | z :: m => by
    rw [List.cons_append, List.cons_append, inv, inv, inv_mid y s m, List.countP_cons, List.countP_append, List.countP_cons, List.countP_append]
    omega
theorem inv_swap0 (x y : Int) (m s : List Int) (h : y ≤ x) : inv (y :: (m ++ x :: s)) ≤ inv (x :: (m ++ y :: s)) := by
  rw [inv, inv, inv_mid, inv_mid, List.countP_append, List.countP_cons, List.countP_append, List.countP_cons]
  have h1 : m.countP (fun z => decide (z < y)) ≤ m.countP (fun z => decide (z < x)) := List.countP_mono_left fun z _ hz => by
    simp only [decide_eq_true_eq] at hz ⊢; omega
  have h2 : m.countP (fun z => decide (x < z)) ≤ m.countP (fun z => decide (y < z)) := List.countP_mono_left fun z _ hz => by
    simp only [decide_eq_true_eq] at hz ⊢; omega
  have h3 : (if decide (x < y) = true then 1 else 0) = 0 := by
    rw [if_neg]; simp only [decide_eq_true_eq]; omega
  omega
theorem inv_swap : ∀ (A : List Int) (i j : Nat) (x y : Int), i < j → j < A.length → y ≤ x →
    (∀ p : Int → Bool, ((A.set i y).set j x).countP p = ((A.set i x).set j y).countP p) ∧ inv ((A.set i y).set j x) ≤ inv ((A.set i x).set j y)
  | [], _, _, _, _, _, h, _ => absurd h (by simp)
  | a :: A, 0, j, x, y, hij, hj, hxy => by
    obtain ⟨j, rfl⟩ : ∃ q, j = q + 1 := ⟨j - 1, by omega⟩
    simp only [List.set_cons_zero, List.set_cons_succ]
    have hj' : j < A.length := by simpa using hj
    rw [List.set_eq_take_append_cons_drop, List.set_eq_take_append_cons_drop, if_pos hj', if_pos hj']
    refine ⟨fun p => ?_, inv_swap0 x y _ _ hxy⟩
    simp only [List.countP_cons, List.countP_append]
    omega
  | a :: A, i + 1, j, x, y, hij, hj, hxy => by
    obtain ⟨j, rfl⟩ : ∃ q, j = q + 1 := ⟨j - 1, by omega⟩
    simp only [List.set_cons_succ]
    obtain ⟨h1, h2⟩ := inv_swap A i j x y (by omega) (by simpa using hj) hxy
    refine ⟨fun p => ?_, ?_⟩
    · rw [List.countP_cons, List.countP_cons, h1]
    · rw [inv, inv, h1]; omega

inductive Down : List Int → List Int → Prop
  | same (a : List Int) : Down a a
  | swap (p s : List Int) (x y : Int) : y ≤ x → Down (p ++ x :: y :: s) (p ++ y :: x :: s)
  | next {a b c : List Int} : Down a b → Down b c → Down a c
theorem Down.right {a b : List Int} (c : List Int) (h : Down a b) : Down (a ++ c) (b ++ c) := by
  induction h with
  | same a => exact .same _
  | swap p s x y hxy => simpa using Down.swap p (s ++ c) x y hxy
  | next _ _ h1 h2 => exact h1.next h2
theorem Down.shift (x : Int) : ∀ (D p : List Int), (∀ z ∈ D, x ≤ z) → Down (p ++ (D ++ [x])) (p ++ x :: D)
  | [], p, _ => .same _
  | z :: D, p, h => by
    have ih := Down.shift x D (p ++ [z]) fun q hq => h q (.tail _ hq)
    simp only [List.append_assoc, List.singleton_append] at ih
    exact ih.next (.swap p D z x (h z (.head _)))
theorem ins_down {ns : List Int} (x : Int) (hs : ns.Pairwise (· ≤ ·)) : Down (ns ++ [x]) (ins ns x) := by
  have h : ∀ z ∈ ns.drop (cnt ns x), x ≤ z := by
    intro z hz
    obtain ⟨i, hi, rfl⟩ := List.mem_iff_getElem.mp hz
    rw [List.length_drop] at hi
    rw [List.getElem_drop]
    have h1 : cnt ns x + i < ns.length := by omega
    have := not_congr (sorted_lt (x := x) hs h1)
    rw [List.getD_eq_getElem?_getD, List.getElem?_eq_getElem h1, Option.getD_some] at this
    have h2 := this.mpr (by unfold cnt; omega)
    omega
  have := Down.shift x (ns.drop (cnt ns x)) (ns.take (cnt ns x)) h
  rwa [← List.append_assoc, List.take_append_drop] at this
theorem isort_down (ms : List Int) : Down ms (isort ms) := by
  have : ∀ n (ms : List Int), ms.length = n → Down ms (isort ms) := by
    intro n
    induction n with
    | zero => intro ms h; rw [List.length_eq_zero_iff.mp h]; exact .same _
    | succ n ih =>
      intro ms h
      rcases List.eq_nil_or_concat ms with rfl | ⟨l, x, rfl⟩
      · simp at h
      · rw [List.concat_eq_append] at h ⊢
        rw [isort_snoc]
        exact ((ih l (by simpa using h)).right [x]).next (ins_down x (isort_pairwise l))
  exact this _ ms rfl
theorem inv_put {ks : List Nat} {ys zs : List Int} (d : Down ys zs) : ∀ (f : List Int), ks.Pairwise (· < ·) → (∀ k ∈ ks, k < f.length) → ks.length = ys.length → ks.length = zs.length ∧ (∀ p : Int → Bool, (putL f ks zs).countP p = (putL f ks ys).countP p) ∧ inv (putL f ks zs) ≤ inv (putL f ks ys) := by
  induction d with
  | same a => intro f _ _ e; exact ⟨e, fun _ => rfl, Nat.le_refl _⟩
  | next d1 d2 h1 h2 =>
    intro f a b e
    obtain ⟨e1, c1, i1⟩ := h1 f a b e
    obtain ⟨e2, c2, i2⟩ := h2 f a b e1
    exact ⟨e2, fun p => (c2 p).trans (c1 p), Nat.le_trans i2 i1⟩
  | swap p s x y hxy =>
    intro f a b e
    refine ⟨by simpa using e, ?_⟩
    induction p generalizing ks f with
    | nil =>
      match ks, a, b, e with
      | i :: j :: ks, a, b, e =>
        simp only [List.nil_append, putL_cons]
        rw [List.pairwise_cons] at a
        obtain ⟨a1, a2⟩ := a
        rw [List.pairwise_cons] at a2
        obtain ⟨a3, _⟩ := a2
        have hi : i ∉ ks := fun q => by have := a1 i (.tail _ q); omega
        have hj : j ∉ ks := fun q => by have := a3 j q; omega
        rw [putL_set ks s _ j x hj, putL_set ks s _ i y hi, putL_set ks s _ j y hj, putL_set ks s _ i x hi]
        have hij := a1 j (.head _)
        exact inv_swap (putL f ks s) i j x y hij (by rw [putL_length]; exact b j (.tail _ (.head _))) hxy
    | cons q p ih =>
      match ks, a, b, e with
      | k :: ks, a, b, e =>
        simp only [List.cons_append, putL_cons]
        rw [List.pairwise_cons] at a
        exact ih (f.set k q) a.2 (fun k' hk' => by rw [List.length_set]; exact b k' (.tail _ hk')) (by simpa using e)
theorem slots_lt {b h n : Nat} (hh : 1 ≤ h) : (slots (b : Int) (h : Int) n).Pairwise (· < ·) := by
  rw [slots_nat b h n hh, List.pairwise_map]
  refine List.Pairwise.imp (fun {x y} hxy => ?_) (List.pairwise_lt_range (n := (n - b + h - 1) / h))
  have : h * x < h * y := Nat.mul_lt_mul_of_pos_left hxy (by omega)
  omega
theorem putL_own : ∀ (ks : List Nat) (f : List Int), putL f ks (ks.map (f.getD · 0)) = f
  | [], f => by simp [putL]
  | k :: ks, f => by
    have e : f.set k (f.getD k 0) = f := by
      apply List.ext_getElem?
      intro i
      by_cases h : k = i
      · subst h
        rw [List.getElem?_set]
        by_cases hk : k < f.length
        · simp [hk, List.getD_eq_getElem?_getD]
        · simp [hk]
      · rw [List.getElem?_set_ne h]
    rw [List.map_cons, putL_cons, e, putL_own ks f]
theorem layN_down (ns : List Int) {h : Nat} (hh : 1 ≤ h) : ∀ j, j ≤ h → (∀ p : Int → Bool, (layN ns h j).countP p = ns.countP p) ∧ inv (layN ns h j) ≤ inv ns
  | 0, _ => ⟨fun _ => rfl, Nat.le_refl _⟩
  | j + 1, hj => by
    obtain ⟨c, i⟩ := layN_down ns hh j (by omega)
    rw [layN, lay1]
    have e0 : (slots (j : Int) (h : Int) ns.length).map (ns.getD · 0) = (slots (j : Int) (h : Int) ns.length).map ((layN ns h j).getD · 0) := by
      apply List.map_congr_left
      intro k hk
      have := slots_mod hh (by omega) hk
      exact (layN_off hh j (by omega) (by omega)).symm
    have e1 : pickNums ns (some (j : Int)) none (some (h : Int)) = (slots (j : Int) (h : Int) (layN ns h j).length).map ((layN ns h j).getD · 0) := by
      rw [pick_map hh, layN_len, e0]
    have := inv_put (ks := slots (j : Int) (h : Int) (layN ns h j).length) (isort_down (pickNums ns (some (j : Int)) none (some (h : Int)))) (layN ns h j) (slots_lt hh) (fun k hk => slots_mem hh hk) (by rw [pick_length hh, layN_len])
    obtain ⟨_, c2, i2⟩ := this
    rw [e1, putL_own] at i2
    rw [← e1] at i2
    refine ⟨fun p => ?_, Nat.le_trans i2 i⟩
    rw [c2 p, e1, putL_own, c p]
theorem laid_perm (r : List Int) {o1 : Int} (h : 1 ≤ o1) : (laid r o1).Perm r := by
  obtain ⟨n, rfl, hn⟩ := nat_of h
  rw [List.perm_iff_count]
  intro a
  rw [laid_layN]
  exact (layN_down r hn n (Nat.le_refl n)).1 (· == a)
theorem inv_take (ns : List Int) : ∀ n, n ≤ ns.length → tot (fun k j => decide (ns.getD j 0 > ns.getD k 0)) n = inv (ns.take n)
  | 0, _ => by simp [tot, inv]
  | n + 1, h => by
    rw [tot_succ, inv_take ns n (by omega), List.take_succ_eq_append_getElem (by omega), inv_mid]
    simp only [List.append_nil, List.countP_nil]
    have e : (ns.take n).countP (fun z => decide (ns[n] < z)) = (List.range n).countP (fun j => decide (ns.getD j 0 > ns.getD n 0)) := by
      have e1 : ns.take n = (List.range n).map (ns.getD · 0) := by
        apply List.ext_getElem
        · simp; omega
        · intro i h1 h2
          have : i < ns.length := by simp at h1; omega
          simp [List.getD_eq_getElem?_getD, this]
      rw [e1, List.countP_map]
      congr 1
      funext j
      simp [List.getD_eq_getElem?_getD, (show n < ns.length by omega)]
    omega
theorem wrong_inv (ns : List Int) : wrong ns = inv ns := by
  rw [wrong, inv_take ns _ (Nat.le_refl _), List.take_length]
theorem wrong_less {r : List Int} {o1 : Int} (h : 1 ≤ o1) : wrong (laid r o1) ≤ wrong r := by
  obtain ⟨n, rfl, hn⟩ := nat_of h
  rw [wrong_inv, wrong_inv, laid_layN]
  exact (layN_down r hn n (Nat.le_refl n)).2
theorem laid_one {b r : List Int} (p : b.Perm r) : laid b 1 = isort r := by
  have h1 : Right (laid b 1) 1 := law_first (by omega)
  refine sort_eq (laid_perm b (by omega)) ?_ p
  have : ∀ l : List Int, Right l 1 → l.Pairwise (· ≤ ·) := by
    intro l
    induction l with
    | nil => intro _; exact .nil
    | cons x l ih =>
      intro h
      have hl : Right l 1 := fun k hk h1 => by
        have := h (k + 1) (by simpa using hk) (by omega)
        obtain ⟨q, rfl⟩ : ∃ q, k = q + 1 := ⟨k - 1, by omega⟩
        simpa using this
      have hp := ih hl
      refine List.pairwise_cons.mpr ⟨fun z hz => ?_, hp⟩
      cases l with
      | nil => cases hz
      | cons y l =>
        have h0 : x ≤ y := by have := h 1 (by simp) (by omega); simpa using this
        rcases List.mem_cons.mp hz with rfl | hz
        · exact h0
        · have := (List.pairwise_cons.mp hp).1 z hz
          omega
  exact this _ h1
theorem count_same {a r : List Int} (p : a.Perm r) (x : Int) : a.countP (fun y => decide (y < x)) = (r.filter (fun y => decide (y < x))).length := by
  rw [p.countP_eq, List.countP_eq_length_filter]

theorem right_add {r : List Int} {a b : Int} (ha : 0 ≤ a) (hb : 0 ≤ b) (h1 : Right r a) (h2 : Right r b) : Right r (a + b) := by
  intro k hk hle
  have e1 := h1 k hk (by omega)
  have e2 := h2 (k - a.toNat) (by omega) (by omega)
  rw [show k - a.toNat - b.toNat = k - (a + b).toNat by omega] at e2
  omega
theorem right_zero {r : List Int} : Right r 0 := fun k _ _ => by simp
theorem right_mul {r : List Int} {o : Int} (ho : 1 ≤ o) (h : Right r o) : ∀ n : Nat, Right r ((n : Int) * o)
  | 0 => by simpa using right_zero (r := r)
  | n + 1 => by
    have := right_add (Int.mul_nonneg (Int.natCast_nonneg n) (by omega)) (by omega) (right_mul ho h n) h
    rwa [show ((n + 1 : Nat) : Int) * o = (n : Int) * o + o by rw [Int.natCast_succ, Int.add_mul, Int.one_mul]]
theorem right_two {r : List Int} {o1 o2 a b : Int} (h1 : 1 ≤ o1) (h2 : 1 ≤ o2) (f1 : Right r o1) (f2 : Right r o2) (ha : 0 ≤ a) (hb : 0 ≤ b) : Right r (a * o1 + b * o2) := by
  have e1 := right_mul h1 f1 a.toNat
  have e2 := right_mul h2 f2 b.toNat
  rw [Int.toNat_of_nonneg ha] at e1
  rw [Int.toNat_of_nonneg hb] at e2
  exact right_add (Int.mul_nonneg ha (by omega)) (Int.mul_nonneg hb (by omega)) e1 e2
theorem right_sums {r : List Int} {o1 o2 : Int} (h1 : 1 ≤ o1) (h2 : 1 ≤ o2) (a : Right r o1) (b : Right r o2) : RightSums r o1 o2 :=
  fun _ _ hx hy _ => right_two h1 h2 a b hx hy

/-- no small number divides both steps -/
def noCommon (o1 o2 : Int) : List Int := (rangeKs 2 (6 - 2 : Int).toNat).foldl (fun acc k => if o1.fmod k = o2.fmod k ∧ o2.fmod k = 0 then acc ++ [k] else acc) []
theorem frob {r : List Int} {o1 o2 : Int} (h1 : 2 ≤ o1) (h1' : o1 ≤ 5) (h2 : 2 ≤ o2) (h2' : o2 ≤ 5) (a : Right r o1) (b : Right r o2) (c : noCommon o1 o2 = []) : ∀ st : Int, (o1 - 1) * (o2 - 1) ≤ st → Right r st := by
  intro st hst
  have key : ∀ x y : Int, 0 ≤ x → 0 ≤ y → st = x * o1 + y * o2 → Right r st := fun x y hx hy e => e ▸ right_two (by omega) (by omega) a b hx hy
  have q1 : o1 = 2 ∨ o1 = 3 ∨ o1 = 4 ∨ o1 = 5 := by omega
  have q2 : o2 = 2 ∨ o2 = 3 ∨ o2 = 4 ∨ o2 = 5 := by omega
  rcases q1 with rfl | rfl | rfl | rfl <;> rcases q2 with rfl | rfl | rfl | rfl
  all_goals first
    | exact absurd c (by decide)
    | exact key ((st - (st % 2) * 3) / 2) (st % 2) (by omega) (by omega) (by omega)
    | exact key ((st - (st % 2) * 5) / 2) (st % 2) (by omega) (by omega) (by omega)
    | exact key (st % 2) ((st - (st % 2) * 3) / 2) (by omega) (by omega) (by omega)
    | exact key (st % 2) ((st - (st % 2) * 5) / 2) (by omega) (by omega) (by omega)
    | exact key ((st - (st % 3) * 4) / 3) (st % 3) (by omega) (by omega) (by omega)
    | exact key ((st - (2 * st % 3) * 5) / 3) (2 * st % 3) (by omega) (by omega) (by omega)
    | exact key (st % 3) ((st - (st % 3) * 4) / 3) (by omega) (by omega) (by omega)
    | exact key (2 * st % 3) ((st - (2 * st % 3) * 5) / 3) (by omega) (by omega) (by omega)
    | exact key ((st - (st % 4) * 5) / 4) (st % 4) (by omega) (by omega) (by omega)
    | exact key (st % 4) ((st - (st % 4) * 5) / 4) (by omega) (by omega) (by omega)
end Mine
namespace Mine
open PyProof.Rows.LCg
theorem sum_lo {a b o1 o2 : Int} (ha : 0 ≤ a) (hb : 0 ≤ b) (hab : 0 < a + b) (h1 : 1 ≤ o1) (h2 : 1 ≤ o2) : 1 ≤ a * o1 + b * o2 := by
  have e1 : a * 1 ≤ a * o1 := Int.mul_le_mul_of_nonneg_left h1 ha
  have e2 : b * 1 ≤ b * o2 := Int.mul_le_mul_of_nonneg_left h2 hb
  omega
theorem sum_hi {a b o1 o2 : Int} (ha : 0 ≤ a) (hb : 0 ≤ b) (ha' : a ≤ 5) (hb' : b ≤ 5) (h1 : o1 ≤ 5) (h2 : o2 ≤ 5) : a * o1 + b * o2 ≤ 2000 := by
  have e1 : a * o1 ≤ a * 5 := Int.mul_le_mul_of_nonneg_left h1 ha
  have e2 : b * o2 ≤ b * 5 := Int.mul_le_mul_of_nonneg_left h2 hb
  omega
/-- a turn's end, where nothing is kept but the frame's names that are not stored -/
def TurnEnd (h₀ : Heap) (L : Addr) (s : Shared) (led : List (Addr × Obj)) (x : Str) (stored : List Str) (m₀ : Str → Option Value) (Q : Flow → Shared → Prop) (f : Flow) (s₂ : Shared) : Prop :=
  match f with
  | .ret v => Q (.ret v) s₂
  | .brk => Q .next s₂
  | _ => ∃ h' tk' m', s₂ = { s with heap := h', toks := tk' } ∧ Fr h₀ L h' m' ∧ News h₀ L h' led ∧ ∀ z, z ≠ x → stored.contains z = false → m' z = m₀ z

theorem turn_next {h₀ : Heap} {L : Addr} {s : Shared} {led l : List (Addr × Obj)} {x : Str} {stored : List Str} {m₀ m' : Str → Option Value} {Q : Flow → Shared → Prop} {h' : Heap} {tk' : Nat} (F : Fr h₀ L h' m') (N : News h₀ L h' l) (sub : ∀ p ∈ led, p ∈ l)
    (hm : ∀ z, z ≠ x → stored.contains z = false → m' z = m₀ z) : TurnEnd h₀ L s led x stored m₀ Q .next { s with heap := h', toks := tk' } := ⟨h', tk', m', rfl, F, fun p hp => N p (sub p hp), hm⟩
section
variable {prog : Program} {w : World} {A : Around} {E : Value → Shared → Prop} {s : Shared} {env : Env} {h₀ : Heap} {x : Str} {body : List Stmt} {Q : Flow → Shared → Prop}
theorem loop_const {r : Addr} {a₀ b₀ : Int} {t₀ u₀ v₀ : Tok} {n : Nat} {m₀ : Str → Option Value} {led : List (Addr × Obj)} (stored : List Str)
    (hh : A.handled = none) (hr : IsRange s.heap r a₀ b₀ 1 t₀ u₀ v₀) (hsmall : Builtin.Range.small a₀ b₀ 1 = true) (hn : Builtin.Range.rangeSize a₀ b₀ 1 = (n : Int)) (F : Fr h₀ env.locals s.heap m₀) (N : News h₀ env.locals s.heap led)
    (turn : ∀ (k : Int) t (u : Str → Option Value) h tk own, a₀ ≤ k → k < a₀ + n → OwnOff own (led.map (·.1)) →
      Fr h₀ env.locals h (fun y => if y = x then some (.int k t) else if stored.contains y then u y else m₀ y) → News h₀ env.locals h (led ++ own) →
      wpAny (model prog w) A (execs body env) (TurnEnd h₀ env.locals s (led ++ own) x stored m₀ Q) E { s with heap := h, toks := tk })
    (done : ∀ (u : Str → Option Value) h tk, Fr h₀ env.locals h (fun y => if y = x then u y else if stored.contains y then u y else m₀ y) → News h₀ env.locals h led → Q .next { s with heap := h, toks := tk }) :
    wpAny (model prog w) A (pyIter (.ref r)) (fun it s₂ => LoopAtV prog w A h₀ env x body Q E it s₂) E s := by
  refine kst_range (fun _ : Unit => led) (fun _ => []) (fun _ => True) stored (fun _ _ => True) () hh hr hsmall hn F N trivial (fun p hp => nomatch hp) trivial ?_ ?_
  · intro c pre k t u h tk own hk hkn hoff _ _ F' N'
    refine wpAny_mono (turn k t u h tk own (by omega) (by omega) hoff F' N') (fun f s₂ hq => ?_) fun _ _ e => e
    have fin : (∃ h' tk' m', s₂ = { s with heap := h', toks := tk' } ∧ Fr h₀ env.locals h' m' ∧ News h₀ env.locals h' (led ++ own) ∧ ∀ z, z ≠ x → stored.contains z = false → m' z = m₀ z) →
        InvEndN h₀ env.locals (KstS (fun _ : Unit => led) (fun _ => []) (fun _ => True) x stored m₀ (fun _ _ => True) (pre ++ [k])) own (led.map (·.1)) { s with heap := h, toks := tk } s₂ := by
      rintro ⟨h', tk', m', rfl, F₂, N₂, hm⟩
      exact kst_end () F₂ N₂ (fun p hp => List.mem_append_left _ hp) (fun p hp => List.mem_append_right _ hp) rfl trivial (fun p hp => nomatch hp) (fun z hz _ hs => hm z hz hs) trivial
    cases f with
    | ret v => exact hq
    | brk => exact hq
    | next => exact fin hq
    | cont => exact fin hq
  · intro c u h tk _ _ F' N'
    exact done u h tk F' N'
end

/-- a statement's end: on it goes, and nothing is turned but one name -/
def AfterIf (h₀ : Heap) (L : Addr) (s : Shared) (led : List (Addr × Obj)) (x : Str) (m₀ : Str → Option Value) (f : Flow) (s₂ : Shared) : Prop :=
  f = .next ∧ ∃ h' tk' m', s₂ = { s with heap := h', toks := tk' } ∧ Fr h₀ L h' m' ∧ News h₀ L h' led ∧ ∀ z, z ≠ x → m' z = m₀ z
theorem after_if {h₀ : Heap} {L : Addr} {s : Shared} {led l : List (Addr × Obj)} {x : Str} {m₀ m' : Str → Option Value} {h' : Heap} {tk' : Nat} (F : Fr h₀ L h' m') (N : News h₀ L h' l) (sub : ∀ p ∈ led, p ∈ l) (hm : ∀ z, z ≠ x → m' z = m₀ z) :
    AfterIf h₀ L s led x m₀ .next { s with heap := h', toks := tk' } := ⟨rfl, h', tk', m', rfl, F, fun p hp => N p (sub p hp), hm⟩
theorem cut_if {M : Model} {A : Around} {E : Value → Shared → Prop} {s : Shared} {h₀ : Heap} {L : Addr} {led : List (Addr × Obj)} {m₀ : Str → Option Value} {t : Sem Flow} {Q : Flow → Shared → Prop} (x : Str)
    (F : Fr h₀ L s.heap m₀) (N : News h₀ L s.heap led) (h1 : wpAny M A t (AfterIf h₀ L s led x m₀) E s)
    (h2 : ∀ (u : Str → Option Value) h' tk', Fr h₀ L h' (fun y => if y = x then u y else m₀ y) → News h₀ L h' led → Q .next { s with heap := h', toks := tk' }) : wpAny M A t Q E s := by
  refine wpAny_mono h1 (fun f s₂ hq => ?_) fun _ _ e => e
  obtain ⟨rfl, h', tk', m', rfl, F', N', hm⟩ := hq
  refine h2 m' h' tk' ?_ N'
  have e : (fun y => if y = x then m' y else m₀ y) = m' := by
    funext y
    by_cases hy : y = x
    · rw [if_pos hy]
    · rw [if_neg hy]; exact (hm y hy).symm
  rw [e]; exact F'

theorem news_ne {h₀ h : Heap} {L a b : Addr} {o o' : Obj} {l : List (Addr × Obj)} (N : News h₀ L h l) (h1 : (a, o) ∈ l) (h2 : (b, o') ∈ l) (hne : o ≠ o') : a ≠ b := fun q => by
  have e1 := (N _ h1).1
  have e2 := (N _ h2).1
  have q' : (a : Addr) = b := q
  simp only [q'] at e1
  rw [e1] at e2
  exact hne (Option.some.inj e2)
theorem list_ne_cell {vs : Array Value} {n : Nat} {o : Obj} {v : Option Value} (h : o.data = .cell v) : (listOf vs n) ≠ o := fun q => by
  rw [← q] at h; cases h
theorem upd4 {h₀ h : Heap} {L a D Db Dr : Addr} {o1 o2 o3 o4 : Obj} {u v w : Array Value} {i j k : Nat} {v₀ : Option Value} (N : News h₀ L h [(D, listOf u i), (Db, listOf v j), (Dr, listOf w k), (a + 1 + 1 + 1 + 1, o4), (a + 1 + 1 + 1, o3), (a + 1 + 1, o2), (a + 1, o1)])
    (hd : o4.data = .cell v₀) : UpdF (a + 1 + 1 + 1 + 1) o4 [(D, listOf u i), (Db, listOf v j), (Dr, listOf w k), (a + 1 + 1 + 1 + 1, o4), (a + 1 + 1 + 1, o3), (a + 1 + 1, o2), (a + 1, o1)]
      (fun o' => [(D, listOf u i), (Db, listOf v j), (Dr, listOf w k), (a + 1 + 1 + 1 + 1, o'), (a + 1 + 1 + 1, o3), (a + 1 + 1, o2), (a + 1, o1)]) := by
  refine .tail ?_ (.tail ?_ (.tail ?_ (.head ?_)))
  · exact news_ne N (.head _) (.tail _ (.tail _ (.tail _ (.head _)))) (list_ne_cell hd)
  · exact news_ne N (.tail _ (.head _)) (.tail _ (.tail _ (.tail _ (.head _)))) (list_ne_cell hd)
  · exact news_ne N (.tail _ (.tail _ (.head _))) (.tail _ (.tail _ (.tail _ (.head _)))) (list_ne_cell hd)
  · intro p hp
    have h3 : @Ne Nat (a + 1 + 1 + 1) (a + 1 + 1 + 1 + 1) := by omega
    have h2 : @Ne Nat (a + 1 + 1) (a + 1 + 1 + 1 + 1) := by omega
    have h1 : @Ne Nat (a + 1) (a + 1 + 1 + 1 + 1) := by omega
    rcases List.mem_cons.mp hp with rfl | hp
    · exact h3
    · rcases List.mem_cons.mp hp with rfl | hp
      · exact h2
      · rw [List.mem_singleton.mp hp]; exact h1
theorem cut_lo {o1 o2 : Int} (h1 : 2 ≤ o1) (h2 : 2 ≤ o2) : 1 ≤ (o1 - 1) * (o2 - 1) := by
  have := Int.mul_le_mul_of_nonneg_left (show 1 ≤ o2 - 1 by omega) (show 0 ≤ o1 - 1 by omega)
  omega
theorem cut_hi {o1 o2 : Int} (h1 : 2 ≤ o1) (h1' : o1 ≤ 5) (h2' : o2 ≤ 5) : (o1 - 1) * (o2 - 1) ≤ 16 := by
  have := Int.mul_le_mul_of_nonneg_left (show o2 - 1 ≤ 4 by omega) (show 0 ≤ o1 - 1 by omega)
  omega
end Mine
open PyProof.Rows.LCg Mine
local macro_rules | `(tactic| walk_at "CompEnd") => `(tactic| (k_here; first
  | (refine' LCg.CompEnd.intro ?F ?N _ ?sub ?off trivial (kci_el ?zzE rfl rfl); (case F => k_asm); (case N => k_asm); (case sub => kst_allIn); (case off => assumption))
  | (refine' LCg.CompEnd.intro ?F ?N _ ?sub ?off trivial (kci_no ?zzE rfl); (case F => k_asm); (case N => k_asm); (case sub => kst_allIn); (case off => assumption))))
local macro_rules | `(tactic| walk_at "binaryOp Mult int int") => `(tactic| (refine mul_int (hm := PySem.IntMulOk.of_left (PySem.intBits_le_64 (by omega) (by omega))) ?_))
local macro_rules | `(tactic| walk_at "call ref") => `(tactic| (k_here; (with_reducible show wpAny _ _ (call (Value.ref 53) [_, _, _]) _ _ _); k_dflt (refine' At.use (compare_c _ _ _ _ _ _ _ _ _ _ _ _ _ _ _ _ _) ?k1 ?k2 ?k3 ?k4 ?k5 ?k6 ?k7 ?k8 ?_; (case k1 => k_asm); (case k2 => k_asm); (case k3 => k_asm); (case k4 => k_asm); (case k5 => exact rfl); (case k6 => ktr_room); (case k7 => ktr_units); (case k8 => exact kst_newsOf (by assumption) (by kst_allIn))); intro t' h' tk' kp'; (have F' := Fr.keeps (by k_asm) kp'); (have N' := News.grown (by k_asm) kp'); clear kp'; k_sweep))
local macro_rules | `(tactic| walk_at "call ref") => `(tactic| (k_here; (with_reducible show wpAny _ _ (call (Value.ref 67) [_, _]) _ _ _); k_dflt (refine' At.use (laid_c _ _ _ _ _ _ _ _ _) ?k1 ?k2 ?k3 ?k4 ?k5 ?k6 ?k7 ?k8 ?_; (case k1 => k_asm); (case k2 => k_asm); (case k3 => k_asm); (case k4 => k_asm); (case k5 => exact rfl); (case k6 => ktr_room); (case k7 => ktr_units); (case k8 => (refine ⟨?zzA, ?zzB, ?zzC, ?zzD, ?zzE⟩; (case zzA => k_dflt (refine' News.isList ?zzN ?zzM; (case zzN => k_asm); (case zzM => k_mem))); (case zzB => assumption); (case zzC => ((try simp only [laid_len]); omega)); (case zzD => omega); (case zzE => omega)))); intro D' vs' n' h' tk' kp' hn' hD' hI'; (obtain ⟨N', off'⟩ := new_led (by k_asm) (by k_asm) kp' hn' hD'); (have F' := Fr.keeps (by k_asm) kp'); clear kp' hn' hD'; (simp only [LCg.Off1, and_true] at off'); k_sweep))
local macro_rules | `(tactic| walk_at "call ref") => `(tactic| (k_here; (with_reducible show wpAny _ _ (call (Value.ref 77) [_, _]) _ _ _); k_dflt (refine' At.use (right_true _ _ _ _ _ _ _ _ _) ?k1 ?k2 ?k3 ?k4 ?k5 ?k6 ?k7 ?k8 ?_; (case k1 => k_asm); (case k2 => k_asm); (case k3 => k_asm); (case k4 => k_asm); (case k5 => exact rfl); (case k6 => ktr_room); (case k7 => ktr_units); (case k8 => (refine ⟨?zzA, ?zzB, ?zzC, ?zzD, ?zzE, ?zzF⟩; (case zzA => k_dflt (refine' News.isList ?zzN ?zzM; (case zzN => k_asm); (case zzM => k_mem))); (case zzB => assumption); (case zzC => ((try simp only [laid_len]); omega)); (case zzD => first | omega | exact sum_lo (by omega) (by omega) (by omega) (by omega) (by omega)); (case zzE => first | omega | exact sum_hi (by omega) (by omega) (by omega) (by omega) (by omega) (by omega)); (case zzF => first | assumption | exact RightSums.use (by assumption) (by omega) (by omega) (by omega))))); intro h' tk' kp'; (have F' := Fr.keeps (by k_asm) kp'); (have N' := News.grown (by k_asm) kp'); clear kp'; k_sweep))
local macro_rules | `(tactic| walk_at "call ref") => `(tactic| (k_here; (with_reducible show wpAny _ _ (call (Value.ref 72) [_]) _ _ _); k_dflt (refine' At.use (wrong_c _ _ _ _ _ _ _) ?k1 ?k2 ?k3 ?k4 ?k5 ?k6 ?k7 ?k8 ?_; (case k1 => k_asm); (case k2 => k_asm); (case k3 => k_asm); (case k4 => k_asm); (case k5 => exact rfl); (case k6 => ktr_room); (case k7 => ktr_units); (case k8 => (refine ⟨?zzA, ?zzB, ?zzC⟩; (case zzA => k_dflt (refine' News.isList ?zzN ?zzM; (case zzN => k_asm); (case zzM => k_mem))); (case zzB => assumption); (case zzC => ((try simp only [laid_len]); omega))))); intro t' h' tk' kp'; (have F' := Fr.keeps (by k_asm) kp'); (have N' := News.grown (by k_asm) kp'); clear kp'; k_sweep))
local macro_rules | `(tactic| walk_at "call builtin:sorted") => `(tactic| (k_here; (with_reducible show wpAny _ _ (call (Value.builtin _) [Value.ref _]) _ _ _); k_dflt (refine' kso_sorted ?k1 ?k2 ?k3 ?k4 ?k5 ?_; (case k1 => k_asm); (case k2 => k_asm); (case k3 => k_dflt (refine' News.isList ?zzN ?zzM; (case zzN => k_asm); (case zzM => k_mem))); (case k4 => assumption); (case k5 => ((try simp only [laid_len]); omega))); intro D' v' n' c' h' F' N' l1 i' e' p' o' b'; (try k_lt l1); clear b' e'; (have zz' := sort_eq p' o' (by assumption)); clear p' o'; subst zz'; (try k_sweep)))
local macro_rules | `(tactic| walk_at "call ref") => `(tactic| (k_here; (with_reducible show wpAny _ _ (call (Value.ref 32) [_, _]) _ _ _); k_dflt (refine' At.use (bisect2 _ _ _ _ _ _ _ _ _) ?k1 ?k2 ?k3 ?k4 ?k5 ?k6 ?k7 ?k8 ?_; (case k1 => k_asm); (case k2 => k_asm); (case k3 => k_asm); (case k4 => k_asm); (case k5 => exact rfl); (case k6 => ktr_room); (case k7 => ktr_units); (case k8 => (refine ⟨?zzA, ?zzB, ?zzC, ?zzD⟩; (case zzA => k_dflt (refine' News.isList ?zzN ?zzM; (case zzN => k_asm); (case zzM => k_mem))); (case zzB => assumption); (case zzC => assumption); (case zzD => exact isort_sorted _)))); intro t' h' tk' kp'; (have F' := Fr.keeps (by k_asm) kp'); (have N' := News.grown (by k_asm) kp'); clear kp'; k_sweep))
local macro_rules | `(tactic| walk_at "subscriptTail Name Name ref int") => `(tactic| ((with_reducible show wpAny _ _ (subscriptTail _ _ (Value.ref _) (Value.int _ _)) _ _ _); (with_unfolding_all refine' item_list_ints ?k1 ?k2 ?k3 ?k4 ?k5 ?_; (case k1 => k_dflt (refine' News.isList ?zzN ?zzM; (case zzN => k_asm); (case zzM => k_mem))); (case k2 => assumption); (case k3 => omega); (case k4 => omega); (case k5 => omega); k_whole); intro _))
set_option maxRecDepth 100000 in
set_option maxHeartbeats 8000000 in
theorem PySem.Challenge.cw_ha0002_01_holds : PySem.Challenge.rw_ha0002_01.Holds :=
  Mine.hd (by
    w_top off
    k_go0; (all_goals try k_fold)
    iterate 58 ((try (k_unfold; (try dsimp only))); (first | walk1 | (dsimp only; walk1)))
    rename _ = Data.cell (some (Value.int _ _)) => dO2
    obtain ⟨o2, hb2, hb2', eO2⟩ := cell_opt dO2
    clear dO2
    rename _ = Data.cell (some (Value.int (2 + Int.fmod _ 4) _)) => dO1
    obtain ⟨o1, hb1, hb1', eO1⟩ := cell_opt dO1
    clear dO1
    rename IntsAre _ (List.map _ (List.take 12 _)) => hI8
    obtain ⟨r, hr, hI9⟩ := row_opt hI8
    clear hI8
    have f1 : Right (laid r o1) o1 := law_first (by omega)
    have f2 : Right (laid (laid r o1) o2) o1 := law_both1 (by omega) (by omega)
    have f3 : Right (laid (laid r o1) o2) o2 := law_first (by omega)
    have f4 : RightSums (laid (laid r o1) o2) o1 o2 := right_sums (by omega) (by omega) f2 f3
    have f5 : wrong (laid r o1) ≤ wrong r := wrong_less (by omega)
    have fp0 : r.Perm r := .refl r
    have fp1 : (laid (laid r o1) o2).Perm r := (laid_perm _ (by omega)).trans (laid_perm _ (by omega))
    have f6 : wrong (laid (laid r o1) o2) ≤ wrong (laid r o1) := wrong_less (by omega)
    iterate 122 ((try (k_unfold; (try dsimp only))); (first | walk1 | (dsimp only; walk1)))
    iterate 31 ((try (k_unfold; (try dsimp only))); (first | walk1 | (dsimp only; walk1)))
    iterate 103 ((try (k_unfold; (try dsimp only))); (first | walk1 | (dsimp only; walk1)))
    rename News _ _ _ _ => N0
    have N1 := news_pick N0 [2, 15, 17, 18, 19, 20]
    simp only [List.filterMap_cons, List.filterMap_nil, List.getElem?_cons_succ, List.getElem?_cons_zero] at N1
    clear N0
    (rename Fr _ _ _ _ => lF'); (with_unfolding_all refine' For_invVF lF' ?k1 ?k2 ?_; (case k1 => exact rfl); (case k2 => exact rfl))
    iterate 7 walk1
    rename IsRange _ _ _ _ _ _ _ _ => hR
    rename Fr _ _ _ _ => F2
    rename News _ _ _ _ => N2
    k_dflt (refine loop_const [Str.ofString "b"] rfl hR (by decide) (rangeSize_nat _ _) F2 N2 ?turn ?done)
    case turn =>
      intro ka ta u h1 tk1 own hka hka2 hoff F3 N3
      dsimp only at F3 N3 ⊢
      walk1
      (rename Fr _ _ _ _ => lF'); (with_unfolding_all refine' For_invVF lF' ?k1 ?k2 ?_; (case k1 => exact rfl); (case k2 => exact rfl))
      iterate 7 walk1
      rename IsRange _ _ _ _ _ _ _ _ => hR2
      rename Fr _ _ _ _ => F4
      rename News _ _ _ _ => N4
      k_dflt (refine loop_const [] rfl hR2 (by decide) (rangeSize_nat _ _) F4 N4 ?turn2 ?done2)
      case turn2 =>
        intro kb tb u2 h2 tk2 own2 hkb hkb2 hoff2 F5 N5
        dsimp only at F5 N5 ⊢
        k_steps
        all_goals (refine turn_next (by assumption) (by assumption) (fun p hp => hp) (fun z hz _ => ?_))
        all_goals (rw [if_neg hz]; rfl)
      case done2 =>
        intro u2 h2 tk2 F5 N5
        dsimp only at F5 N5 ⊢
        k_steps
        all_goals (refine turn_next (by assumption) (by assumption) (fun p hp => hp) (fun z hz hs => ?_))
        all_goals (
          have hb : z ≠ Str.ofString "b" := by rintro rfl; exact absurd hs (by decide)
          rw [if_neg hb, if_neg (show ¬ ([] : List Str).contains z = true by simp), if_neg hz, if_neg (show ¬ [Str.ofString "b"].contains z = true by rw [hs]; decide)])
    case done =>
      intro u h1 tk1 F3 N3
      dsimp only at F3 N3 ⊢
      walk1
      rename Fr _ _ _ _ => F0
      rename News _ _ _ _ => N0
      k_dflt (refine cut_if (Str.ofString "step") F0 N0 ?if1 ?rest)
      case rest =>
        intro u2 h2 tk2 F2 N2
        dsimp only
        clear F0 N0
        iterate 12 ((try (k_unfold; (try dsimp only))); (first | walk1 | (dsimp only; walk1)))
        rename News _ _ _ _ => N5
        rename Fr _ _ _ _ => F5
        k_dflt (refine' storeX_C F5 N5 ?zzc (upd4 N5 ?zzd) ?zzd ?_ ?zza ?zzb; (case zza => rfl); (case zzb => rfl); (case zzc => rfl); (case zzd => k_asm))
        intro h8 o8 F8 N8 d8
        dsimp only at N8 ⊢
        clear N5 F5
        iterate 1 ((try (k_unfold; (try dsimp only))); (first | walk1 | (dsimp only; walk1)))
        rename IntsAre _ (laid (laid (laid _ _) _) 1) => hI1
        rw [laid_one fp1] at hI1
        iterate 12 ((try (k_unfold; (try dsimp only))); (first | walk1 | (dsimp only; walk1)))
        iterate 5 ((try (k_unfold; (try dsimp only))); (first | walk1 | (dsimp only; walk1)))
        rename News _ _ _ _ => N9
        rename Fr _ _ _ _ => F9
        have N10 := news_pick N9 [1, 3, 4, 5, 6, 7]
        simp only [List.filterMap_cons, List.filterMap_nil, List.getElem?_cons_succ, List.getElem?_cons_zero] at N10
        clear N9
        repeat (rename _ ∧ _ => zz9; clear zz9)
        have hsl : (isort r).length ≤ 1000 := by rw [isort_length]; omega
        rename Fr _ _ _ _ => F9
        rename News _ _ _ _ => N10
        refine comp_none (n := (isort r).length) F9 N10 (by with_unfolding_all rfl) (by intro a; rfl) (by intro h; rfl) (by rfl) (by decide) (by intro K C; rfl) (by rfl) hsl (by intro _; rfl) ?h0 ?h2 ?fin
        case h0 =>
          k_steps
          all_goals assumption
        case h2 =>
          intro k I oI K oK C oC D h7 tk7 t7 E7 hk7 hoK F7 N7
          (try k_fold)
          iterate 19 ((try (k_unfold; (try dsimp only))); (first | walk1 | (dsimp only; walk1)))
          k_dflt (refine LCt.ListComp_T (F₀ := by k_asm) (by with_unfolding_all rfl) (by decide) (by rfl) (by decide) (by rfl) ?_)
          walk1
          have hys := hI9.length
          k_dflt (refine LCt.CompSrcT.ledger (by rfl) (by k_asm) (by k_asm) (by k_mem) (by rw [PySem.sizeLine_eq, List.size_toArray]; omega) ?_)
          intro g2
          refine' kci_list (fun acc n => if n < (isort r).getD (Int.toNat (k : Int)) 0 then acc ++ [n] else acc) hI9 (fun k' t' I' oI' C' oC' D' m' ys' l' h' tk' E' hk' hI' hC' hx' F' N' off' ne' mk' => ?_) ?_ ?_
          · (try k_fold)
            k_steps
            · refine' LCg.CompEnd.intro ?zzF ?zzN _ ?zzsub ?zzoff (Or.inr ⟨_, by k_mem, rfl, _, rfl⟩) (kci_el ?zze rfl rfl)
              case zzF => assumption
              case zzN => assumption
              case zzsub => kst_allIn
              case zzoff => assumption
              case zze => rw [if_pos (by assumption)]
            · refine' LCg.CompEnd.intro ?zzF ?zzN _ ?zzsub ?zzoff (Or.inr ⟨_, by k_mem, rfl, _, rfl⟩) (kci_no ?zze rfl)
              case zzF => assumption
              case zzN => assumption
              case zzsub => kst_allIn
              case zzoff => assumption
              case zze => rw [if_neg (by assumption)]
          · intro ys9 hys9 hyl9 D9 h9 tk9 F9 N9 off9
            dsimp only
            rw [foldl_filter] at hys9
            simp only [List.nil_append] at hys9
            have hcs := count_same (isort_perm r) ((isort r).getD (Int.toNat (k : Int)) 0)
            k_steps
            refine' len_ints_fit (News.isList N9 (.head _)) hys9 (by have := hys9.length; have h12 : (r.filter (fun y => decide (y < (isort r).getD (Int.toNat (k : Int)) 0))).length ≤ r.length := List.length_filter_le _ _; omega) ?_
            dsimp only
            rw [← hcs]
            k_steps
            · exact bne_self_eq_false _
            · assumption
            · exact kst_newsOf (by assumption) (by kst_allIn)
          · exact grows_if (fun n => n < (isort r).getD (Int.toNat (k : Int)) 0)
        case fin =>
          intro D h7 tk7 F7 N7
          dsimp only
          k_steps
      case if1 =>
       iterate 2 walk1
       lct_look
       lcg_calm
       k_dflt (refine LCt.ListComp_T (F₀ := by k_asm) (by with_unfolding_all rfl) (by decide) (by rfl) (by decide) (by rfl) ?_)
       iterate 9 walk1
       k_dflt (refine LCt.CompSrcT.range (by rfl) (by k_asm) (by k_asm) (by assumption) (by decide) (rangeSize_nat _ _) (by rw [PySem.sizeLine_eq]; decide) ?_)
       intro g2
       refine' kci_range (fun acc k => if Int.fmod o1 k = Int.fmod o2 k ∧ Int.fmod o2 k = 0 then acc ++ [k] else acc) (fun k' t' I' oI' C' oC' D' m' ys' l' h' tk' E' hlo' hhi' hI' hC' hx' F' N' off' ne' mk' => ?_) ?_ ?_
       · (try k_fold)
         k_steps
         · rw [if_pos ⟨by assumption, by assumption⟩]
         all_goals (
           refine' LCg.CompEnd.intro ?zzF ?zzN _ ?zzsub ?zzoff trivial (kci_no ?zze rfl)
           case zzF => assumption
           case zzN => assumption
           case zzsub => kst_allIn
           case zzoff => assumption
           case zze => rw [if_neg (by rintro ⟨q1, q2⟩; first | exact absurd q1 (by assumption) | exact absurd q2 (by assumption))])
       · intro ys hys hyl D h5 tk5 F5 N5 off5
         dsimp only
         k_steps
         · rename decide (List.foldl _ _ _ = []) = true => hcop0
           have hcop : noCommon o1 o2 = [] := of_decide_eq_true hcop0
           rename IsRange _ _ _ _ _ _ _ _ => hR
           rename Fr _ _ _ _ => F6
           rename News _ _ _ _ => N6
           have hc1 := cut_lo hb1 hb2
           have hc2 := cut_hi hb1 hb1' hb2'
           k_dflt (refine loop_const [] rfl hR (small_one (by omega) (by omega) (by omega) (by omega)) (rangeSize_nat _ _) F6 N6 ?turn ?done)
           case turn =>
             intro k7 t7 u7 h7 tk7 own7 hk7 hk7' hoff7 F7 N7
             dsimp only at F7 N7 ⊢
             have hfr : Right (laid (laid r o1) o2) k7 := frob hb1 hb1' hb2 hb2' f2 f3 hcop k7 hk7
             k_steps
             all_goals (refine turn_next (by assumption) (by assumption) (fun p hp => hp) (fun z hz _ => ?_); rw [if_neg hz]; rfl)
           case done =>
             intro u7 h7 tk7 F7 N7
             dsimp only
             k_steps
             all_goals (refine after_if (by assumption) (by assumption) (fun p hp => .tail _ (.tail _ hp)) (fun z hz => ?_); rw [if_neg hz]; rfl)
         · refine after_if (by assumption) (by assumption) (fun p hp => .tail _ (.tail _ hp)) (fun z hz => rfl)
       · exact grows_if (fun k => Int.fmod o1 k = Int.fmod o2 k ∧ Int.fmod o2 k = 0))
