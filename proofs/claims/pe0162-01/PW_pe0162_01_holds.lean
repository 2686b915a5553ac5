import PyProof.Rows.All
import Wide.All
import OpenK.AllK
import Wide.FinOn
import PyProof.ZipIter
import Lean
import PySem.Challenge.RW_pe0162_01
set_option Elab.async false
set_option compiler.extract_closed false
open PySem PySem.W PyProof.Rows in
local macro_rules | `(tactic| walk_at $s:str) => `(tactic| k_extra $s)
namespace Mine
theorem dU0 {n c d : Nat} (k : n + d < c) : n < c := Nat.lt_of_le_of_lt (Nat.le_add_right n d) k
theorem dU1 {n a c d : Nat} (k : n + d < c) (h : a ≤ d) : n + a < c := Nat.lt_of_le_of_lt (Nat.add_le_add_left h n) k
theorem dU2 {n a b c d : Nat} (k : n + d < c) (h : a + b ≤ d) : n + a + b < c := by rw [Nat.add_assoc]; exact dU1 k h
theorem aS {a b : Nat} (h : a ≠ b) : a + 1 ≠ b + 1 := fun e => h (Nat.succ.inj e)
theorem lA (a : Nat) : a < a + 1 := Nat.lt_succ_self a
theorem lB {a b : Nat} (h : a < b) : a < b + 1 := Nat.lt_succ_of_lt h
end Mine
open PySem PySem.W PyProof.Rows in
local macro_rules | `(tactic| k_ne) => `(tactic| (refine neN ?_; (try dsimp only); walk_at "mine ne"))
/-! part Hd -/
section
open PySem PySem.W PyProof.Rows
set_option Elab.async false
set_option maxRecDepth 100000
set_option maxHeartbeats 8000000
namespace Mine
open_top hd for PySem.Challenge.rw_pe0162_01
theorem topOff : True := by
  w_top off
  trivial
end Mine
end
/-! part Base -/
section
open PySem PySem.W PyProof.Rows PySem.Calls
set_option Elab.async false
set_option maxRecDepth 100000
namespace Mine
theorem kw1 : True := by
  w_top off
  k_with_none
  k_with "mine ne" => first | (with_reducible first | assumption | (refine Ne.symm ?_; assumption)) | (with_reducible ((repeat (first | (rename ((_ ≠ _ ∧ _) ∧ _) => hZk; obtain ⟨_, _⟩ := hZk) | (rename (_ ≠ _ ∧ _) => hZk; obtain ⟨_, _⟩ := hZk))); first | assumption | (refine Ne.symm ?_; assumption))) | ((repeat (refine Mine.aS ?_)); (first | refine Nat.ne_of_lt ?_ | refine Nat.ne_of_gt ?_); (repeat (first | exact Mine.lA _ | refine Mine.lB ?_)); done) | (with_reducible ((repeat (rename (@LT.lt _ _ _ _ ∧ _) => hZk; obtain ⟨_, _⟩ := hZk)); first | (refine Nat.ne_of_lt ?_; assumption) | (refine Nat.ne_of_gt ?_; assumption)))
  trivial

/-- all that stood stands -/
def Keep (h h' : Heap) : Prop := ∀ b o, h.get? b = some o → h'.get? b = some o
theorem Keep.refl (h : Heap) : Keep h h := fun _ _ e => e
theorem Keep.trans {a b c : Heap} (x : Keep a b) (y : Keep b c) : Keep a c := fun d o e => y d o (x d o e)

/-- what is new -/
def Fresh (h h' : Heap) (new : List (Addr × Obj)) : Prop := ∀ p ∈ new, h'.get? p.1 = some p.2 ∧ h.get? p.1 = none

/-- what a call wants of the state it meets -/
structure Gd (K : Frag) (A : Around) (base : Heap) (outer : List Env) (p : Program) (loose : List Str) (mean : ExcName → Option Value) (mg mb : Str → Option Value) (h : Heap) : Prop where
  below : Below A base outer h
  k : K.In h
  top : Top p loose mean mg mb h

/-- what a call hands back -/
def Back (s : Shared) (Post : Value → List (Addr × Obj) → Prop) (v : Value) (s' : Shared) : Prop :=
  ∃ h' tk' new, s' = { s with heap := h', toks := tk' } ∧ Keep s.heap h' ∧ Fresh s.heap h' new ∧ Post v new

abbrev Ar (dp un : Nat) (gd : Option (List Code)) (outer : List Env) : Around := { handled := none, depth := dp, frames := some outer, guards := gd, units := un }

/-- a def's contract: d frames deep, u units -/
def Spec (K : Params → Frag) (f : Addr) (d u : Nat) (vs : List Value) (Pre : Heap → Prop) (Post : Value → List (Addr × Obj) → Prop) : Prop :=
  ∀ (prog : Program) (w : World) (dp un : Nat) (gd : Option (List Code)) (base : Heap) (outer : List Env) (p : Program) (loose : List Str) (mean : ExcName → Option Value) (mg mb : Str → Option Value) (s : Shared),
    Gd (K w.params) (Ar dp un gd outer) base outer p loose mean mg mb s.heap → dp + d < 1000 → un + u < 9900 → Pre s.heap →
    wpAny (model prog w) (Ar dp un gd outer) (call (.ref f) vs) (Back s Post) (fun _ _ => False) s

section
variable {prog : Program} {w : World} {A : Around} {base : Heap} {outer : List Env} {p : Program} {loose : List Str} {mean : ExcName → Option Value} {mg mb : Str → Option Value} {s : Shared} {K : Frag}
  {name qual : Str} {params : Arguments} {body : List Stmt} {scope : Scope} {dV kV doc pm cdv ct oc : Value} {an od : Option Addr} {osl : Array (Option Value)} {f : Addr} {args : List Value} {binds : List (Str × Value)}
  {Q : Value → Shared → Prop} {E : Value → Shared → Prop}

/-- a def without cells is entered -/
theorem enter (G : Gd K A base outer p loose mean mg mb s.heap) (hroom : A.depth < recursionLimit)
    (ho : K.lookup f = some ⟨oc, od, .func (fnOf name qual params body scope dV kV doc pm an cdv ct), osl⟩) (hcd : codeIn K cdv qual = true)
    (hbind : BindsTo s (fnOf name qual params body scope dV kV doc pm an cdv ct) ⟨args, []⟩ binds) (hloc : ∀ y ∈ binds, scope.names.lookup y.1 = some .local)
    (hcell : ∀ x ∈ scope.names, x.2 ≠ .cell) (hco : scope.isCoroutine = false) (hgen : scope.isGenerator = false) (hk : scope.kind = .function)
    (h : ∀ L h₁, Fr s.heap L h₁ (fun y => binds.reverse.lookup y) → News s.heap L h₁ [] → Below A base outer s.heap → K.In s.heap → Top p loose mean mg mb s.heap →
      wpAny (model prog w) (A.deeper (envOf qual scope L f cdv)) (execs body (envOf qual scope L f cdv))
        (fun fl s' => Q (match fl with | .ret v => v | _ => .none) s') (fun _ _ => False) { s with heap := h₁, toks := s.toks + binds.length }) :
    wpAny (model prog w) A (call (.ref f) args) Q E s := by
  refine wpAny_call ?_
  refine codeAny_call_def (fd := fnOf name qual params body scope dV kV doc pm an cdv ct) (body := body) (binds := binds) hroom (G.k _ _ ho) rfl G.top.nolimit (codeRec_of G.k hcd) rfl hbind hcell hloc (fun h₁ hns hk₁ => ?_) hco hgen hk
  exact wpAny_mono (h s.heap.objs.size h₁ ⟨hns, hk₁, Nat.le_refl _⟩ News.nil G.below G.k G.top) (fun _ _ y => y) (fun _ _ y => y.elim)

theorem Fresh.of {h₀ h : Heap} {L : Addr} {new : List (Addr × Obj)} (N : News h₀ L h new) : Fresh h₀ h new := fun q hq => ⟨(N q hq).1, (N q hq).2.2⟩

/-- the end of a def -/
theorem back {L : Addr} {m : Str → Option Value} {h' : Heap} {tk' : Nat} {new : List (Addr × Obj)} {Post : Value → List (Addr × Obj) → Prop} {v : Value}
    (F : Fr s.heap L h' m) (N : News s.heap L h' new) (hp : Post v new) : Back s Post v { s with heap := h', toks := tk' } := ⟨h', tk', new, rfl, F.keep, Fresh.of N, hp⟩

/-- the ground for a call out of a def -/
theorem Gd.push {A₀ : Around} {g : Heap} {L : Addr} {m : Str → Option Value} {env : Env} {h : Heap} (B : Below A₀ base outer g) (F : Fr g L h m) (X : K.In g) (T : Top p loose mean mg mb g)
    (hA : A.frames = some (env :: outer)) (hf : env.frame = some L) (hk : env.scope.kind = .function) : Gd K A base (env :: outer) p loose mean mg mb h :=
  ⟨⟨hA, (pushX B F hf hk).stays, (pushX B F hf hk).frames⟩, X.keeps F.keep, T.keeps F.keep⟩

theorem frKept {g h h' : Heap} {L : Addr} {m : Str → Option Value} (F : Fr g L h m) (k : Keep h h') : Fr g L h' m := ⟨F.ns.keeps k, fun b o e => k b o (F.keep b o e), F.above⟩
theorem newsKept {g h h' : Heap} {L : Addr} {news : List (Addr × Obj)} (N : News g L h news) (k : Keep h h') : News g L h' news := fun q hq => ⟨k _ _ (N q hq).1, (N q hq).2⟩
theorem newsAnd {g h h' : Heap} {L : Addr} {m : Str → Option Value} {news new : List (Addr × Obj)} (F : Fr g L h m) (N : News g L h' news) (Y : Fresh h h' new) : News g L h' (new ++ news) := fun q hq => by
  rcases List.mem_append.mp hq with hq | hq
  · refine ⟨(Y q hq).1, fun e => ?_, ?_⟩
    · obtain ⟨oL, _, _, hL, _⟩ := F.ns
      have := (Y q hq).2
      rw [e, hL] at this; cases this
    · cases e : g.get? q.1 with
      | none => rfl
      | some o => have := (Y q hq).2; rw [F.keep _ _ e] at this; cases this
  · exact N q hq
theorem apart {g h h' : Heap} {L : Addr} {news new : List (Addr × Obj)} (N : News g L h news) (Y : Fresh h h' new) : ∀ q ∈ news, ∀ r ∈ new, q.1 ≠ r.1 := fun q hq r hr e => by
  have := (Y r hr).2
  rw [← e, (N q hq).1] at this; cases this

/-- a contract used, out of a def that is walked -/
theorem use {Kp : Params → Frag} {d u dp un : Nat} {gd : Option (List Code)} {Pre : Heap → Prop} {Post : Value → List (Addr × Obj) → Prop} {A₀ : Around} {g : Heap} {L : Addr} {m : Str → Option Value} {news : List (Addr × Obj)} {env : Env}
    (sp : Spec Kp f d u args Pre Post) (B : Below A₀ base outer g) (F : Fr g L s.heap m) (N : News g L s.heap news) (X : (Kp w.params).In g) (T : Top p loose mean mg mb g)
    (hA : A = Ar dp un gd (env :: outer)) (hf : env.frame = some L) (hk : env.scope.kind = .function) (hd : dp + d < 1000) (hu : un + u < 9900) (hpre : Pre s.heap)
    (h : ∀ v h' tk' new, Fr g L h' m → News g L h' (new ++ news) → (∀ q ∈ news, ∀ r ∈ new, q.1 ≠ r.1) → Post v new → Q v { s with heap := h', toks := tk' }) :
    wpAny (model prog w) A (call (.ref f) args) Q E s := by
  subst hA
  refine wpAny_mono (sp prog w dp un gd base (env :: outer) p loose mean mg mb s (.push B F X T rfl hf hk) hd hu hpre) (fun v s' x => ?_) (fun _ _ y => y.elim)
  obtain ⟨h', tk', new, rfl, k, Y, hp⟩ := x
  exact h v h' tk' new (frKept F k) (newsAnd F (newsKept N k) Y) (apart N Y) hp
end
end Mine
end
/-! part S1 -/
section
open PySem PySem.W PyProof.Rows PySem.Calls
set_option Elab.async false
set_option maxRecDepth 100000
set_option maxHeartbeats 8000000
set_option linter.unusedSimpArgs false
namespace Mine
theorem fill1 : PySem.Challenge.rw_pe0162_01 = PySem.Challenge.rw_pe0162_01 ∧ Mine.hd.heap_39 = Mine.hd.heap_39 := by
  k_fill
  exact ⟨rfl, rfl⟩

theorem kw2 : True := by
  w_top off
  k_with_none
  k_with "mine ne" => first | (with_reducible first | assumption | (refine Ne.symm ?_; assumption)) | (with_reducible ((repeat (first | (rename ((_ ≠ _ ∧ _) ∧ _) => hZk; obtain ⟨_, _⟩ := hZk) | (rename (_ ≠ _ ∧ _) => hZk; obtain ⟨_, _⟩ := hZk))); first | assumption | (refine Ne.symm ?_; assumption))) | ((repeat (refine Mine.aS ?_)); (first | refine Nat.ne_of_lt ?_ | refine Nat.ne_of_gt ?_); (repeat (first | exact Mine.lA _ | refine Mine.lB ?_)); done) | (with_reducible ((repeat (rename (@LT.lt _ _ _ _ ∧ _) => hZk; obtain ⟨_, _⟩ := hZk)); first | (refine Nat.ne_of_lt ?_; assumption) | (refine Nat.ne_of_gt ?_; assumption)))
  k_with "mine enter" => (k_dflt (refine' enter ?k1Zk ?k8Zk ?k6Zk ?k7Zk ?k9Zk ?kBZk ?c5Zk ?c2Zk ?c3Zk ?c4Zk ?_; (case k1Zk => assumption); (case k6Zk => k_is); (case k7Zk => k_is); (case k8Zk => (dsimp only [Ar, recursionLimit]; first | with_reducible exact Mine.dU0 (by assumption) | with_reducible exact Mine.dU1 (by assumption) (by decide) | with_reducible exact Mine.dU2 (by assumption) (by decide) | omega)); (case k9Zk => exact BindsTo.of_eq rfl); (case c5Zk => decide); (case kBZk => exact locs rfl); (case c2Zk => exact rfl); (case c3Zk => exact rfl); (case c4Zk => exact rfl); k_whole; intro L'Zk h'Zk F'Zk N'Zk B'Zk X'Zk T'Zk; (try dsimp only); (try k_fold)))
  k_with "mine used" => ((case B => k_asm); (case F => k_asm); (case N => k_asm); (case X => k_asm); (case T => k_asm); (case A => exact rfl); (case f => exact rfl); (case k => exact rfl); (case d => (first | with_reducible exact Mine.dU0 (by assumption) | with_reducible exact Mine.dU1 (by assumption) (by decide) | with_reducible exact Mine.dU2 (by assumption) (by decide) | omega | (dsimp only;  omega))); (case u => (first | with_reducible exact Mine.dU0 (by assumption) | with_reducible exact Mine.dU1 (by assumption) (by decide) | with_reducible exact Mine.dU2 (by assumption) (by decide) | omega | (dsimp only;  omega))))
  trivial
abbrev yF (r g b : UInt64) : UInt64 := Float64.add (Float64.add (Float64.mul 4599075939470750515 r) (Float64.mul 4603489467105573601 g)) (Float64.mul 4592590756007337001 b)
abbrev iF (r g b : UInt64) : UInt64 := Float64.sub (Float64.mul 4604840546993784750 (Float64.sub r (yF r g b))) (Float64.mul 4598535507515466056 (Float64.sub b (yF r g b)))
abbrev qF (r g b : UInt64) : UInt64 := Float64.add (Float64.mul 4602318531202457272 (Float64.sub r (yF r g b))) (Float64.mul 4601057523306793533 (Float64.sub b (yF r g b)))
abbrev tup3 (x y z : UInt64) (t1 t2 t3 : Tok) : Obj := { cls := .type "tuple", data := .seq #[.float x t1, .float y t2, .float z t3] }
abbrev tup2i (x y : Int) (t1 t2 : Tok) : Obj := { cls := .type "tuple", data := .seq #[.int x t1, .int y t2] }
theorem back_tup3 {s : Shared} {L a : Addr} {m : Str → Option Value} {h' : Heap} {tk' : Nat} {x y z x' y' z' : UInt64} {t1 t2 t3 : Tok} (F : Fr s.heap L h' m) (N : News s.heap L h' [(a, tup3 x y z t1 t2 t3)]) (e1 : x = x') (e2 : y = y') (e3 : z = z') :
    Back s (fun v new => ∃ a t1 t2 t3, v = .ref a ∧ new = [(a, tup3 x' y' z' t1 t2 t3)]) (.ref a) { s with heap := h', toks := tk' } := by
  subst e1 e2 e3
  exact back F N ⟨_, _, _, _, rfl, rfl⟩
theorem newsDrop {h₀ h : Heap} {L : Addr} {new news : List (Addr × Obj)} (N : News h₀ L h (new ++ news)) : News h₀ L h new := fun q hq => N q (List.mem_append_left _ hq)
theorem back_tup2i {s : Shared} {L a : Addr} {m : Str → Option Value} {h' : Heap} {tk' : Nat} {x y x' y' : Int} {t1 t2 : Tok} {rest : List (Addr × Obj)} (F : Fr s.heap L h' m) (N : News s.heap L h' ((a, tup2i x y t1 t2) :: rest)) (e1 : x = x') (e2 : y = y') :
    Back s (fun v new => ∃ a t1 t2, v = .ref a ∧ new = [(a, tup2i x' y' t1 t2)]) (.ref a) { s with heap := h', toks := tk' } := by
  subst e1 e2
  exact back F (newsDrop (new := [_]) N) ⟨_, _, _, rfl, rfl⟩
theorem yiq_spec (r g b : UInt64) (t1 t2 t3 : Tok) : Spec hd.heap_39 80 1 8 [.float r t1, .float g t2, .float b t3] (fun _ => True) (fun v new => ∃ a t1 t2 t3, v = .ref a ∧ new = [(a, tup3 (yF r g b) (iF r g b) (qF r g b) t1 t2 t3)]) := by
  intro prog w dp un gd base outer p loose mean mg mb s G hd hu hpre
  walk_at "mine enter"
  k_steps
  all_goals (refine back_tup3 (by assumption) (by assumption) rfl rfl rfl)
end Mine
end
/-! part S2 -/
section
open PySem PySem.W PyProof.Rows PySem.Calls
set_option Elab.async false
set_option maxRecDepth 100000
set_option maxHeartbeats 8000000
set_option linter.unusedSimpArgs false
namespace Mine
theorem kw3 : True := by
  w_top off
  k_with_none
  k_with "mine ne" => first | (with_reducible first | assumption | (refine Ne.symm ?_; assumption)) | (with_reducible ((repeat (first | (rename ((_ ≠ _ ∧ _) ∧ _) => hZk; obtain ⟨_, _⟩ := hZk) | (rename (_ ≠ _ ∧ _) => hZk; obtain ⟨_, _⟩ := hZk))); first | assumption | (refine Ne.symm ?_; assumption))) | ((repeat (refine Mine.aS ?_)); (first | refine Nat.ne_of_lt ?_ | refine Nat.ne_of_gt ?_); (repeat (first | exact Mine.lA _ | refine Mine.lB ?_)); done) | (with_reducible ((repeat (rename (@LT.lt _ _ _ _ ∧ _) => hZk; obtain ⟨_, _⟩ := hZk)); first | (refine Nat.ne_of_lt ?_; assumption) | (refine Nat.ne_of_gt ?_; assumption)))
  trivial
/-- the greater, the lesser of two floats as Python's max and min tell them -/
def mx (x y : UInt64) : UInt64 := if (Float64.cmp x y == some .lt) = true then y else x
def mn (x y : UInt64) : UInt64 := if (Float64.cmp y x == some .lt) = true then y else x

theorem best3 {a b c v : Value} {f : Value → Value → Bool} (hP : (#[a, b, c] : Array Value)[argBest (fun i j => f ((#[a, b, c] : Array Value).getD j .none) ((#[a, b, c] : Array Value).getD i .none)) 2]? = some v) :
    v = if f (if f a b then b else a) c then c else (if f a b then b else a) := by
  cases h1 : f a b
  · cases h2 : f a c <;> simp [argBest, h1, h2] at hP <;> subst hP <;> simp [h2]
  · cases h2 : f b c <;> simp [argBest, h1, h2] at hP <;> subst hP <;> simp [h2]

section
variable {prog : Program} {w : World} {A : Around} {E : Value → Shared → Prop} {s : Shared} {Q : Value → Shared → Prop}
theorem max3_num {a b c : Value} (hh : A.handled = none) (ha : Flt.NumV a) (hb : Flt.NumV b) (hc : Flt.NumV c)
    (h : ∀ h' tk, Keep s.heap h' → Q (if Flt.ltV (if Flt.ltV a b then b else a) c then c else (if Flt.ltV a b then b else a)) { s with heap := h', toks := tk }) :
    wpAny (model prog w) A (call (.builtin "max") [a, b, c]) Q E s := by
  have hT : (s.heap.push { cls := .type "tuple", data := .seq #[a, b, c] }).IsTuple s.heap.objs.size #[a, b, c] := ⟨_, Heap.get?_push_size _ rfl, rfl, 0, rfl⟩
  refine call_max_three (wpAny_pyIter_tuple hT ?_)
  have hsz : (s.heap.push { cls := .type "tuple", data := .seq #[a, b, c] }).objs.size = s.heap.objs.size + 1 := Heap.size_push ..
  refine ⟨_, [_, s.heap.objs.size], [_], _, _, _, _, rfl, Walks.tuple (A := A.in1) hh _ s.heap.objs.size (by rw [hsz]; exact Nat.ne_of_lt (Nat.lt_succ_self _)) #[a, b, c],
    ⟨⟨_, Heap.get?_push_size _ rfl, rfl, rfl⟩, hT.push _⟩, fun d hd => ?_, by simp, Flt.cmpOf_gt #[a, b, c] (by simp [ha, hb, hc]), fun v h' tk hP hk => ?_⟩
  · show d < ((s.heap.push _).push _).objs.size
    rw [Heap.size_push, hsz]
    rcases List.mem_cons.mp hd with rfl | hd
    · rw [hsz]; exact Nat.lt_succ_self _
    · rcases List.mem_cons.mp hd with rfl | hd
      · exact Nat.lt_succ_of_lt (Nat.lt_succ_self _)
      · cases hd
  · have hold : Keep s.heap h' := fun d o e => by
      refine hk d o (fun hm => ?_) (Heap.get?_push_of_some _ (Heap.get?_push_of_some _ e))
      rcases List.mem_cons.mp hm with e1 | hm
      · have := Heap.lt_size e; rw [e1, hsz] at this; exact Nat.lt_irrefl _ (Nat.lt_of_succ_lt this)
      · cases hm
    have := h h' tk hold
    have hv : v = if Flt.ltV (if Flt.ltV a b then b else a) c then c else (if Flt.ltV a b then b else a) := best3 (f := Flt.ltV) hP
    rw [hv]; exact this
theorem min3_num {a b c : Value} (hh : A.handled = none) (ha : Flt.NumV a) (hb : Flt.NumV b) (hc : Flt.NumV c)
    (h : ∀ h' tk, Keep s.heap h' → Q (if Flt.ltV c (if Flt.ltV b a then b else a) then c else (if Flt.ltV b a then b else a)) { s with heap := h', toks := tk }) :
    wpAny (model prog w) A (call (.builtin "min") [a, b, c]) Q E s := by
  have hT : (s.heap.push { cls := .type "tuple", data := .seq #[a, b, c] }).IsTuple s.heap.objs.size #[a, b, c] := ⟨_, Heap.get?_push_size _ rfl, rfl, 0, rfl⟩
  refine call_min_three (wpAny_pyIter_tuple hT ?_)
  have hsz : (s.heap.push { cls := .type "tuple", data := .seq #[a, b, c] }).objs.size = s.heap.objs.size + 1 := Heap.size_push ..
  refine ⟨_, [_, s.heap.objs.size], [_], _, _, _, _, rfl, Walks.tuple (A := A.in1) hh _ s.heap.objs.size (by rw [hsz]; exact Nat.ne_of_lt (Nat.lt_succ_self _)) #[a, b, c],
    ⟨⟨_, Heap.get?_push_size _ rfl, rfl, rfl⟩, hT.push _⟩, fun d hd => ?_, by simp, Flt.cmpOf_lt #[a, b, c] (by simp [ha, hb, hc]), fun v h' tk hP hk => ?_⟩
  · show d < ((s.heap.push _).push _).objs.size
    rw [Heap.size_push, hsz]
    rcases List.mem_cons.mp hd with rfl | hd
    · rw [hsz]; exact Nat.lt_succ_self _
    · rcases List.mem_cons.mp hd with rfl | hd
      · exact Nat.lt_succ_of_lt (Nat.lt_succ_self _)
      · cases hd
  · have hold : Keep s.heap h' := fun d o e => by
      refine hk d o (fun hm => ?_) (Heap.get?_push_of_some _ (Heap.get?_push_of_some _ e))
      rcases List.mem_cons.mp hm with e1 | hm
      · have := Heap.lt_size e; rw [e1, hsz] at this; exact Nat.lt_irrefl _ (Nat.lt_of_succ_lt this)
      · cases hm
    have := h h' tk hold
    have hv : v = if Flt.ltV c (if Flt.ltV b a then b else a) then c else (if Flt.ltV b a then b else a) := best3 (f := fun x y => Flt.ltV y x) hP
    rw [hv]; exact this

variable {h₀ : Heap} {L : Addr} {m : Str → Option Value} {news : List (Addr × Obj)} {x y z : UInt64} {t u v : Tok}
theorem max3_f (hh : A.handled = none) (F : Fr h₀ L s.heap m) (N : News h₀ L s.heap news)
    (h : ∀ h' tk t', Fr h₀ L h' m → News h₀ L h' news → Q (.float (mx (mx x y) z) t') { s with heap := h', toks := tk }) :
    wpAny (model prog w) A (call (.builtin "max") [.float x t, .float y u, .float z v]) Q E s := by
  refine max3_num hh (.float _ _) (.float _ _) (.float _ _) fun h' tk k => ?_
  have H := fun t' => h h' tk t' (frKept F k) (newsKept N k)
  cases h1 : Flt.ltV (.float x t) (.float y u) with
  | false =>
    have e1 : mx x y = x := if_neg (by rw [Bool.not_eq_true]; exact h1)
    cases h2 : Flt.ltV (.float x t) (.float z v) with
    | false =>
      have e2 : mx x z = x := if_neg (by rw [Bool.not_eq_true]; exact h2)
      simp only [h1, h2, Bool.false_eq_true, if_false]
      have := H t; rwa [e1, e2] at this
    | true =>
      have e2 : mx x z = z := if_pos h2
      simp only [h1, h2, Bool.false_eq_true, if_false, if_true]
      have := H v; rwa [e1, e2] at this
  | true =>
    have e1 : mx x y = y := if_pos h1
    cases h2 : Flt.ltV (.float y u) (.float z v) with
    | false =>
      have e2 : mx y z = y := if_neg (by rw [Bool.not_eq_true]; exact h2)
      simp only [h1, h2, Bool.false_eq_true, if_false, if_true]
      have := H u; rwa [e1, e2] at this
    | true =>
      have e2 : mx y z = z := if_pos h2
      simp only [h1, h2, if_true]
      have := H v; rwa [e1, e2] at this
theorem min3_f (hh : A.handled = none) (F : Fr h₀ L s.heap m) (N : News h₀ L s.heap news)
    (h : ∀ h' tk t', Fr h₀ L h' m → News h₀ L h' news → Q (.float (mn (mn x y) z) t') { s with heap := h', toks := tk }) :
    wpAny (model prog w) A (call (.builtin "min") [.float x t, .float y u, .float z v]) Q E s := by
  refine min3_num hh (.float _ _) (.float _ _) (.float _ _) fun h' tk k => ?_
  have H := fun t' => h h' tk t' (frKept F k) (newsKept N k)
  cases h1 : Flt.ltV (.float y u) (.float x t) with
  | false =>
    have e1 : mn x y = x := if_neg (by rw [Bool.not_eq_true]; exact h1)
    cases h2 : Flt.ltV (.float z v) (.float x t) with
    | false =>
      have e2 : mn x z = x := if_neg (by rw [Bool.not_eq_true]; exact h2)
      simp only [h1, h2, Bool.false_eq_true, if_false]
      have := H t; rwa [e1, e2] at this
    | true =>
      have e2 : mn x z = z := if_pos h2
      simp only [h1, h2, Bool.false_eq_true, if_false, if_true]
      have := H v; rwa [e1, e2] at this
  | true =>
    have e1 : mn x y = y := if_pos h1
    cases h2 : Flt.ltV (.float z v) (.float y u) with
    | false =>
      have e2 : mn y z = y := if_neg (by rw [Bool.not_eq_true]; exact h2)
      simp only [h1, h2, Bool.false_eq_true, if_false, if_true]
      have := H u; rwa [e1, e2] at this
    | true =>
      have e2 : mn y z = z := if_pos h2
      simp only [h1, h2, if_true]
      have := H v; rwa [e1, e2] at this
theorem min2_f (hh : A.handled = none) (F : Fr h₀ L s.heap m) (N : News h₀ L s.heap news)
    (h : ∀ h' tk t', Fr h₀ L h' m → News h₀ L h' news → Q (.float (mn x y) t') { s with heap := h', toks := tk }) :
    wpAny (model prog w) A (call (.builtin "min") [.float x t, .float y u]) Q E s := by
  refine Flt.min_two_num hh (.float _ _) (.float _ _) fun h' tk k => ?_
  have H := fun t' => h h' tk t' (frKept F k) (newsKept N k)
  cases h1 : Flt.ltV (.float y u) (.float x t) with
  | false =>
    have e1 : mn x y = x := if_neg (by rw [Bool.not_eq_true]; exact h1)
    simp only [Bool.false_eq_true, if_false]
    have := H t; rwa [e1] at this
  | true =>
    have e1 : mn x y = y := if_pos h1
    simp only [if_true]
    have := H u; rwa [e1] at this
theorem div_ff {x y : UInt64} {t u : Tok} (hz : ¬ Float64.isZero y = true) (h : Q (.float (Float64.div x y) s.toks) { s with toks := s.toks + 1 }) : wpAny (model prog w) A (binaryOp .Div (.float x t) (.float y u)) Q E s := AutoFloatOps.truediv_1 hz h
end
end Mine
end
/-! part S3 -/
section
open PySem PySem.W PyProof.Rows PySem.Calls
set_option Elab.async false
set_option maxRecDepth 100000
set_option maxHeartbeats 8000000
namespace Mine



theorem kw4 : True := by
  w_top off
  k_with_none
  k_with "mine ne" => first | (with_reducible first | assumption | (refine Ne.symm ?_; assumption)) | (with_reducible ((repeat (first | (rename ((_ ≠ _ ∧ _) ∧ _) => hZk; obtain ⟨_, _⟩ := hZk) | (rename (_ ≠ _ ∧ _) => hZk; obtain ⟨_, _⟩ := hZk))); first | assumption | (refine Ne.symm ?_; assumption))) | ((repeat (refine Mine.aS ?_)); (first | refine Nat.ne_of_lt ?_ | refine Nat.ne_of_gt ?_); (repeat (first | exact Mine.lA _ | refine Mine.lB ?_)); done) | (with_reducible ((repeat (rename (@LT.lt _ _ _ _ ∧ _) => hZk; obtain ⟨_, _⟩ := hZk)); first | (refine Nat.ne_of_lt ?_; assumption) | (refine Nat.ne_of_gt ?_; assumption)))
  k_with "mine enter" => (k_dflt (refine' enter ?k1Zk ?k8Zk ?k6Zk ?k7Zk ?k9Zk ?kBZk ?c5Zk ?c2Zk ?c3Zk ?c4Zk ?_; (case k1Zk => assumption); (case k6Zk => k_is); (case k7Zk => k_is); (case k8Zk => (dsimp only [Ar, recursionLimit]; first | with_reducible exact Mine.dU0 (by assumption) | with_reducible exact Mine.dU1 (by assumption) (by decide) | with_reducible exact Mine.dU2 (by assumption) (by decide) | omega)); (case k9Zk => exact BindsTo.of_eq rfl); (case c5Zk => decide); (case kBZk => exact locs rfl); (case c2Zk => exact rfl); (case c3Zk => exact rfl); (case c4Zk => exact rfl); k_whole; intro L'Zk h'Zk F'Zk N'Zk B'Zk X'Zk T'Zk; (try dsimp only); (try k_fold)))
  k_with "call builtin:max" => ((with_reducible show wpAny _ _ (call (Value.builtin "max") [Value.float _ _, Value.float _ _, Value.float _ _]) _ _ _); k_dflt (refine' max3_f ?k1Zk ?k2Zk ?k3Zk ?_; (case k1Zk => rfl); (case k2Zk => k_asm); (case k3Zk => k_asm); k_whole); intro h'Zk tk'Zk t'Zk F'Zk N'Zk; (try k_sweep))
  k_with "call builtin:min" => ((with_reducible show wpAny _ _ (call (Value.builtin "min") [Value.float _ _, Value.float _ _, Value.float _ _]) _ _ _); k_dflt (refine' min3_f ?k1Zk ?k2Zk ?k3Zk ?_; (case k1Zk => rfl); (case k2Zk => k_asm); (case k3Zk => k_asm); k_whole); intro h'Zk tk'Zk t'Zk F'Zk N'Zk; (try k_sweep))
  k_with "binaryOp Div float float" => (refine div_ff (by first | assumption | solve_by_elim) ?_; try dsimp only)
  trivial
abbrev cH (r g b : UInt64) : UInt64 := mx (mx r g) b
abbrev cL (r g b : UInt64) : UInt64 := mn (mn r g) b
abbrev cR (r g b : UInt64) : UInt64 := Float64.sub (cH r g b) (cL r g b)
/-- the hue that both defs tell -/
def hueF (r g b : UInt64) : UInt64 := if (Float64.cmp (cL r g b) (cH r g b) == some Ordering.eq) = true then 0 else
  (Float64.divmod (Float64.div (if (Float64.cmp r (cH r g b) == some Ordering.eq) = true then Float64.sub (Float64.div (Float64.sub (cH r g b) b) (cR r g b)) (Float64.div (Float64.sub (cH r g b) g) (cR r g b))
    else if (Float64.cmp g (cH r g b) == some Ordering.eq) = true then Float64.sub (Float64.add 4611686018427387904 (Float64.div (Float64.sub (cH r g b) r) (cR r g b))) (Float64.div (Float64.sub (cH r g b) b) (cR r g b))
    else Float64.sub (Float64.add 4616189618054758400 (Float64.div (Float64.sub (cH r g b) g) (cR r g b))) (Float64.div (Float64.sub (cH r g b) r) (cR r g b))) 4618441417868443648) 4607182418800017408).snd
def satV (r g b : UInt64) : UInt64 := if (Float64.cmp (cL r g b) (cH r g b) == some Ordering.eq) = true then 0 else Float64.div (cR r g b) (cH r g b)
theorem hsv_spec (r g b : UInt64) (t1 t2 t3 : Tok) (h1 : ¬ Float64.isZero (cH r g b) = true) (h2 : (Float64.cmp (cL r g b) (cH r g b) == some Ordering.eq) = false → ¬ Float64.isZero (cR r g b) = true) :
    Spec hd.heap_39 94 1 8 [.float r t1, .float g t2, .float b t3] (fun _ => True) (fun v new => ∃ a t1 t2 t3, v = .ref a ∧ new = [(a, tup3 (hueF r g b) (satV r g b) (cH r g b) t1 t2 t3)]) := by
  intro prog w dp un gd base outer p loose mean mg mb s G hd hu hpre
  walk_at "mine enter"
  k_steps
  all_goals (refine back_tup3 (by assumption) (by assumption) ?_ ?_ ?_)
  all_goals (first
    | rfl
    | (simp only [hueF, satV, (by assumption : (Float64.cmp (cL r g b) (cH r g b) == some Ordering.eq) = true), if_true]; done)
    | (simp only [hueF, satV, (by assumption : (Float64.cmp (cL r g b) (cH r g b) == some Ordering.eq) = false), (by assumption : (Float64.cmp r (cH r g b) == some Ordering.eq) = true), if_true, Bool.false_eq_true, if_false]; done)
    | (simp only [hueF, satV, (by assumption : (Float64.cmp (cL r g b) (cH r g b) == some Ordering.eq) = false), (by assumption : (Float64.cmp r (cH r g b) == some Ordering.eq) = false), (by assumption : (Float64.cmp g (cH r g b) == some Ordering.eq) = true), if_true, Bool.false_eq_true, if_false]; done)
    | (simp only [hueF, satV, (by assumption : (Float64.cmp (cL r g b) (cH r g b) == some Ordering.eq) = false), (by assumption : (Float64.cmp r (cH r g b) == some Ordering.eq) = false), (by assumption : (Float64.cmp g (cH r g b) == some Ordering.eq) = false), if_true, Bool.false_eq_true, if_false]; done))
end Mine
end
/-! part S4 -/
section
open PySem PySem.W PyProof.Rows PySem.Calls
set_option Elab.async false
set_option maxRecDepth 100000
set_option maxHeartbeats 8000000
set_option linter.unusedSimpArgs false
namespace Mine




theorem kw5 : True := by
  w_top off
  k_with_none
  k_with "mine ne" => first | (with_reducible first | assumption | (refine Ne.symm ?_; assumption)) | (with_reducible ((repeat (first | (rename ((_ ≠ _ ∧ _) ∧ _) => hZk; obtain ⟨_, _⟩ := hZk) | (rename (_ ≠ _ ∧ _) => hZk; obtain ⟨_, _⟩ := hZk))); first | assumption | (refine Ne.symm ?_; assumption))) | ((repeat (refine Mine.aS ?_)); (first | refine Nat.ne_of_lt ?_ | refine Nat.ne_of_gt ?_); (repeat (first | exact Mine.lA _ | refine Mine.lB ?_)); done) | (with_reducible ((repeat (rename (@LT.lt _ _ _ _ ∧ _) => hZk; obtain ⟨_, _⟩ := hZk)); first | (refine Nat.ne_of_lt ?_; assumption) | (refine Nat.ne_of_gt ?_; assumption)))
  k_with "mine enter" => (k_dflt (refine' enter ?k1Zk ?k8Zk ?k6Zk ?k7Zk ?k9Zk ?kBZk ?c5Zk ?c2Zk ?c3Zk ?c4Zk ?_; (case k1Zk => assumption); (case k6Zk => k_is); (case k7Zk => k_is); (case k8Zk => (dsimp only [Ar, recursionLimit]; first | with_reducible exact Mine.dU0 (by assumption) | with_reducible exact Mine.dU1 (by assumption) (by decide) | with_reducible exact Mine.dU2 (by assumption) (by decide) | omega)); (case k9Zk => exact BindsTo.of_eq rfl); (case c5Zk => decide); (case kBZk => exact locs rfl); (case c2Zk => exact rfl); (case c3Zk => exact rfl); (case c4Zk => exact rfl); k_whole; intro L'Zk h'Zk F'Zk N'Zk B'Zk X'Zk T'Zk; (try dsimp only); (try k_fold)))
  k_with "call builtin:max" => ((with_reducible show wpAny _ _ (call (Value.builtin "max") [Value.float _ _, Value.float _ _, Value.float _ _]) _ _ _); k_dflt (refine' max3_f ?k1Zk ?k2Zk ?k3Zk ?_; (case k1Zk => rfl); (case k2Zk => k_asm); (case k3Zk => k_asm); k_whole); intro h'Zk tk'Zk t'Zk F'Zk N'Zk; (try k_sweep))
  k_with "call builtin:min" => ((with_reducible show wpAny _ _ (call (Value.builtin "min") [Value.float _ _, Value.float _ _, Value.float _ _]) _ _ _); k_dflt (refine' min3_f ?k1Zk ?k2Zk ?k3Zk ?_; (case k1Zk => rfl); (case k2Zk => k_asm); (case k3Zk => k_asm); k_whole); intro h'Zk tk'Zk t'Zk F'Zk N'Zk; (try k_sweep))
  k_with "binaryOp Div float float" => (refine div_ff (by first | assumption | solve_by_elim) ?_; try dsimp only)
  trivial
/-- what hls asks: is the lightness at most a half -/
abbrev cD (r g b : UInt64) : Bool := Float64.cmp (Float64.div (Float64.add (cH r g b) (cL r g b)) 4611686018427387904) 4602678819172646912 == some Ordering.lt || Float64.cmp (Float64.div (Float64.add (cH r g b) (cL r g b)) 4611686018427387904) 4602678819172646912 == some Ordering.eq
abbrev lightF (r g b : UInt64) : UInt64 := Float64.div (Float64.add (cH r g b) (cL r g b)) 4611686018427387904
def satL (r g b : UInt64) : UInt64 := if (Float64.cmp (cL r g b) (cH r g b) == some Ordering.eq) = true then 0 else
  if cD r g b = true then Float64.div (cR r g b) (Float64.add (cH r g b) (cL r g b)) else Float64.div (cR r g b) (Float64.sub (Float64.sub 4611686018427387904 (cH r g b)) (cL r g b))
theorem hls_spec (r g b : UInt64) (t1 t2 t3 : Tok) (h1 : (Float64.cmp (cL r g b) (cH r g b) == some Ordering.eq) = false → ¬ Float64.isZero (Float64.add (cH r g b) (cL r g b)) = true)
   (h3 : (Float64.cmp (cL r g b) (cH r g b) == some Ordering.eq) = false → ¬ Float64.isZero (Float64.sub (Float64.sub 4611686018427387904 (cH r g b)) (cL r g b)) = true)
   (h2 : (Float64.cmp (cL r g b) (cH r g b) == some Ordering.eq) = false → ¬ Float64.isZero (cR r g b) = true) :
    Spec hd.heap_39 87 1 8 [.float r t1, .float g t2, .float b t3] (fun _ => True) (fun v new => ∃ a t1 t2 t3, v = .ref a ∧ new = [(a, tup3 (hueF r g b) (lightF r g b) (satL r g b) t1 t2 t3)]) := by
  intro prog w dp un gd base outer p loose mean mg mb s G hd hu hpre
  walk_at "mine enter"
  k_steps
  all_goals (refine back_tup3 (by assumption) (by assumption) ?_ ?_ ?_)
  all_goals (first
    | rfl
    | (simp only [hueF, satL, (by assumption : (Float64.cmp (cL r g b) (cH r g b) == some Ordering.eq) = true), if_true]; done)
    | (simp only [satL, (by assumption : (Float64.cmp (cL r g b) (cH r g b) == some Ordering.eq) = false), (by assumption : cD r g b = true), if_true, Bool.false_eq_true, if_false]; done)
    | (simp only [satL, (by assumption : (Float64.cmp (cL r g b) (cH r g b) == some Ordering.eq) = false), (by assumption : cD r g b = false), if_true, Bool.false_eq_true, if_false]; done)
    | (simp only [hueF, (by assumption : (Float64.cmp (cL r g b) (cH r g b) == some Ordering.eq) = false), (by assumption : (Float64.cmp r (cH r g b) == some Ordering.eq) = true), if_true, Bool.false_eq_true, if_false]; done)
    | (simp only [hueF, (by assumption : (Float64.cmp (cL r g b) (cH r g b) == some Ordering.eq) = false), (by assumption : (Float64.cmp r (cH r g b) == some Ordering.eq) = false), (by assumption : (Float64.cmp g (cH r g b) == some Ordering.eq) = true), if_true, Bool.false_eq_true, if_false]; done)
    | (simp only [hueF, (by assumption : (Float64.cmp (cL r g b) (cH r g b) == some Ordering.eq) = false), (by assumption : (Float64.cmp r (cH r g b) == some Ordering.eq) = false), (by assumption : (Float64.cmp g (cH r g b) == some Ordering.eq) = false), if_true, Bool.false_eq_true, if_false]; done))
end Mine
end
/-! part S5 -/
section
open PySem PySem.W PyProof.Rows PySem.Calls
set_option Elab.async false
set_option maxRecDepth 100000
set_option maxHeartbeats 8000000
set_option linter.unusedSimpArgs false
namespace Mine

theorem kw6 : True := by
  w_top off
  k_with_none
  k_with "mine ne" => first | (with_reducible first | assumption | (refine Ne.symm ?_; assumption)) | (with_reducible ((repeat (first | (rename ((_ ≠ _ ∧ _) ∧ _) => hZk; obtain ⟨_, _⟩ := hZk) | (rename (_ ≠ _ ∧ _) => hZk; obtain ⟨_, _⟩ := hZk))); first | assumption | (refine Ne.symm ?_; assumption))) | ((repeat (refine Mine.aS ?_)); (first | refine Nat.ne_of_lt ?_ | refine Nat.ne_of_gt ?_); (repeat (first | exact Mine.lA _ | refine Mine.lB ?_)); done) | (with_reducible ((repeat (rename (@LT.lt _ _ _ _ ∧ _) => hZk; obtain ⟨_, _⟩ := hZk)); first | (refine Nat.ne_of_lt ?_; assumption) | (refine Nat.ne_of_gt ?_; assumption)))
  k_with "mine enter" => (k_dflt (refine' enter ?k1Zk ?k8Zk ?k6Zk ?k7Zk ?k9Zk ?kBZk ?c5Zk ?c2Zk ?c3Zk ?c4Zk ?_; (case k1Zk => assumption); (case k6Zk => k_is); (case k7Zk => k_is); (case k8Zk => (dsimp only [Ar, recursionLimit]; first | with_reducible exact Mine.dU0 (by assumption) | with_reducible exact Mine.dU1 (by assumption) (by decide) | with_reducible exact Mine.dU2 (by assumption) (by decide) | omega)); (case k9Zk => exact BindsTo.of_eq rfl); (case c5Zk => decide); (case kBZk => exact locs rfl); (case c2Zk => exact rfl); (case c3Zk => exact rfl); (case c4Zk => exact rfl); k_whole; intro L'Zk h'Zk F'Zk N'Zk B'Zk X'Zk T'Zk; (try dsimp only); (try k_fold)))
  trivial
inductive Nth : List Value → Nat → Value → Prop where
  | zero {v : Value} {r : List Value} : Nth (v :: r) 0 v
  | succ {v x : Value} {r : List Value} {n : Nat} : Nth r n v → Nth (x :: r) (n + 1) v
theorem Nth.get {vs : List Value} {n : Nat} {v : Value} (h : Nth vs n v) : vs[n]? = some v := by
  induction h with
  | zero => rfl
  | succ _ ih => exact ih
/-- p eighths -/
def e8 (p : Int) : UInt64 := Float64.ofFrac false p.toNat 8
section
variable {prog : Program} {w : World} {A : Around} {E : Value → Shared → Prop} {s : Shared} {Q : Value → Shared → Prop}
theorem div8 {p : Int} {t u : Tok} (h0 : 0 ≤ p) (h1 : p < 8) (hA : A.handled = none) (h : Q (.float (e8 p) s.toks) { s with toks := s.toks + 1 }) : wpAny (model prog w) A (binaryOp .Div (.int p t) (.int 8 u)) Q E s := by
  refine Flt.div_ii_fits hA ?_ (fun q => by cases q) (fun _ _ => ?_)
  · have : p.natAbs < 2 ^ 3 := by omega
    exact Nat.lt_of_lt_of_le this (Nat.pow_le_pow_right (by decide) (by decide))
  · have e1 : (decide (p < 0) != decide ((8 : Int) < 0)) = false := by simp; omega
    have e2 : p.natAbs = p.toNat := by omega
    rw [e1, e2]; exact h
theorem round_ok {x : UInt64} {t : Tok} (hf : Float64.isFinite x = true) (hA : A.handled = none) (h : Q (.int (Flt.toInt Float64.nearestOf x) s.toks) { s with toks := s.toks + 1 }) : wpAny (model prog w) A (call (.builtin "round") [.float x t]) Q E s := by
  refine Flt.call_round_float hA (fun q => ?_) (fun q => ?_) (fun _ => h)
  · unfold Float64.isFinite at hf; unfold Float64.isNaN at q; split at q <;> simp_all
  · unfold Float64.isFinite at hf; unfold Float64.isInf at q; split at q <;> simp_all
theorem item_ok {value slice : PySem.Expr} {l : Addr} {vs : List Value} {k : Int} {u : Tok} {v : Value} (hl : s.heap.IsList l vs.toArray) (h0 : 0 ≤ k) (hhi : k < 2 ^ 63) (hx : Nth vs k.toNat v) (h : Q v s)
    (hs : subscripted slice false (.ref l) (.int k u) = operate [.ref l, .int k u] (getItem (.ref l) (.int k u)) := by with_unfolding_all rfl) :
    wpAny (model prog w) A (subscriptTail value slice (.ref l) (.int k u)) Q E s :=
  tail_any hl.typeIs slot_list_getitem.lookup (wpAny_getItem_list hl h0 hhi (by simpa using hx.get) h) hs
end

theorem kw7 : True := by
  k_with "subscriptTail Name Constant ref int" => (refine' item_ok ?ilZk ?i0Zk ?ihZk ?ixZk ?_; (case ilZk => is_list); (case i0Zk => decide); (case ihZk => decide); (case ixZk => with_unfolding_all (first | exact .zero | exact .succ .zero | exact .succ (.succ .zero))))
  k_with "binaryOp Div int int" => (refine div8 (by omega) (by omega) rfl ?_; try dsimp only)
  k_with "call builtin:round" => (refine round_ok (by first | assumption | solve_by_elim) rfl ?_; try dsimp only)
  k_with "call ref" => ((with_reducible show wpAny _ _ (call (Value.ref 80) _) _ _ _); k_dflt (refine' use (yiq_spec _ _ _ _ _ _) ?uBZk ?uFZk ?uNZk ?uXZk ?uTZk ?uAZk ?ufZk ?ukZk ?udZk ?uuZk ?upZk ?_; (case uBZk => k_asm); (case uFZk => k_asm); (case uNZk => k_asm); (case uXZk => k_asm); (case uTZk => k_asm); (case uAZk => exact rfl); (case ufZk => exact rfl); (case ukZk => exact rfl); (case udZk => (dsimp only; first | with_reducible exact Mine.dU0 (by assumption) | with_reducible exact Mine.dU1 (by assumption) (by decide) | with_reducible exact Mine.dU2 (by assumption) (by decide) | omega)); (case uuZk => (dsimp only; first | with_reducible exact Mine.dU0 (by assumption) | with_reducible exact Mine.dU1 (by assumption) (by decide) | with_reducible exact Mine.dU2 (by assumption) (by decide) | omega)); (case upZk => trivial); k_whole; intro v'Zk h'Zk tk'Zk new'Zk F'Zk N'Zk ap'Zk P'Zk; obtain ⟨a'Zk, t1'Zk, t2'Zk, t3'Zk, e1'Zk, e2'Zk⟩ := P'Zk; subst e1'Zk; subst e2'Zk; clear ap'Zk; dsimp only [List.cons_append, List.nil_append] at N'Zk; (try k_sweep); (try dsimp only)))
  trivial
abbrev rnd (x : UInt64) : Int := Flt.toInt Float64.nearestOf x
abbrev wh (x : UInt64) : UInt64 := Float64.mul x (Float64.ofInt 1073741824)
theorem chromas_spec (l : Addr) (p0 p1 p2 : Int) (t0 t1 t2 : Tok) (h0 : 0 ≤ p0 ∧ p0 < 8) (h1 : 0 ≤ p1 ∧ p1 < 8) (h2 : 0 ≤ p2 ∧ p2 < 8)
    (f1 : Float64.isFinite (Float64.mul (Float64.ofInt 80000) (iF (e8 p0) (e8 p1) (e8 p2))) = true) (f2 : Float64.isFinite (Float64.mul (Float64.ofInt 80000) (qF (e8 p0) (e8 p1) (e8 p2))) = true) :
    Spec hd.heap_39 125 2 16 [.ref l] (fun h => h.IsList l #[.int p0 t0, .int p1 t1, .int p2 t2])
      (fun v new => ∃ a t1 t2, v = .ref a ∧ new = [(a, tup2i (rnd (Float64.mul (Float64.ofInt 80000) (iF (e8 p0) (e8 p1) (e8 p2)))) (rnd (Float64.mul (Float64.ofInt 80000) (qF (e8 p0) (e8 p1) (e8 p2)))) t1 t2)]) := by
  intro prog w dp un gd base outer p loose mean mg mb s G hd hu hpre
  walk_at "mine enter"
  k_steps
  all_goals (refine back_tup2i (by assumption) (by assumption) rfl rfl)
theorem whole_spec (x : UInt64) (t : Tok) (f : Float64.isFinite (wh x) = true) : Spec hd.heap_39 118 1 8 [.float x t] (fun _ => True) (fun v new => ∃ t, v = .int (rnd (wh x)) t ∧ new = []) := by
  intro prog w dp un gd base outer p loose mean mg mb s G hd hu hpre
  walk_at "mine enter"
  k_steps
  all_goals (exact back (by assumption) (by assumption) ⟨_, rfl, rfl⟩)

theorem kw8 : True := by
  k_with "call ref" => ((with_reducible show wpAny _ _ (call (Value.ref 118) _) _ _ _); k_dflt (refine' use (whole_spec _ _ ?uwZk) ?uBZk ?uFZk ?uNZk ?uXZk ?uTZk ?uAZk ?ufZk ?ukZk ?udZk ?uuZk ?upZk ?_; (case uBZk => k_asm); (case uFZk => k_asm); (case uNZk => k_asm); (case uXZk => k_asm); (case uTZk => k_asm); (case uAZk => exact rfl); (case ufZk => exact rfl); (case ukZk => exact rfl); (case udZk => (dsimp only; first | with_reducible exact Mine.dU0 (by assumption) | with_reducible exact Mine.dU1 (by assumption) (by decide) | with_reducible exact Mine.dU2 (by assumption) (by decide) | omega)); (case uuZk => (dsimp only; first | with_reducible exact Mine.dU0 (by assumption) | with_reducible exact Mine.dU1 (by assumption) (by decide) | with_reducible exact Mine.dU2 (by assumption) (by decide) | omega)); (case upZk => trivial); (case uwZk => assumption); k_whole; intro v'Zk h'Zk tk'Zk new'Zk F'Zk N'Zk ap'Zk P'Zk; obtain ⟨t1'Zk, e1'Zk, e2'Zk⟩ := P'Zk; subst e1'Zk; subst e2'Zk; clear ap'Zk; dsimp only [List.cons_append, List.nil_append] at N'Zk; (try k_sweep); (try dsimp only)))
  k_with "call ref" => ((with_reducible show wpAny _ _ (call (Value.ref 87) _) _ _ _); k_dflt (refine' use (hls_spec _ _ _ _ _ _ ?uw1Zk ?uw2Zk ?uw3Zk) ?uBZk ?uFZk ?uNZk ?uXZk ?uTZk ?uAZk ?ufZk ?ukZk ?udZk ?uuZk ?upZk ?_; (case uBZk => k_asm); (case uFZk => k_asm); (case uNZk => k_asm); (case uXZk => k_asm); (case uTZk => k_asm); (case uAZk => exact rfl); (case ufZk => exact rfl); (case ukZk => exact rfl); (case udZk => (dsimp only; first | with_reducible exact Mine.dU0 (by assumption) | with_reducible exact Mine.dU1 (by assumption) (by decide) | with_reducible exact Mine.dU2 (by assumption) (by decide) | omega)); (case uuZk => (dsimp only; first | with_reducible exact Mine.dU0 (by assumption) | with_reducible exact Mine.dU1 (by assumption) (by decide) | with_reducible exact Mine.dU2 (by assumption) (by decide) | omega)); (case upZk => trivial); (case uw1Zk => assumption); (case uw2Zk => assumption); (case uw3Zk => assumption); k_whole; intro v'Zk h'Zk tk'Zk new'Zk F'Zk N'Zk ap'Zk P'Zk; obtain ⟨a'Zk, t1'Zk, t2'Zk, t3'Zk, e1'Zk, e2'Zk⟩ := P'Zk; subst e1'Zk; subst e2'Zk; clear ap'Zk; dsimp only [List.cons_append, List.nil_append] at N'Zk; (try k_sweep); (try dsimp only)))
  k_with "call ref" => ((with_reducible show wpAny _ _ (call (Value.ref 94) _) _ _ _); k_dflt (refine' use (hsv_spec _ _ _ _ _ _ ?uw1Zk ?uw2Zk) ?uBZk ?uFZk ?uNZk ?uXZk ?uTZk ?uAZk ?ufZk ?ukZk ?udZk ?uuZk ?upZk ?_; (case uBZk => k_asm); (case uFZk => k_asm); (case uNZk => k_asm); (case uXZk => k_asm); (case uTZk => k_asm); (case uAZk => exact rfl); (case ufZk => exact rfl); (case ukZk => exact rfl); (case udZk => (dsimp only; first | with_reducible exact Mine.dU0 (by assumption) | with_reducible exact Mine.dU1 (by assumption) (by decide) | with_reducible exact Mine.dU2 (by assumption) (by decide) | omega)); (case uuZk => (dsimp only; first | with_reducible exact Mine.dU0 (by assumption) | with_reducible exact Mine.dU1 (by assumption) (by decide) | with_reducible exact Mine.dU2 (by assumption) (by decide) | omega)); (case upZk => trivial); (case uw1Zk => assumption); (case uw2Zk => assumption); k_whole; intro v'Zk h'Zk tk'Zk new'Zk F'Zk N'Zk ap'Zk P'Zk; obtain ⟨a'Zk, t1'Zk, t2'Zk, t3'Zk, e1'Zk, e2'Zk⟩ := P'Zk; subst e1'Zk; subst e2'Zk; clear ap'Zk; dsimp only [List.cons_append, List.nil_append] at N'Zk; (try k_sweep); (try dsimp only)))
  trivial
abbrev spL (r g b : UInt64) : UInt64 := Float64.mul (satL r g b) (mn (Float64.mul (Float64.ofInt 2) (lightF r g b)) (Float64.sub (Float64.ofInt 2) (Float64.mul (Float64.ofInt 2) (lightF r g b))))
abbrev spV (r g b : UInt64) : UInt64 := Float64.mul (satV r g b) (cH r g b)
theorem kw9 : True := by
  k_with "call builtin:min" => ((with_reducible show wpAny _ _ (call (Value.builtin "min") [Value.float _ _, Value.float _ _]) _ _ _); k_dflt (refine' min2_f ?k1Zk ?k2Zk ?k3Zk ?_; (case k1Zk => rfl); (case k2Zk => k_asm); (case k3Zk => k_asm); k_whole); intro h'Zk tk'Zk t'Zk F'Zk N'Zk; (try k_sweep))
  trivial
theorem light_spec (l : Addr) (p0 p1 p2 : Int) (t0 t1 t2 : Tok) (h0 : 0 ≤ p0 ∧ p0 < 8) (h1 : 0 ≤ p1 ∧ p1 < 8) (h2 : 0 ≤ p2 ∧ p2 < 8)
    (g1 : (Float64.cmp (cL (e8 p0) (e8 p1) (e8 p2)) (cH (e8 p0) (e8 p1) (e8 p2)) == some Ordering.eq) = false → ¬ Float64.isZero (Float64.add (cH (e8 p0) (e8 p1) (e8 p2)) (cL (e8 p0) (e8 p1) (e8 p2))) = true)
    (g2 : (Float64.cmp (cL (e8 p0) (e8 p1) (e8 p2)) (cH (e8 p0) (e8 p1) (e8 p2)) == some Ordering.eq) = false → ¬ Float64.isZero (Float64.sub (Float64.sub 4611686018427387904 (cH (e8 p0) (e8 p1) (e8 p2))) (cL (e8 p0) (e8 p1) (e8 p2))) = true)
    (g3 : (Float64.cmp (cL (e8 p0) (e8 p1) (e8 p2)) (cH (e8 p0) (e8 p1) (e8 p2)) == some Ordering.eq) = false → ¬ Float64.isZero (cR (e8 p0) (e8 p1) (e8 p2)) = true)
    (f1 : Float64.isFinite (wh (hueF (e8 p0) (e8 p1) (e8 p2))) = true) (f2 : Float64.isFinite (wh (spL (e8 p0) (e8 p1) (e8 p2))) = true) :
    Spec hd.heap_39 132 2 16 [.ref l] (fun h => h.IsList l #[.int p0 t0, .int p1 t1, .int p2 t2])
      (fun v new => ∃ a t1 t2, v = .ref a ∧ new = [(a, tup2i (rnd (wh (hueF (e8 p0) (e8 p1) (e8 p2)))) (rnd (wh (spL (e8 p0) (e8 p1) (e8 p2)))) t1 t2)]) := by
  intro prog w dp un gd base outer p loose mean mg mb s G hd hu hpre
  walk_at "mine enter"
  k_steps
  all_goals (refine back_tup2i (by assumption) (by assumption) rfl rfl)
theorem value_spec (l : Addr) (p0 p1 p2 : Int) (t0 t1 t2 : Tok) (h0 : 0 ≤ p0 ∧ p0 < 8) (h1 : 0 ≤ p1 ∧ p1 < 8) (h2 : 0 ≤ p2 ∧ p2 < 8)
    (g1 : ¬ Float64.isZero (cH (e8 p0) (e8 p1) (e8 p2)) = true)
    (g3 : (Float64.cmp (cL (e8 p0) (e8 p1) (e8 p2)) (cH (e8 p0) (e8 p1) (e8 p2)) == some Ordering.eq) = false → ¬ Float64.isZero (cR (e8 p0) (e8 p1) (e8 p2)) = true)
    (f1 : Float64.isFinite (wh (hueF (e8 p0) (e8 p1) (e8 p2))) = true) (f2 : Float64.isFinite (wh (spV (e8 p0) (e8 p1) (e8 p2))) = true) :
    Spec hd.heap_39 139 2 16 [.ref l] (fun h => h.IsList l #[.int p0 t0, .int p1 t1, .int p2 t2])
      (fun v new => ∃ a t1 t2, v = .ref a ∧ new = [(a, tup2i (rnd (wh (hueF (e8 p0) (e8 p1) (e8 p2)))) (rnd (wh (spV (e8 p0) (e8 p1) (e8 p2)))) t1 t2)]) := by
  intro prog w dp un gd base outer p loose mean mg mb s G hd hu hpre
  walk_at "mine enter"
  k_steps
  all_goals (refine back_tup2i (by assumption) (by assumption) rfl rfl)
end Mine
end
/-! part P1 -/
section
open PySem PySem.W PyProof.Rows PySem.Calls
set_option Elab.async false
set_option maxRecDepth 100000
namespace Mine
theorem kw10 : True := by
  w_top off
  k_with_none
  k_with "mine ne" => first | (with_reducible first | assumption | (refine Ne.symm ?_; assumption)) | (with_reducible ((repeat (first | (rename ((_ ≠ _ ∧ _) ∧ _) => hZk; obtain ⟨_, _⟩ := hZk) | (rename (_ ≠ _ ∧ _) => hZk; obtain ⟨_, _⟩ := hZk))); first | assumption | (refine Ne.symm ?_; assumption))) | ((repeat (refine Mine.aS ?_)); (first | refine Nat.ne_of_lt ?_ | refine Nat.ne_of_gt ?_); (repeat (first | exact Mine.lA _ | refine Mine.lB ?_)); done) | (with_reducible ((repeat (rename (@LT.lt _ _ _ _ ∧ _) => hZk; obtain ⟨_, _⟩ := hZk)); first | (refine Nat.ne_of_lt ?_; assumption) | (refine Nat.ne_of_gt ?_; assumption)))
  trivial
/-- what the float defs tell of p0, p1, p2 eighths -/
def chrI (p0 p1 p2 : Int) : Int := rnd (Float64.mul (Float64.ofInt 80000) (iF (e8 p0) (e8 p1) (e8 p2)))
def chrQ (p0 p1 p2 : Int) : Int := rnd (Float64.mul (Float64.ofInt 80000) (qF (e8 p0) (e8 p1) (e8 p2)))
def hueI (p0 p1 p2 : Int) : Int := rnd (wh (hueF (e8 p0) (e8 p1) (e8 p2)))
def sprL (p0 p1 p2 : Int) : Int := rnd (wh (spL (e8 p0) (e8 p1) (e8 p2)))
def sprV (p0 p1 p2 : Int) : Int := rnd (wh (spV (e8 p0) (e8 p1) (e8 p2)))

/-- a value met as a written number before it is used -/
def force (x : UInt64) (k : UInt64 → Bool) : Bool := match x.toNat with
  | 0 => k (UInt64.ofNat 0)
  | n + 1 => k (UInt64.ofNat (n + 1))
theorem force_eq (x : UInt64) (k : UInt64 → Bool) : force x k = k x := by
  unfold force
  split <;> rename_i h
  · rw [← h, UInt64.ofNat_toNat]
  · rw [show ∀ n, n + 1 = n.succ from fun _ => rfl, ← h, UInt64.ofNat_toNat]
def hueX (r g b H L R : UInt64) : UInt64 := if (Float64.cmp L H == some Ordering.eq) = true then 0 else
  (Float64.divmod (Float64.div (if (Float64.cmp r H == some Ordering.eq) = true then Float64.sub (Float64.div (Float64.sub H b) R) (Float64.div (Float64.sub H g) R)
    else if (Float64.cmp g H == some Ordering.eq) = true then Float64.sub (Float64.add 4611686018427387904 (Float64.div (Float64.sub H r) R)) (Float64.div (Float64.sub H b) R)
    else Float64.sub (Float64.add 4616189618054758400 (Float64.div (Float64.sub H g) R)) (Float64.div (Float64.sub H r) R)) 4618441417868443648) 4607182418800017408).snd
theorem hueX_eq (r g b : UInt64) : hueX r g b (cH r g b) (cL r g b) (cR r g b) = hueF r g b := rfl
def satX (H L R l : UInt64) : UInt64 := if (Float64.cmp L H == some Ordering.eq) = true then 0 else
  if (Float64.cmp l 4602678819172646912 == some Ordering.lt || Float64.cmp l 4602678819172646912 == some Ordering.eq) = true then Float64.div R (Float64.add H L) else Float64.div R (Float64.sub (Float64.sub 4611686018427387904 H) L)
theorem satX_eq (r g b : UInt64) : satX (cH r g b) (cL r g b) (cR r g b) (lightF r g b) = satL r g b := rfl
def satY (H L R : UInt64) : UInt64 := if (Float64.cmp L H == some Ordering.eq) = true then 0 else Float64.div R H
theorem satY_eq (r g b : UInt64) : satY (cH r g b) (cL r g b) (cR r g b) = satV r g b := rfl

def hueC (p0 p1 p2 : Int) (k : UInt64 → Bool) : Bool :=
  force (e8 p0) fun r => force (e8 p1) fun g => force (e8 p2) fun b => force (mx (mx r g) b) fun H => force (mn (mn r g) b) fun L => force (Float64.sub H L) fun R => force (hueX r g b H L R) fun h => force (wh h) k
theorem hueC_eq (p0 p1 p2 : Int) (k : UInt64 → Bool) : hueC p0 p1 p2 k = k (wh (hueF (e8 p0) (e8 p1) (e8 p2))) := by simp only [hueC, force_eq]; rfl

/-- one colour's look, each value once; hu: the hue that its differences tell -/
def chk (p0 p1 p2 : Int) (hu : Int) : Bool :=
  force (e8 p0) fun r => force (e8 p1) fun g => force (e8 p2) fun b =>
  (force (yF r g b) fun y => force (Float64.sub r y) fun x => force (Float64.sub b y) fun z =>
    (force (Float64.mul (Float64.ofInt 80000) (Float64.sub (Float64.mul 4604840546993784750 x) (Float64.mul 4598535507515466056 z))) fun i => Float64.isFinite i && rnd i == 5990 * (p0 - p2) - 2773 * (p1 - p2)) &&
    (force (Float64.mul (Float64.ofInt 80000) (Float64.add (Float64.mul 4602318531202457272 x) (Float64.mul 4601057523306793533 z))) fun q => Float64.isFinite q && rnd q == 2130 * (p0 - p2) - 5251 * (p1 - p2))) &&
  (force (mx (mx r g) b) fun H => force (mn (mn r g) b) fun L => force (Float64.sub H L) fun R => !Float64.isZero H &&
    (Float64.cmp L H == some Ordering.eq || (!Float64.isZero (Float64.add H L) && !Float64.isZero (Float64.sub (Float64.sub 4611686018427387904 H) L) && !Float64.isZero R)) &&
    (force (hueX r g b H L R) fun h => force (wh h) fun u => Float64.isFinite u && rnd u == hu) &&
    (force (Float64.div (Float64.add H L) 4611686018427387904) fun l => force (satX H L R l) fun s => force (Float64.mul (Float64.ofInt 2) l) fun l2 => force (Float64.mul s (mn l2 (Float64.sub (Float64.ofInt 2) l2))) fun m => force (wh m) fun u => Float64.isFinite u && rnd u == (max p0 (max p1 p2) - min p0 (min p1 p2)) * 134217728) &&
    (force (satY H L R) fun s => force (Float64.mul s H) fun m => force (wh m) fun u => Float64.isFinite u && rnd u == (max p0 (max p1 p2) - min p0 (min p1 p2)) * 134217728))

/-- the hues of the differences, d0 and d1 from -2 on -/
def hueT (d0 d1 : Int) : Int := (([[715827883, 626349397, 536870912, 477218588, 447392427], [805306368, 715827883, 536870912, 447392427, 417566265], [894784853, 894784853, 0, 357913941, 357913941],
  [954437177, 984263339, 0, 178956971, 268435456], [984263339, 1014089500, 0, 89478485, 178956971]] : List (List Int)).getD (d0 + 2).toNat []).getD (d1 + 2).toNat 0
def sprT (d0 d1 : Int) : Int := (max d0 (max d1 0) - min d0 (min d1 0)) * 134217728
/-- the law's colours: a digit of three each, and one to four more -/
structure Col (p0 p1 p2 : Int) : Prop where
  ex : ∃ m a b c : Nat, m < 4 ∧ a < 3 ∧ b < 3 ∧ c < 3 ∧ p0 = Int.ofNat (a + m + 1) ∧ p1 = Int.ofNat (b + m + 1) ∧ p2 = Int.ofNat (c + m + 1)
theorem chk_all : ((List.range 4).all fun m => (List.range 3).all fun a => (List.range 3).all fun b => (List.range 3).all fun c =>
    chk (Int.ofNat (a + m + 1)) (Int.ofNat (b + m + 1)) (Int.ofNat (c + m + 1)) (hueT (Int.ofNat (a + m + 1) - Int.ofNat (c + m + 1)) (Int.ofNat (b + m + 1) - Int.ofNat (c + m + 1)))) = true := by decide +kernel
theorem Col.chk {p0 p1 p2 : Int} (h : Col p0 p1 p2) : chk p0 p1 p2 (hueT (p0 - p2) (p1 - p2)) = true := by
  obtain ⟨m, a, b, c, hm, ha, hb, hc, rfl, rfl, rfl⟩ := h.ex
  have h1 := List.all_eq_true.mp chk_all m (List.mem_range.mpr hm)
  have h2 := List.all_eq_true.mp h1 a (List.mem_range.mpr ha)
  have h3 := List.all_eq_true.mp h2 b (List.mem_range.mpr hb)
  exact List.all_eq_true.mp h3 c (List.mem_range.mpr hc)
theorem Col.le {p0 p1 p2 : Int} (h : Col p0 p1 p2) : (1 ≤ p0 ∧ p0 ≤ 6) ∧ (1 ≤ p1 ∧ p1 ≤ 6) ∧ (1 ≤ p2 ∧ p2 ≤ 6) ∧ -2 ≤ p0 - p2 ∧ p0 - p2 ≤ 2 ∧ -2 ≤ p1 - p2 ∧ p1 - p2 ≤ 2 ∧ -2 ≤ p0 - p1 ∧ p0 - p1 ≤ 2 := by
  obtain ⟨m, a, b, c, hm, ha, hb, hc, rfl, rfl, rfl⟩ := h.ex
  simp only [Int.ofNat_eq_natCast]
  refine ⟨⟨?_, ?_⟩, ⟨?_, ?_⟩, ⟨?_, ?_⟩, ?_, ?_, ?_, ?_, ?_, ?_⟩ <;> omega
end Mine
end
/-! part P2 -/
section
open PySem PySem.W PyProof.Rows PySem.Calls
set_option Elab.async false
set_option maxRecDepth 100000
set_option linter.unusedSimpArgs false
namespace Mine
theorem kw11 : True := by
  w_top off
  k_with_none
  k_with "mine ne" => first | (with_reducible first | assumption | (refine Ne.symm ?_; assumption)) | (with_reducible ((repeat (first | (rename ((_ ≠ _ ∧ _) ∧ _) => hZk; obtain ⟨_, _⟩ := hZk) | (rename (_ ≠ _ ∧ _) => hZk; obtain ⟨_, _⟩ := hZk))); first | assumption | (refine Ne.symm ?_; assumption))) | ((repeat (refine Mine.aS ?_)); (first | refine Nat.ne_of_lt ?_ | refine Nat.ne_of_gt ?_); (repeat (first | exact Mine.lA _ | refine Mine.lB ?_)); done) | (with_reducible ((repeat (rename (@LT.lt _ _ _ _ ∧ _) => hZk; obtain ⟨_, _⟩ := hZk)); first | (refine Nat.ne_of_lt ?_; assumption) | (refine Nat.ne_of_gt ?_; assumption)))
  trivial
theorem mxs (a b c : Int) : max (a - c) b = max a (b + c) - c := by omega
theorem mns (a b c : Int) : min (a - c) b = min a (b + c) - c := by omega
theorem spr_eq {p0 p1 p2 : Int} : (max p0 (max p1 p2) - min p0 (min p1 p2)) * 134217728 = sprT (p0 - p2) (p1 - p2) := by
  unfold sprT
  rw [mxs p1 0, Int.zero_add, mxs p0, Int.sub_add_cancel, mns p1 0, Int.zero_add, mns p0, Int.sub_add_cancel]
  generalize max p0 (max p1 p2) = u
  generalize min p0 (min p1 p2) = v
  rw [show u - p2 - (v - p2) = u - v by omega]
section
variable {p0 p1 p2 : Int} (l : Addr) (t0 t1 t2 : Tok)
theorem Col.parts (h : Col p0 p1 p2) : (((Float64.isFinite (Float64.mul (Float64.ofInt 80000) (iF (e8 p0) (e8 p1) (e8 p2))) = true ∧ rnd (Float64.mul (Float64.ofInt 80000) (iF (e8 p0) (e8 p1) (e8 p2))) = 5990 * (p0 - p2) - 2773 * (p1 - p2)) ∧
      Float64.isFinite (Float64.mul (Float64.ofInt 80000) (qF (e8 p0) (e8 p1) (e8 p2))) = true ∧ rnd (Float64.mul (Float64.ofInt 80000) (qF (e8 p0) (e8 p1) (e8 p2))) = 2130 * (p0 - p2) - 5251 * (p1 - p2)) ∧
    (((¬ Float64.isZero (cH (e8 p0) (e8 p1) (e8 p2)) = true) ∧ ((Float64.cmp (cL (e8 p0) (e8 p1) (e8 p2)) (cH (e8 p0) (e8 p1) (e8 p2)) == some Ordering.eq) = false →
        (¬ Float64.isZero (Float64.add (cH (e8 p0) (e8 p1) (e8 p2)) (cL (e8 p0) (e8 p1) (e8 p2))) = true) ∧ (¬ Float64.isZero (Float64.sub (Float64.sub 4611686018427387904 (cH (e8 p0) (e8 p1) (e8 p2))) (cL (e8 p0) (e8 p1) (e8 p2))) = true) ∧ ¬ Float64.isZero (cR (e8 p0) (e8 p1) (e8 p2)) = true)) ∧
      (Float64.isFinite (wh (hueF (e8 p0) (e8 p1) (e8 p2))) = true ∧ rnd (wh (hueF (e8 p0) (e8 p1) (e8 p2))) = hueT (p0 - p2) (p1 - p2)) ∧
      (Float64.isFinite (wh (spL (e8 p0) (e8 p1) (e8 p2))) = true ∧ rnd (wh (spL (e8 p0) (e8 p1) (e8 p2))) = sprT (p0 - p2) (p1 - p2)) ∧
      Float64.isFinite (wh (spV (e8 p0) (e8 p1) (e8 p2))) = true ∧ rnd (wh (spV (e8 p0) (e8 p1) (e8 p2))) = sprT (p0 - p2) (p1 - p2))) := by
  have H := h.chk
  simp only [Mine.chk, force_eq, Bool.and_eq_true, beq_iff_eq, spr_eq] at H
  obtain ⟨⟨⟨a1, a2⟩, a3, a4⟩, ⟨⟨⟨b1, b2⟩, b3, b4⟩, c1, c2⟩, d1, d2⟩ := H
  refine ⟨⟨⟨a1, a2⟩, a3, a4⟩, ⟨by simpa using b1, fun q => ?_⟩, ⟨b3, b4⟩, ⟨c1, c2⟩, d1, d2⟩
  rw [q, Bool.false_or] at b2
  simp only [Bool.and_eq_true, Bool.not_eq_true'] at b2
  exact ⟨by rw [b2.1.1]; exact Bool.false_ne_true, by rw [b2.1.2]; exact Bool.false_ne_true, by rw [b2.2]; exact Bool.false_ne_true⟩
theorem chromas (h : Col p0 p1 p2) : Spec hd.heap_39 125 2 16 [.ref l] (fun h => h.IsList l #[.int p0 t0, .int p1 t1, .int p2 t2])
    (fun v new => ∃ a t1 t2, v = .ref a ∧ new = [(a, tup2i (5990 * (p0 - p2) - 2773 * (p1 - p2)) (2130 * (p0 - p2) - 5251 * (p1 - p2)) t1 t2)]) := by
  obtain ⟨⟨⟨a1, a2⟩, a3, a4⟩, _⟩ := h.parts
  obtain ⟨l0, l1, l2, _⟩ := h.le
  have := chromas_spec l p0 p1 p2 t0 t1 t2 (by omega) (by omega) (by omega) a1 a3
  rw [a2, a4] at this; exact this
theorem light (h : Col p0 p1 p2) : Spec hd.heap_39 132 2 16 [.ref l] (fun h => h.IsList l #[.int p0 t0, .int p1 t1, .int p2 t2])
    (fun v new => ∃ a t1 t2, v = .ref a ∧ new = [(a, tup2i (hueT (p0 - p2) (p1 - p2)) (sprT (p0 - p2) (p1 - p2)) t1 t2)]) := by
  obtain ⟨_, ⟨_, b2⟩, ⟨b3, b4⟩, ⟨c1, c2⟩, _⟩ := h.parts
  obtain ⟨l0, l1, l2, _⟩ := h.le
  have := light_spec l p0 p1 p2 t0 t1 t2 (by omega) (by omega) (by omega) (fun q => (b2 q).1) (fun q => (b2 q).2.1) (fun q => (b2 q).2.2) b3 c1
  rw [b4, c2] at this; exact this
theorem value (h : Col p0 p1 p2) : Spec hd.heap_39 139 2 16 [.ref l] (fun h => h.IsList l #[.int p0 t0, .int p1 t1, .int p2 t2])
    (fun v new => ∃ a t1 t2, v = .ref a ∧ new = [(a, tup2i (hueT (p0 - p2) (p1 - p2)) (sprT (p0 - p2) (p1 - p2)) t1 t2)]) := by
  obtain ⟨_, ⟨b1, b2⟩, ⟨b3, b4⟩, _, d1, d2⟩ := h.parts
  obtain ⟨l0, l1, l2, _⟩ := h.le
  have := value_spec l p0 p1 p2 t0 t1 t2 (by omega) (by omega) (by omega) b1 (fun q => (b2 q).2.2) b3 d1
  rw [b4, d2] at this; exact this
end
/-- the hue and the spread tell the differences -/
theorem hue_all : ((List.range 5).all fun a => (List.range 5).all fun b => (List.range 5).all fun c => (List.range 5).all fun d =>
    !(hueT (Int.ofNat a - 2) (Int.ofNat b - 2) == hueT (Int.ofNat c - 2) (Int.ofNat d - 2) && sprT (Int.ofNat a - 2) (Int.ofNat b - 2) == sprT (Int.ofNat c - 2) (Int.ofNat d - 2)) || (a == c && b == d)) = true := by decide +kernel
theorem hue_inj {a b c d : Int} (ha : -2 ≤ a ∧ a ≤ 2) (hb : -2 ≤ b ∧ b ≤ 2) (hc : -2 ≤ c ∧ c ≤ 2) (hd : -2 ≤ d ∧ d ≤ 2) (h1 : hueT a b = hueT c d) (h2 : sprT a b = sprT c d) : a = c ∧ b = d := by
  have e : ∀ x : Int, -2 ≤ x ∧ x ≤ 2 → x = Int.ofNat (x + 2).toNat - 2 ∧ (x + 2).toNat < 5 := fun x hx => by simp only [Int.ofNat_eq_natCast]; omega
  obtain ⟨ea, la⟩ := e a ha
  obtain ⟨eb, lb⟩ := e b hb
  obtain ⟨ec, lc⟩ := e c hc
  obtain ⟨ed, ld⟩ := e d hd
  have k1 := List.all_eq_true.mp hue_all _ (List.mem_range.mpr la)
  have k2 := List.all_eq_true.mp k1 _ (List.mem_range.mpr lb)
  have k3 := List.all_eq_true.mp k2 _ (List.mem_range.mpr lc)
  have k4 := List.all_eq_true.mp k3 _ (List.mem_range.mpr ld)
  rw [← ea, ← eb, ← ec, ← ed, h1, h2] at k4
  simp only [beq_self_eq_true, Bool.and_self, Bool.not_true, Bool.false_or, Bool.and_eq_true, beq_iff_eq] at k4
  exact ⟨ea.trans ((congrArg (fun t => Int.ofNat t - 2) k4.1).trans ec.symm), eb.trans ((congrArg (fun t => Int.ofNat t - 2) k4.2).trans ed.symm)⟩
theorem chr_inj {a b c d : Int} (h1 : 5990 * a - 2773 * b = 5990 * c - 2773 * d) (h2 : 2130 * a - 5251 * b = 2130 * c - 5251 * d) : a = c ∧ b = d := by omega
end Mine
end
/-! part S6 -/
section
open PySem PySem.W PyProof.Rows PySem.Calls
set_option Elab.async false
set_option maxRecDepth 100000
set_option maxHeartbeats 8000000
set_option linter.unusedSimpArgs false
namespace Mine

theorem kw12 : True := by
  w_top off
  k_with_none
  k_with "mine ne" => first | (with_reducible first | assumption | (refine Ne.symm ?_; assumption)) | (with_reducible ((repeat (first | (rename ((_ ≠ _ ∧ _) ∧ _) => hZk; obtain ⟨_, _⟩ := hZk) | (rename (_ ≠ _ ∧ _) => hZk; obtain ⟨_, _⟩ := hZk))); first | assumption | (refine Ne.symm ?_; assumption))) | ((repeat (refine Mine.aS ?_)); (first | refine Nat.ne_of_lt ?_ | refine Nat.ne_of_gt ?_); (repeat (first | exact Mine.lA _ | refine Mine.lB ?_)); done) | (with_reducible ((repeat (rename (@LT.lt _ _ _ _ ∧ _) => hZk; obtain ⟨_, _⟩ := hZk)); first | (refine Nat.ne_of_lt ?_; assumption) | (refine Nat.ne_of_gt ?_; assumption)))
  k_with "mine enter" => (k_dflt (refine' enter ?k1Zk ?k8Zk ?k6Zk ?k7Zk ?k9Zk ?kBZk ?c5Zk ?c2Zk ?c3Zk ?c4Zk ?_; (case k1Zk => assumption); (case k6Zk => k_is); (case k7Zk => k_is); (case k8Zk => (dsimp only [Ar, recursionLimit]; first | with_reducible exact Mine.dU0 (by assumption) | with_reducible exact Mine.dU1 (by assumption) (by decide) | with_reducible exact Mine.dU2 (by assumption) (by decide) | omega)); (case k9Zk => exact BindsTo.of_eq rfl); (case c5Zk => decide); (case kBZk => exact locs rfl); (case c2Zk => exact rfl); (case c3Zk => exact rfl); (case c4Zk => exact rfl); k_whole; intro L'Zk h'Zk F'Zk N'Zk B'Zk X'Zk T'Zk; (try dsimp only); (try k_fold)))
  trivial
theorem divmod_ok {prog : Program} {w : World} {A : Around} {E : Value → Shared → Prop} {s : Shared} {Q : Value → Shared → Prop} {h₀ : Heap} {L : Addr} {m : Str → Option Value} {news : List (Addr × Obj)} {a b : Int} {t u : Tok}
    (F : Fr h₀ L s.heap m) (N : News h₀ L s.heap news) (hb : b ≠ 0) (hl : b.natAbs.log2 < 9000)
    (h : ∀ x t' u' h', Fr h₀ L h' m → News h₀ L h' ((x, tup2i (a.fdiv b) (a.fmod b) t' u') :: news) → Q (.ref x) { s with toks := s.toks + 1 + 1, heap := h' }) :
    wpAny (model prog w) A (call (.builtin "divmod") [.int a t, .int b u]) Q E s :=
  divmod_N F N hb (fun h' F' N' => h _ _ _ h' F' N') (Or.inl (PyProof.noPylong_of_log2 hl))
theorem kw13 : True := by
  k_with "call builtin:divmod" => ((with_reducible show wpAny _ _ (call (Value.builtin _) [Value.int _ _, Value.int _ _]) _ _ _); k_dflt (refine' divmod_ok ?k1Zk ?k2Zk ?k3Zk ?k4Zk ?_; (case k1Zk => k_asm); (case k2Zk => k_asm); (case k3Zk => omega); (case k4Zk => assumption); k_whole); intro x'Zk t'Zk u'Zk h'Zk F'Zk N'Zk; (try k_sweep); (try dsimp only))
  trivial
theorem div2n1n_spec (x y n : Int) (t1 t2 t3 : Tok) (hy : 0 < y) (hb : (Builtin.Int.intBits x : Int) - n ≤ 4000) (hl : y.natAbs.log2 < 9000) : Spec hd.heap_39 38 1 8 [.int x t1, .int y t2, .int n t3] (fun _ => True)
    (fun v new => ∃ a t1 t2, v = .ref a ∧ new = [(a, tup2i (x.fdiv y) (x.fmod y) t1 t2)]) := by
  intro prog w dp un gd base outer p loose mean mg mb s G hd hu hpre
  walk_at "mine enter"
  k_steps
  all_goals (refine back_tup2i (by assumption) (by assumption) rfl rfl)
end Mine
end
/-! part D1 -/
section
open PySem PySem.W PyProof.Rows PySem.Calls
set_option Elab.async false
set_option maxRecDepth 100000
set_option maxHeartbeats 8000000
set_option linter.unusedSimpArgs false
namespace Mine

theorem kw14 : True := by
  w_top off
  k_with_none
  k_with "mine ne" => first | (with_reducible first | assumption | (refine Ne.symm ?_; assumption)) | (with_reducible ((repeat (first | (rename ((_ ≠ _ ∧ _) ∧ _) => hZk; obtain ⟨_, _⟩ := hZk) | (rename (_ ≠ _ ∧ _) => hZk; obtain ⟨_, _⟩ := hZk))); first | assumption | (refine Ne.symm ?_; assumption))) | ((repeat (refine Mine.aS ?_)); (first | refine Nat.ne_of_lt ?_ | refine Nat.ne_of_gt ?_); (repeat (first | exact Mine.lA _ | refine Mine.lB ?_)); done) | (with_reducible ((repeat (rename (@LT.lt _ _ _ _ ∧ _) => hZk; obtain ⟨_, _⟩ := hZk)); first | (refine Nat.ne_of_lt ?_; assumption) | (refine Nat.ne_of_gt ?_; assumption)))
  k_with "mine enter" => (k_dflt (refine' enter ?k1Zk ?k8Zk ?k6Zk ?k7Zk ?k9Zk ?kBZk ?c5Zk ?c2Zk ?c3Zk ?c4Zk ?_; (case k1Zk => assumption); (case k6Zk => k_is); (case k7Zk => k_is); (case k8Zk => (dsimp only [Ar, recursionLimit]; first | with_reducible exact Mine.dU0 (by assumption) | with_reducible exact Mine.dU1 (by assumption) (by decide) | with_reducible exact Mine.dU2 (by assumption) (by decide) | omega)); (case k9Zk => exact BindsTo.of_eq rfl); (case c5Zk => decide); (case kBZk => exact locs rfl); (case c2Zk => exact rfl); (case c3Zk => exact rfl); (case c4Zk => exact rfl); k_whole; intro L'Zk h'Zk F'Zk N'Zk B'Zk X'Zk T'Zk; (try dsimp only); (try k_fold)))
  trivial
/-- the data of the def at an address of the written heap, of a def in a body -/
def fdAt (K : Frag) (a : Addr) : FuncData := match K.lookup a with
  | some ⟨_, _, .func fd, _⟩ => fd
  | _ => default
def bodyOf (fd : FuncData) : List Stmt := match fd.body with
  | .stmts b => b
  | _ => []
structure Def where
  name : Str
  params : Arguments
  body : List Stmt
  scope : Scope
  pos : Pos
def defIn (b : List Stmt) (i : Nat) : Def := match b[i]? with
  | some (.FunctionDef n a b _ _ _ sc _ _ pos) => ⟨n, a, b, sc, pos⟩
  | _ => ⟨default, default, [], default, default⟩
/-- the inner def of _digits2int, of _int2digits -/
noncomputable def dInn (P : Params) : Def := by
  refine Subtype.val (p := fun D => defIn (bodyOf (fdAt (hd.heap_39 P) 59)) 0 = D) ⟨?d, ?h⟩
  case h =>
    conv => lhs; whnf
noncomputable def iInn (P : Params) : Def := by
  refine Subtype.val (p := fun D => defIn (bodyOf (fdAt (hd.heap_39 P) 52)) 1 = D) ⟨?d, ?h⟩
  case h =>
    conv => lhs; whnf

section
variable {prog : Program} {w : World} {A : Around} {base : Heap} {outer : List Env} {p : Program} {loose : List Str} {mean : ExcName → Option Value} {mg mb : Str → Option Value} {s : Shared} {K : Frag}
  {name qual : Str} {params : Arguments} {body : List Stmt} {scope : Scope} {doc pm ctv : Value} {f c' : Addr} {cl : List (Str × Addr)} {args : List Value} {binds : List (Str × Value)}
  {Q : Value → Shared → Prop} {E : Value → Shared → Prop}

/-- a def that the call has made is entered -/
theorem enterN (G : Gd K A base outer p loose mean mg mb s.heap) (hroom : A.depth < recursionLimit)
    (ho : s.heap.get? f = some (fnMade name qual params body scope cl doc pm c' ctv)) (hcd : s.heap.CodeRec (.ref c') qual)
    (hbind : BindsTo s (fnX name qual params body scope cl .none .none doc pm none (.ref c') ctv) ⟨args, []⟩ binds) (hloc : ∀ y ∈ binds, scope.names.lookup y.1 = some .local)
    (hcell : ∀ x ∈ scope.names, x.2 ≠ .cell) (hco : scope.isCoroutine = false) (hgen : scope.isGenerator = false) (hk : scope.kind = .function)
    (h : ∀ L h₁, Fr s.heap L h₁ (fun y => binds.reverse.lookup y) → News s.heap L h₁ [] → Below A base outer s.heap → K.In s.heap → Top p loose mean mg mb s.heap →
      wpAny (model prog w) (A.deeper (envX qual scope L f (.ref c') cl)) (execs body (envX qual scope L f (.ref c') cl))
        (fun fl s' => Q (match fl with | .ret v => v | _ => .none) s') (fun _ _ => False) { s with heap := h₁, toks := s.toks + binds.length }) :
    wpAny (model prog w) A (call (.ref f) args) Q E s := by
  refine wpAny_call ?_
  refine codeAny_call_def (fd := fnX name qual params body scope cl .none .none doc pm none (.ref c') ctv) (body := body) (binds := binds) hroom ho rfl G.top.nolimit hcd rfl hbind hcell hloc (fun h₁ hns hk₁ => ?_) hco hgen hk
  exact wpAny_mono (h s.heap.objs.size h₁ ⟨hns, hk₁, Nat.le_refl _⟩ News.nil G.below G.k G.top) (fun _ _ y => y) (fun _ _ y => y.elim)

variable {h₀ : Heap} {L a : Addr} {m : Str → Option Value} {cn : Str} {cs : Scope} {ccd : Value} {x : Str} {pos : Pos} {c : Addr} {v : Value} {M : Model}
/-- a captured name, its cell in the ground -/
theorem nameB (F : Fr h₀ L s.heap m) (hc : cl.lookup x = some c) (ho : h₀.IsCell c (some v)) (h : Q v s)
    (hk : cs.kind = .function := by rfl) (hx : (envX cn cs L a ccd cl).kindOf x = some .free := by rfl) (hb : (x == ("__debug__" : Str)) = false := by decide) (hn : (x == ("__classdict__" : Str)) = false := by decide) :
    wpAny M A (eval (.Name x pos) (envX cn cs L a ccd cl)) Q E s :=
  wpAny_Name (wpAny_loadName_free hk hx hc (let ⟨o, e, d⟩ := ho; ⟨o, F.keep _ _ e, d⟩) h hn) hb
end
theorem bits_le {a : Int} {k : Nat} (h : a.natAbs < 2 ^ k) : Builtin.Int.intBits a ≤ k := by
  unfold Builtin.Int.intBits
  split
  · exact Nat.zero_le _
  · rename_i h0
    have h1 : a.natAbs ≠ 0 := fun q => h0 (by simp; omega)
    exact (Nat.log2_lt h1).mpr h
section
variable {prog : Program} {w : World} {A : Around} {E : Value → Shared → Prop} {s : Shared} {Q : Value → Shared → Prop} {a n : Int} {t u : Tok}
theorem shl_ok (hn : 0 ≤ n) (hn2 : n ≤ 1000) (ha : a.natAbs < 2 ^ 1000) (h : Q (.int (a * 2 ^ n.toNat) s.toks) { s with toks := s.toks + 1 }) : wpAny (model prog w) A (binaryOp .LShift (.int a t) (.int n u)) Q E s :=
  lshift_int hn (by have := bits_le ha; omega) h
end
theorem nocell {l : List (Str × NameKind)} (h : (l.all fun x => x.2 != .cell) = true) : ∀ x ∈ l, x.2 ≠ .cell := fun x hx q => by
  have := List.all_eq_true.mp h x hx
  rw [q] at this
  exact absurd this (by decide)
theorem ite_eq {a b : Int} {p q : Prop} (e : a = b) (h : p) : if (a == b) = true then p else q := by rw [if_pos (beq_iff_eq.mpr e)]; exact h
theorem ite_ne {a b : Int} {p q : Prop} (e : a ≠ b) (h : q) : if (a == b) = true then p else q := by rw [if_neg (fun x => e (beq_iff_eq.mp x))]; exact h
/-- a made inner def stands at f, its cells in cl -/
structure InnAt (D : Def) (qual : Str) (cl : List (Str × Addr)) (f : Addr) (h : Heap) : Prop where
  ex : ∃ doc pm c' ctv, h.get? f = some (fnMade D.name qual D.params D.body D.scope cl doc pm c' ctv) ∧ h.CodeRec (.ref c') qual
theorem InnAt.keeps {D : Def} {qual : Str} {cl : List (Str × Addr)} {f : Addr} {h h' : Heap} (x : InnAt D qual cl f h) (k : Keep h h') : InnAt D qual cl f h' :=
  ⟨let ⟨doc, pm, c', ctv, e, r⟩ := x.ex; ⟨doc, pm, c', ctv, k _ _ e, r.keeps k⟩⟩

theorem freshNil {h h' : Heap} : Fresh h h' [] := fun _ q => nomatch q
theorem back0 {s : Shared} {L : Addr} {m : Str → Option Value} {h' : Heap} {tk' : Nat} {Post : Value → List (Addr × Obj) → Prop} {v : Value} (F : Fr s.heap L h' m) (hp : Post v []) : Back s Post v { s with heap := h', toks := tk' } := ⟨h', tk', [], rfl, F.keep, freshNil, hp⟩
theorem isCell_keeps {h h' : Heap} {c : Addr} {v : Option Value} (x : h.IsCell c v) (k : Keep h h') : h'.IsCell c v := let ⟨o, e, d⟩ := x; ⟨o, k _ _ e, d⟩
theorem isList_keeps {h h' : Heap} {c : Addr} {v : Array Value} (x : h.IsList c v) (k : Keep h h') : h'.IsList c v := let ⟨o, e, d⟩ := x; ⟨o, k _ _ e, d⟩
section
variable {prog : Program} {w : World} {A : Around} {E : Value → Shared → Prop} {s : Shared} {Q : Value → Shared → Prop} {a b n : Int} {t u : Tok}
theorem shr1 (h : Q (.int (a / 2) s.toks) { s with toks := s.toks + 1 }) : wpAny (model prog w) A (binaryOp .RShift (.int a t) (.int 1 u)) Q E s := by
  refine rshift_int (by decide) ?_
  have e : a.fdiv (2 ^ (1 : Int).toNat) = a / 2 := Int.fdiv_eq_ediv_of_nonneg a (by decide)
  rw [e]; exact h
theorem mul1 (e : a = 1) (h : Q (.int b s.toks) { s with toks := s.toks + 1 }) : wpAny (model prog w) A (binaryOp .Mult (.int a t) (.int b u)) Q E s := by
  subst e
  refine mul_int ?_ (IntMulOk.of_left (by decide))
  rw [Int.one_mul]; exact h
end
theorem fnAtB {h₀ h : Heap} {L f : Addr} {m : Str → Option Value} {name qual : Str} {params : Arguments} {body : List Stmt} {scope : Scope} {cl : List (Str × Addr)} {doc pm ctv : Value} {c' : Addr}
    (F : Fr h₀ L h m) (hf : h₀.get? f = some (fnMade name qual params body scope cl doc pm c' ctv)) : FnAt f h := ⟨_, _, _, _, F.keep _ _ hf⟩
/-- what inner of _digits2int wants -/
structure DPre (P : Params) (qual : Str) (cl : List (Str × Addr)) (f l : Addr) (ds : List Value) (n : Int) (h : Heap) : Prop where
  inn : InnAt (dInn P) qual cl f h
  digits : ∃ c, cl.lookup (Str.ofString "digits") = some c ∧ h.IsCell c (some (.ref l))
  num : ∃ c t, cl.lookup (Str.ofString "n") = some c ∧ h.IsCell c (some (.int n t))
  inner : ∃ c, cl.lookup (Str.ofString "inner") = some c ∧ h.IsCell c (some (.ref f))
  list : h.IsList l ds.toArray
theorem DPre.keeps {P : Params} {qual : Str} {cl : List (Str × Addr)} {f l : Addr} {ds : List Value} {n : Int} {h h' : Heap} (x : DPre P qual cl f l ds n h) (k : Keep h h') : DPre P qual cl f l ds n h' where
  inn := x.inn.keeps k
  digits := let ⟨c, a, b⟩ := x.digits; ⟨c, a, isCell_keeps b k⟩
  num := let ⟨c, t, a, b⟩ := x.num; ⟨c, t, a, isCell_keeps b k⟩
  inner := let ⟨c, a, b⟩ := x.inner; ⟨c, a, isCell_keeps b k⟩
  list := isList_keeps x.list k
end Mine
end
/-! part D2 -/
section
open PySem PySem.W PyProof.Rows PySem.Calls
set_option Elab.async false
set_option maxRecDepth 100000
set_option maxHeartbeats 8000000
set_option linter.unusedSimpArgs false
namespace Mine

theorem kw15 : True := by
  w_top off
  k_with_none
  k_with "mine ne" => first | (with_reducible first | assumption | (refine Ne.symm ?_; assumption)) | (with_reducible ((repeat (first | (rename ((_ ≠ _ ∧ _) ∧ _) => hZk; obtain ⟨_, _⟩ := hZk) | (rename (_ ≠ _ ∧ _) => hZk; obtain ⟨_, _⟩ := hZk))); first | assumption | (refine Ne.symm ?_; assumption))) | ((repeat (refine Mine.aS ?_)); (first | refine Nat.ne_of_lt ?_ | refine Nat.ne_of_gt ?_); (repeat (first | exact Mine.lA _ | refine Mine.lB ?_)); done) | (with_reducible ((repeat (rename (@LT.lt _ _ _ _ ∧ _) => hZk; obtain ⟨_, _⟩ := hZk)); first | (refine Nat.ne_of_lt ?_; assumption) | (refine Nat.ne_of_gt ?_; assumption)))
  k_with "mine enter" => (k_dflt (refine' enter ?k1Zk ?k8Zk ?k6Zk ?k7Zk ?k9Zk ?kBZk ?c5Zk ?c2Zk ?c3Zk ?c4Zk ?_; (case k1Zk => assumption); (case k6Zk => k_is); (case k7Zk => k_is); (case k8Zk => (dsimp only [Ar, recursionLimit]; first | with_reducible exact Mine.dU0 (by assumption) | with_reducible exact Mine.dU1 (by assumption) (by decide) | with_reducible exact Mine.dU2 (by assumption) (by decide) | omega)); (case k9Zk => exact BindsTo.of_eq rfl); (case c5Zk => decide); (case kBZk => exact locs rfl); (case c2Zk => exact rfl); (case c3Zk => exact rfl); (case c4Zk => exact rfl); k_whole; intro L'Zk h'Zk F'Zk N'Zk B'Zk X'Zk T'Zk; (try dsimp only); (try k_fold)))
  k_with "ite" => first | refine ite_eq (by omega) ?_ | refine ite_ne (by omega) ?_
  k_with "mine enterN" => (k_dflt (refine' enterN ?k1Zk ?k8Zk ?k6Zk ?k7Zk ?k9Zk ?kBZk ?c5Zk ?c2Zk ?c3Zk ?c4Zk ?_; (case k1Zk => assumption); (case k6Zk => assumption); (case k7Zk => assumption); (case k8Zk => (dsimp only [Ar, recursionLimit]; first | with_reducible exact Mine.dU0 (by assumption) | with_reducible exact Mine.dU1 (by assumption) (by decide) | with_reducible exact Mine.dU2 (by assumption) (by decide) | omega)); (case k9Zk => exact BindsTo.of_eq rfl); (case c5Zk => exact nocell rfl); (case kBZk => exact locs rfl); (case c2Zk => exact rfl); (case c3Zk => exact rfl); (case c4Zk => exact rfl); k_whole; intro L'Zk h'Zk F'Zk N'Zk B'Zk X'Zk T'Zk; (try dsimp only); (try k_fold)))
  k_with "eval Name" => (k_here; k_dflt (refine' nameB ?nFZk ?ncZk ?noZk ?_ ?naZk ?nbZk; (case naZk => rfl); (case nbZk => rfl); (case nFZk => k_asm); (case ncZk => first | assumption | rfl); (case noZk => assumption); k_whole))
  k_with "callWith ref" => (k_here; k_dflt (refine' callWith_F ?kaZk ?_; (case kaZk => (refine' fnAtB ?kcZk ?kdZk; (case kcZk => k_asm); (case kdZk => assumption))); k_whole))
  k_with "And" => ((with_reducible show FnAt _ _ ∧ _); k_dflt (refine' And.intro ?kaZk ?_; (case kaZk => (refine' fnAtB ?kcZk ?kdZk; (case kcZk => k_asm); (case kdZk => assumption)))); try dsimp only [List.nil_append, List.cons_append])
  k_with "subscriptTail Name Name ref int" => (refine' item_ok ?ilZk ?i0Zk ?ihZk ?ixZk ?_; (case ilZk => is_list); (case i0Zk => omega); (case ihZk => omega); (case ixZk => assumption))
  k_with "binaryOp RShift int int" => (refine shr1 ?_; try dsimp only)
  k_with "binaryOp Mult int int" => (refine mul1 (by omega) ?_; try dsimp only)
  k_with "binaryOp LShift int int" => (refine shl_ok (by omega) (by omega) (by assumption) ?_; try dsimp only)
  trivial
theorem dInn1 (P : Params) (qual : Str) (cl : List (Str × Addr)) (f l : Addr) (ds : List Value) (n : Int) (i j d : Int) (t1 t2 td : Tok)
    (hij : j = i + 1) (h0 : 0 ≤ i) (h9 : i < 9) (hD : Nth ds i.toNat (.int d td)) :
    Spec hd.heap_39 f 1 8 [.int i t1, .int j t2] (DPre P qual cl f l ds n) (fun v new => ∃ t, v = .int d t ∧ new = []) := by
  intro prog w dp un gd base outer p loose mean mg mb s G hd hu hpre
  obtain ⟨doc, pm, c', ctv, hf, hcr⟩ := hpre.inn.ex
  obtain ⟨c1, k1, hc1⟩ := hpre.digits
  obtain ⟨c2, tn, k2, hc2⟩ := hpre.num
  obtain ⟨c3, k3, hc3⟩ := hpre.inner
  have hl := hpre.list
  dsimp only [dInn] at hf
  walk_at "mine enterN"
  k_steps
  all_goals (exact back (by assumption) (by assumption) ⟨_, rfl, rfl⟩)
theorem nth_of {ds : List Value} {i k : Nat} {v : Value} (h : Nth ds i v) (e : i = k) : Nth ds k v := e ▸ h

theorem kw16 : True := by
  k_with "call ref" => ((with_reducible show wpAny _ _ (call (Value.ref _) [Value.int _ _, Value.int _ _]) _ _ _); k_dflt (refine' use (dInn1 _ _ _ _ _ _ _ _ _ _ _ _ _ ?wijZk ?w0Zk ?w9Zk ?wDZk) ?uBZk ?uFZk ?uNZk ?uXZk ?uTZk ?uAZk ?ufZk ?ukZk ?udZk ?uuZk ?upZk ?_; (case uBZk => k_asm); (case uFZk => k_asm); (case uNZk => k_asm); (case uXZk => k_asm); (case uTZk => k_asm); (case uAZk => exact rfl); (case ufZk => exact rfl); (case ukZk => exact rfl); (case udZk => (dsimp only; first | with_reducible exact Mine.dU0 (by assumption) | with_reducible exact Mine.dU1 (by assumption) (by decide) | with_reducible exact Mine.dU2 (by assumption) (by decide) | omega)); (case uuZk => (dsimp only; first | with_reducible exact Mine.dU0 (by assumption) | with_reducible exact Mine.dU1 (by assumption) (by decide) | with_reducible exact Mine.dU2 (by assumption) (by decide) | omega)); (case upZk => (refine' DPre.keeps ?uaZk ?ubZk; (case ubZk => exact Fr.keep (by assumption)); (case uaZk => assumption))); (case wijZk => omega); (case w0Zk => omega); (case w9Zk => omega); (case wDZk => (first | assumption | (refine' nth_of ?waZk ?wbZk; (case waZk => assumption); (case wbZk => omega)))); k_whole; intro v'Zk h'Zk tk'Zk new'Zk F'Zk N'Zk ap'Zk P'Zk; obtain ⟨t'Zk, e1'Zk, e2'Zk⟩ := P'Zk; subst e1'Zk; subst e2'Zk; clear ap'Zk; dsimp only [List.cons_append, List.nil_append] at N'Zk; (try k_sweep); (try dsimp only)))
  trivial
theorem dInn2 (P : Params) (qual : Str) (cl : List (Str × Addr)) (f l : Addr) (ds : List Value) (n : Int) (i j d0 d1 : Int) (t1 t2 td0 td1 : Tok)
    (hij : j = i + 2) (h0 : 0 ≤ i) (h9 : i < 8) (hD0 : Nth ds i.toNat (.int d0 td0)) (hD1 : Nth ds (i + 1).toNat (.int d1 td1)) (hn0 : 0 ≤ n) (hn9 : n ≤ 1000) (hb : d1.natAbs < 2 ^ 1000) :
    Spec hd.heap_39 f 2 16 [.int i t1, .int j t2] (DPre P qual cl f l ds n) (fun v new => ∃ t, v = .int (d1 * 2 ^ n.toNat + d0) t ∧ new = []) := by
  intro prog w dp un gd base outer p loose mean mg mb s G hd hu hpre
  obtain ⟨doc, pm, c', ctv, hf, hcr⟩ := hpre.inn.ex
  obtain ⟨c1, k1, hc1⟩ := hpre.digits
  obtain ⟨c2, tn, k2, hc2⟩ := hpre.num
  obtain ⟨c3, k3, hc3⟩ := hpre.inner
  have hl := hpre.list
  dsimp only [dInn] at hf
  walk_at "mine enterN"
  k_steps
  all_goals (exact back (by assumption) (by assumption) ⟨_, rfl, rfl⟩)


theorem kw17 : True := by
  k_with "call ref" => ((with_reducible show wpAny _ _ (call (Value.ref _) [Value.int _ _, Value.int _ _]) _ _ _); k_dflt (refine' use (dInn2 _ _ _ _ _ _ _ _ _ _ _ _ _ _ _ ?wijZk ?w0Zk ?w9Zk ?wD0Zk ?wD1Zk ?wn0Zk ?wn9Zk ?wbZk) ?uBZk ?uFZk ?uNZk ?uXZk ?uTZk ?uAZk ?ufZk ?ukZk ?udZk ?uuZk ?upZk ?_; (case uBZk => k_asm); (case uFZk => k_asm); (case uNZk => k_asm); (case uXZk => k_asm); (case uTZk => k_asm); (case uAZk => exact rfl); (case ufZk => exact rfl); (case ukZk => exact rfl); (case udZk => (dsimp only; first | with_reducible exact Mine.dU0 (by assumption) | with_reducible exact Mine.dU1 (by assumption) (by decide) | with_reducible exact Mine.dU2 (by assumption) (by decide) | omega)); (case uuZk => (dsimp only; first | with_reducible exact Mine.dU0 (by assumption) | with_reducible exact Mine.dU1 (by assumption) (by decide) | with_reducible exact Mine.dU2 (by assumption) (by decide) | omega)); (case upZk => (refine' DPre.keeps ?uaZk ?ubZk; (case ubZk => exact Fr.keep (by assumption)); (case uaZk => assumption))); (case wijZk => omega); (case w0Zk => omega); (case w9Zk => omega); (case wD0Zk => (refine' nth_of (i := 1) ?wxZk ?wyZk; (case wyZk => omega); (case wxZk => assumption))); (case wD1Zk => (refine' nth_of (i := 2) ?wzZk ?wvZk; (case wvZk => omega); (case wzZk => assumption))); (case wn0Zk => assumption); (case wn9Zk => assumption); (case wbZk => assumption); k_whole; intro v'Zk h'Zk tk'Zk new'Zk F'Zk N'Zk ap'Zk P'Zk; obtain ⟨t'Zk, e1'Zk, e2'Zk⟩ := P'Zk; subst e1'Zk; subst e2'Zk; clear ap'Zk; dsimp only [List.cons_append, List.nil_append] at N'Zk; (try k_sweep); (try dsimp only)))
  trivial
theorem dInn3 (P : Params) (qual : Str) (cl : List (Str × Addr)) (f l : Addr) (ds : List Value) (n : Int) (j d0 d1 d2 : Int) (t1 t2 td0 td1 td2 : Tok)
    (hij : j = 3) (hD0 : Nth ds 0 (.int d0 td0)) (hD1 : Nth ds 1 (.int d1 td1)) (hD2 : Nth ds 2 (.int d2 td2)) (hn0 : 0 ≤ n) (hn9 : n ≤ 1000) (hb : d2.natAbs < 2 ^ 1000) (hb2 : (d2 * 2 ^ n.toNat + d1).natAbs < 2 ^ 1000) :
    Spec hd.heap_39 f 3 24 [.int 0 t1, .int j t2] (DPre P qual cl f l ds n) (fun v new => ∃ t, v = .int ((d2 * 2 ^ n.toNat + d1) * 2 ^ n.toNat + d0) t ∧ new = []) := by
  intro prog w dp un gd base outer p loose mean mg mb s G hd hu hpre
  obtain ⟨doc, pm, c', ctv, hf, hcr⟩ := hpre.inn.ex
  obtain ⟨c1, k1, hc1⟩ := hpre.digits
  obtain ⟨c2, tn, k2, hc2⟩ := hpre.num
  obtain ⟨c3, k3, hc3⟩ := hpre.inner
  have hl := hpre.list
  dsimp only [dInn] at hf
  walk_at "mine enterN"
  k_steps
  all_goals (exact back (by assumption) (by assumption) ⟨_, rfl, rfl⟩)
end Mine
end
/-! part D3 -/
section
open PySem PySem.W PyProof.Rows PySem.Calls
set_option Elab.async false
set_option maxRecDepth 100000
set_option maxHeartbeats 8000000
set_option linter.unusedSimpArgs false
namespace Mine

theorem kw18 : True := by
  w_top off
  k_with_none
  k_with "mine ne" => first | (with_reducible first | assumption | (refine Ne.symm ?_; assumption)) | (with_reducible ((repeat (first | (rename ((_ ≠ _ ∧ _) ∧ _) => hZk; obtain ⟨_, _⟩ := hZk) | (rename (_ ≠ _ ∧ _) => hZk; obtain ⟨_, _⟩ := hZk))); first | assumption | (refine Ne.symm ?_; assumption))) | ((repeat (refine Mine.aS ?_)); (first | refine Nat.ne_of_lt ?_ | refine Nat.ne_of_gt ?_); (repeat (first | exact Mine.lA _ | refine Mine.lB ?_)); done) | (with_reducible ((repeat (rename (@LT.lt _ _ _ _ ∧ _) => hZk; obtain ⟨_, _⟩ := hZk)); first | (refine Nat.ne_of_lt ?_; assumption) | (refine Nat.ne_of_gt ?_; assumption)))
  k_with "mine enter" => (k_dflt (refine' enter ?k1Zk ?k8Zk ?k6Zk ?k7Zk ?k9Zk ?kBZk ?c5Zk ?c2Zk ?c3Zk ?c4Zk ?_; (case k1Zk => assumption); (case k6Zk => k_is); (case k7Zk => k_is); (case k8Zk => (dsimp only [Ar, recursionLimit]; first | with_reducible exact Mine.dU0 (by assumption) | with_reducible exact Mine.dU1 (by assumption) (by decide) | with_reducible exact Mine.dU2 (by assumption) (by decide) | omega)); (case k9Zk => exact BindsTo.of_eq rfl); (case c5Zk => decide); (case kBZk => exact locs rfl); (case c2Zk => exact rfl); (case c3Zk => exact rfl); (case c4Zk => exact rfl); k_whole; intro L'Zk h'Zk F'Zk N'Zk B'Zk X'Zk T'Zk; (try dsimp only); (try k_fold)))
  trivial
section
variable {prog : Program} {w : World} {A : Around} {base : Heap} {outer : List Env} {p : Program} {loose : List Str} {mean : ExcName → Option Value} {mg mb : Str → Option Value} {s : Shared} {K : Frag}
  {name qual : Str} {params : Arguments} {body : List Stmt} {scope : Scope} {dV kV doc pm cdv ct oc : Value} {an od : Option Addr} {osl : Array (Option Value)} {f : Addr} {args : List Value} {binds : List (Str × Value)}
  {Q : Value → Shared → Prop} {E : Value → Shared → Prop} {as : List Addr} {led : List (Addr × Obj)}

/-- a def with cells is entered; what led names is laid aside -/
theorem enterC (G : Gd K A base outer p loose mean mg mb (hideAll s.heap as)) (hled : ∀ q ∈ led, s.heap.get? q.1 = some q.2 ∧ q.1 ∈ as) (hroom : A.depth < recursionLimit)
    (ho : K.lookup f = some ⟨oc, od, .func (fnOf name qual params body scope dV kV doc pm an cdv ct), osl⟩) (hcd : codeIn K cdv qual = true)
    (hbind : BindsTo s (fnOf name qual params body scope dV kV doc pm an cdv ct) ⟨args, []⟩ binds)
    (hkind : (binds.all fun y => scope.names.lookup y.1 == some .local || scope.names.lookup y.1 == some .cell) = true) (hnd : ((cellsFrom 0 scope.names []).map (·.1)).Nodup)
    (hco : scope.isCoroutine = false) (hgen : scope.isGenerator = false) (hk : scope.kind = .function)
    (h : ∀ L h₁ tk cells, Fr (hideAll s.heap as) L h₁ (bindL (envOfC qual scope L f cdv).kindOf binds fun _ => none) → News (hideAll s.heap as) L h₁ (cells ++ led) →
      CellsAre (bindC (envOfC qual scope L f cdv).kindOf binds fun _ => none) (cellsFrom (L + 1) scope.names []) cells → Below A base outer (hideAll s.heap as) → K.In (hideAll s.heap as) → Top p loose mean mg mb (hideAll s.heap as) → (∀ q ∈ led, q.1 < L) →
      wpAny (model prog w) (A.deeper (envOfC qual scope L f cdv)) (execs body (envOfC qual scope L f cdv))
        (fun fl s' => Q (match fl with | .ret v => v | _ => .none) s') (fun _ _ => False) { s with heap := h₁, toks := tk }) :
    wpAny (model prog w) A (call (.ref f) args) Q E s := by
  have KX : K.In s.heap := fun a o e => of_hideAll _ (G.k a o e)
  refine wpAny_call (codeAny_call_function hroom (KX _ _ ho) rfl hco hgen rfl (codeRec_of KX hcd) (hbind _ _ _ _ ?_))
  refine wpAny_newFunctionEnv_cells hk (kindsX hkind _) fun env' he s' x => ?_
  subst he
  refine ⟨(G.top.nolimit.keeps fun b o e => of_hideAll _ e).keeps x.toInCall.keep, codeAny_func ?_⟩
  obtain ⟨h₁, tk, rfl, _⟩ := x.done
  have hk₁ := x.toInCall.keep
  obtain ⟨cells, NC, Y⟩ := Cl.news (h₀ := s.heap) (Nat.le_refl _) fun n c hm => ⟨x.cell n c (lookup_of_mem_nodup (cellsFrom_names scope.names 0 (s.heap.objs.size + 1) [] [] rfl ▸ hnd) hm), x.above n c hm⟩
  refine wpAny_mono (h s.heap.objs.size h₁ tk cells ⟨x.toInCall.ns, fun b o e => hk₁ b o (of_hideAll _ e), Nat.le_of_eq (hideAll_size _ _)⟩ (fun q hq => ?_) Y G.below G.k G.top (fun q hq => Heap.lt_size (hled q hq).1)) (fun _ _ y => y) (fun _ _ y => y.elim)
  rcases List.mem_append.mp hq with hq | hq
  · refine ⟨(NC q hq).1, (NC q hq).2.1, ?_⟩
    cases e : (hideAll s.heap as).get? q.1 with
    | none => rfl
    | some o => have := of_hideAll _ e; rw [(NC q hq).2.2] at this; cases this
  · exact ⟨hk₁ _ _ (hled q hq).1, Nat.ne_of_lt (Heap.lt_size (hled q hq).1), hideAll_none _ (hled q hq).2⟩

variable {h₀ : Heap} {L a c P : Addr} {m : Str → Option Value} {cn : Str} {cs : Scope} {ccd : Value} {cl : List (Str × Addr)} {news : List (Addr × Obj)} {ps : Array Value} {pos : Pos} {firstLine : Nat} {clos : List (Str × Addr)} {M : Model} {c' : Addr}
/-- a def made anew whose code stands in the table, the table in the ground -/
theorem nestB (F : Fr h₀ L s.heap m) (N : News h₀ L s.heap news) (T : Top p loose mean mg mb h₀) (C : CodeHd h₀ c P) (hcd : ccd = .ref c) (hP : h₀.get? P = some (tabObj ps)) (ht : TriplesOk ps.toList) (hf : codeAmong pos ps.toList = some (.ref c'))
    (hcl : closureFor scope (envX cn cs L a ccd cl) = pure clos)
    (h : ∀ f ctv doc h' tk, Fr h₀ L h' m → News h₀ L h' ((f, fnMade name qual params body scope clos doc ((mg "__name__").getD .none) c' ctv) :: news) → (∀ q ∈ news, q.1 < f) → Q (.ref f) { s with heap := h', toks := tk }) :
    wpAny M A (makeFunction name qual params (.stmts body) scope (envX cn cs L a ccd cl) [] [] [] pos firstLine) Q E s := by
  have hPs := F.keep _ _ hP
  have hgs := T.g.keeps F.keep
  obtain ⟨bm, ob, b1, b2, b3, b4, b5, b6⟩ := T.bmain
  have hbP : bm ≠ P := by
    rintro rfl
    rw [hP] at b3; cases b3; cases b4
  have hbG : bm ≠ mainGlobals := by
    rintro rfl
    obtain ⟨o, es, ep, e, hd, _⟩ := T.g
    rw [e] at b3; cases b3; rw [hd] at b6; cases b6
  refine makeFunction_hit (mg := mg) hcl rfl hgs hcd (C.keeps F.keep) hPs ht hf ⟨bm, ob, b1, b2, hbG, hbP, F.keep _ _ b3, b4, b5, b6⟩ fun ctv doc h' tk hk hsz => ?_
  have hL : L < h'.objs.size := Nat.lt_of_lt_of_le F.ns.lt hsz
  refine h h'.objs.size ctv doc _ tk ⟨(F.ns.keeps hk).push _, fun b o e => Heap.get?_push_of_some _ (hk b o (F.keep b o e)), F.above⟩ (List.forall_mem_cons.mpr ⟨⟨Heap.get?_push_size _ rfl, Nat.ne_of_gt hL, Heap.get?_none_of_le (Nat.le_trans F.above (Nat.le_of_lt hL))⟩, fun q hq => ⟨Heap.get?_push_of_some _ (hk _ _ (N q hq).1), (N q hq).2⟩⟩)
    (fun q hq => Nat.lt_of_lt_of_le (Heap.lt_size (N q hq).1) hsz)
end

abbrev dQual : Str := (Str.ofString "_digits2int" ++ Str.ofString ".<locals>.") ++ Str.ofString "inner"
abbrev iQual : Str := (Str.ofString "_int2digits" ++ Str.ofString ".<locals>.") ++ Str.ofString "inner"
/-- the codes of the two inner defs stand in their tables -/
structure Tabs (P : Params) (h : Heap) : Prop where
  d : ∃ c, h.get? 54 = some (tabObj #[rawInt (dInn P).pos.line, rawInt (dInn P).pos.col, .ref c]) ∧ h.CodeRec (.ref c) dQual
  i : ∃ c, h.get? 47 = some (tabObj #[rawInt (iInn P).pos.line, rawInt (iInn P).pos.col, .ref c]) ∧ h.CodeRec (.ref c) iQual
theorem Tabs.keeps {P : Params} {h h' : Heap} (x : Tabs P h) (k : Keep h h') : Tabs P h' where
  d := let ⟨c, a, b⟩ := x.d; ⟨c, k _ _ a, b.keeps k⟩
  i := let ⟨c, a, b⟩ := x.i; ⟨c, k _ _ a, b.keeps k⟩
theorem DPre.of {P : Params} {qual : Str} {cl : List (Str × Addr)} {f l c1 c2 c3 c' : Addr} {ds : List Value} {n : Int} {g h : Heap} {L : Addr} {news : List (Addr × Obj)} {o1 o2 o3 : Obj} {doc pm ctv : Value} {t : Tok} (N : News g L h news) (k : Keep g h)
    (hcr : g.CodeRec (.ref c') qual) (hl : g.IsList l ds.toArray) (mf : (f, fnMade (dInn P).name qual (dInn P).params (dInn P).body (dInn P).scope cl doc pm c' ctv) ∈ news)
    (k1 : cl.lookup (Str.ofString "digits") = some c1) (m1 : (c1, o1) ∈ news) (e1 : o1.data = .cell (some (.ref l)))
    (k2 : cl.lookup (Str.ofString "n") = some c2) (m2 : (c2, o2) ∈ news) (e2 : o2.data = .cell (some (.int n t)))
    (k3 : cl.lookup (Str.ofString "inner") = some c3) (m3 : (c3, o3) ∈ news) (e3 : o3.data = .cell (some (.ref f))) : DPre P qual cl f l ds n h where
  inn := ⟨_, _, _, _, N.get mf, hcr.keeps k⟩
  digits := ⟨c1, k1, o1, N.get m1, e1⟩
  num := ⟨c2, t, k2, o2, N.get m2, e2⟩
  inner := ⟨c3, k3, o3, N.get m3, e3⟩
  list := isList_keeps hl k
end Mine
end
/-! part D4 -/
section
open PySem PySem.W PyProof.Rows PySem.Calls
set_option Elab.async false
set_option maxRecDepth 100000
set_option maxHeartbeats 8000000
set_option linter.unusedSimpArgs false
namespace Mine

theorem kw19 : True := by
  w_top off
  k_with_none
  k_with "mine ne" => first | (with_reducible first | assumption | (refine Ne.symm ?_; assumption)) | (with_reducible ((repeat (first | (rename ((_ ≠ _ ∧ _) ∧ _) => hZk; obtain ⟨_, _⟩ := hZk) | (rename (_ ≠ _ ∧ _) => hZk; obtain ⟨_, _⟩ := hZk))); first | assumption | (refine Ne.symm ?_; assumption))) | ((repeat (refine Mine.aS ?_)); (first | refine Nat.ne_of_lt ?_ | refine Nat.ne_of_gt ?_); (repeat (first | exact Mine.lA _ | refine Mine.lB ?_)); done) | (with_reducible ((repeat (rename (@LT.lt _ _ _ _ ∧ _) => hZk; obtain ⟨_, _⟩ := hZk)); first | (refine Nat.ne_of_lt ?_; assumption) | (refine Nat.ne_of_gt ?_; assumption)))
  k_with "mine enter" => (k_dflt (refine' enter ?k1Zk ?k8Zk ?k6Zk ?k7Zk ?k9Zk ?kBZk ?c5Zk ?c2Zk ?c3Zk ?c4Zk ?_; (case k1Zk => assumption); (case k6Zk => k_is); (case k7Zk => k_is); (case k8Zk => (dsimp only [Ar, recursionLimit]; first | with_reducible exact Mine.dU0 (by assumption) | with_reducible exact Mine.dU1 (by assumption) (by decide) | with_reducible exact Mine.dU2 (by assumption) (by decide) | omega)); (case k9Zk => exact BindsTo.of_eq rfl); (case c5Zk => decide); (case kBZk => exact locs rfl); (case c2Zk => exact rfl); (case c3Zk => exact rfl); (case c4Zk => exact rfl); k_whole; intro L'Zk h'Zk F'Zk N'Zk B'Zk X'Zk T'Zk; (try dsimp only); (try k_fold)))
  k_with "ite" => first | refine ite_eq (by omega) ?_ | refine ite_ne (by omega) ?_
  k_with "mine enterC" => (k_dflt (refine' enterC (as := []) (led := []) ?k1Zk ?klZk ?k8Zk ?k6Zk ?k7Zk ?k9Zk ?kBZk ?kDZk ?c2Zk ?c3Zk ?c4Zk ?_; (case k1Zk => assumption); (case klZk => exact fun _ q => nomatch q); (case k6Zk => k_is); (case k7Zk => k_is); (case k8Zk => (dsimp only [Ar, recursionLimit]; first | with_reducible exact Mine.dU0 (by assumption) | with_reducible exact Mine.dU1 (by assumption) (by decide) | with_reducible exact Mine.dU2 (by assumption) (by decide) | omega)); (case k9Zk => exact BindsTo.of_eq rfl); (case kBZk => exact rfl); (case kDZk => decide +kernel); (case c2Zk => exact rfl); (case c3Zk => exact rfl); (case c4Zk => exact rfl); k_whole; intro L'Zk h'Zk tk'Zk cells'Zk F'Zk N'Zk Y'Zk B'Zk X'Zk T'Zk l1Zk; clear l1Zk; k_cells Y'Zk; (try simp only [List.cons_append, List.nil_append, List.append_nil] at N'Zk); (try dsimp only [hideAll] at F'Zk N'Zk B'Zk X'Zk T'Zk); (try dsimp only); (try k_fold)))
  k_with "exec FunctionDef" => (k_here; k_dflt (refine' nestDef_K ?d0Zk ?k0Zk ?a0Zk ?_; (case d0Zk => exact rfl); (case k0Zk => exact rfl); (case a0Zk => exact rfl)); k_dflt (refine' nestB ?FZk ?NZk ?TZk ?CZk ?cdZk ?hPZk ?tZk ?nZk ?clZk ?_; (case FZk => k_asm); (case NZk => k_asm); (case TZk => k_asm); (case cdZk => exact rfl); (case CZk => assumption); (case hPZk => assumption); (case tZk => exact True.intro); (case nZk => exact rfl); (case clZk => exact rfl); k_whole); intro f'Zk ct'Zk dc'Zk h'Zk tk'Zk F'Zk N'Zk l1Zk; (try dsimp only at N'Zk); (try k_lt l1Zk))
  trivial
/-- the code of _digits2int's inner def stands in its table -/
abbrev TabD (P : Params) (h : Heap) : Prop := ∃ c, h.get? 54 = some (tabObj #[rawInt (dInn P).pos.line, rawInt (dInn P).pos.col, .ref c]) ∧ h.CodeRec (.ref c) dQual
theorem d2i3 (P : Params) (l : Addr) (n d0 d1 d2 : Int) (t0 t1 t2 tn : Tok) (hn0 : 0 ≤ n) (hn9 : n ≤ 1000) (hb : d2.natAbs < 2 ^ 1000) (hb2 : (d2 * 2 ^ n.toNat + d1).natAbs < 2 ^ 1000) :
    Spec hd.heap_39 59 5 50 [.ref l, .int n tn] (fun h => TabD P h ∧ h.IsList l #[.int d0 t0, .int d1 t1, .int d2 t2]) (fun v new => ∃ t, v = .int ((d2 * 2 ^ n.toNat + d1) * 2 ^ n.toNat + d0) t ∧ new = []) := by
  intro prog w dp un gd base outer p loose mean mg mb s G hd hu hpre
  obtain ⟨⟨c', hT, hcr⟩, hl⟩ := hpre
  have hC : CodeHd s.heap 58 54 := codeHd_of_K G.k (by kernel_rfl)
  dsimp only [dInn] at hT
  walk_at "mine enterC"
  k_steps
  k_dflt (refine' use (dInn3 P _ _ _ l _ n _ d0 d1 d2 _ _ t0 t1 t2 ?wij ?wD0 ?wD1 ?wD2 ?wn0 ?wn9 ?wb ?wb2) ?uB ?uF ?uN ?uX ?uT ?uA ?uf ?uk ?ud ?uu ?up ?_)
  (case uB => k_asm)
  (case uF => k_asm)
  (case uN => k_asm)
  (case uX => k_asm)
  (case uT => k_asm)
  (case uA => exact rfl)
  (case uf => exact rfl)
  (case uk => exact rfl)
  (case ud => (dsimp only; first | with_reducible exact Mine.dU0 (by assumption) | with_reducible exact Mine.dU1 (by assumption) (by decide) | with_reducible exact Mine.dU2 (by assumption) (by decide) | omega))
  (case uu => (dsimp only; first | with_reducible exact Mine.dU0 (by assumption) | with_reducible exact Mine.dU1 (by assumption) (by decide) | with_reducible exact Mine.dU2 (by assumption) (by decide) | omega))
  (case up => (refine' DPre.of (P := P) ?uaN ?uak ?uacr ?ual ?uaf ?uk1 ?um1 ?ue1 ?uk2 ?um2 ?ue2 ?uk3 ?um3 ?ue3; (case uaN => k_asm); (case uak => exact Fr.keep (by assumption)); (case uacr => assumption); (case ual => assumption); (case uaf => with_unfolding_all k_mem); (case uk1 => rfl); (case um1 => k_mem); (case ue1 => assumption); (case uk2 => rfl); (case um2 => k_mem); (case ue2 => assumption); (case uk3 => rfl); (case um3 => k_mem); (case ue3 => assumption)))
  (case wij => decide)
  (case wD0 => exact .zero)
  (case wD1 => exact .succ .zero)
  (case wD2 => exact .succ (.succ .zero))
  (case wn0 => assumption)
  (case wn9 => assumption)
  (case wb => assumption)
  (case wb2 => assumption)
  intro v' h' tk' new' F' N' ap' P'
  obtain ⟨t', rfl, rfl⟩ := P'
  exact back0 F' ⟨_, rfl, rfl⟩
theorem d2i2 (P : Params) (l : Addr) (n d0 d1 : Int) (t0 t1 tn : Tok) (hn0 : 0 ≤ n) (hn9 : n ≤ 1000) (hb : d1.natAbs < 2 ^ 1000) :
    Spec hd.heap_39 59 5 50 [.ref l, .int n tn] (fun h => Tabs P h ∧ h.IsList l #[.int d0 t0, .int d1 t1]) (fun v new => ∃ t, v = .int (d1 * 2 ^ n.toNat + d0) t ∧ new = []) := by
  intro prog w dp un gd base outer p loose mean mg mb s G hd hu hpre
  obtain ⟨⟨⟨c', hT, hcr⟩, _⟩, hl⟩ := hpre
  have hC : CodeHd s.heap 58 54 := codeHd_of_K G.k (by kernel_rfl)
  dsimp only [dInn] at hT
  walk_at "mine enterC"
  k_steps
  k_dflt (refine' use (dInn2 P _ _ _ l _ n _ _ d0 d1 _ _ t0 t1 ?wij ?w0 ?w9 ?wD0 ?wD1 ?wn0 ?wn9 ?wb) ?uB ?uF ?uN ?uX ?uT ?uA ?uf ?uk ?ud ?uu ?up ?_)
  (case uB => k_asm)
  (case uF => k_asm)
  (case uN => k_asm)
  (case uX => k_asm)
  (case uT => k_asm)
  (case uA => exact rfl)
  (case uf => exact rfl)
  (case uk => exact rfl)
  (case ud => (dsimp only; first | with_reducible exact Mine.dU0 (by assumption) | with_reducible exact Mine.dU1 (by assumption) (by decide) | with_reducible exact Mine.dU2 (by assumption) (by decide) | omega))
  (case uu => (dsimp only; first | with_reducible exact Mine.dU0 (by assumption) | with_reducible exact Mine.dU1 (by assumption) (by decide) | with_reducible exact Mine.dU2 (by assumption) (by decide) | omega))
  (case up => (refine' DPre.of (P := P) ?uaN ?uak ?uacr ?ual ?uaf ?uk1 ?um1 ?ue1 ?uk2 ?um2 ?ue2 ?uk3 ?um3 ?ue3; (case uaN => k_asm); (case uak => exact Fr.keep (by assumption)); (case uacr => assumption); (case ual => assumption); (case uaf => with_unfolding_all k_mem); (case uk1 => rfl); (case um1 => k_mem); (case ue1 => assumption); (case uk2 => rfl); (case um2 => k_mem); (case ue2 => assumption); (case uk3 => rfl); (case um3 => k_mem); (case ue3 => assumption)))
  (case wij => decide)
  (case w0 => decide)
  (case w9 => decide)
  (case wD0 => exact .zero)
  (case wD1 => exact .succ .zero)
  (case wn0 => assumption)
  (case wn9 => assumption)
  (case wb => assumption)
  intro v' h' tk' new' F' N' ap' P'
  obtain ⟨t', rfl, rfl⟩ := P'
  exact back0 F' ⟨_, rfl, rfl⟩
theorem d2i1 (P : Params) (l : Addr) (n d0 : Int) (t0 tn : Tok) (hn0 : 0 ≤ n) (hn9 : n ≤ 1000) :
    Spec hd.heap_39 59 5 50 [.ref l, .int n tn] (fun h => Tabs P h ∧ h.IsList l #[.int d0 t0]) (fun v new => ∃ t, v = .int (d0) t ∧ new = []) := by
  intro prog w dp un gd base outer p loose mean mg mb s G hd hu hpre
  obtain ⟨⟨⟨c', hT, hcr⟩, _⟩, hl⟩ := hpre
  have hC : CodeHd s.heap 58 54 := codeHd_of_K G.k (by kernel_rfl)
  dsimp only [dInn] at hT
  walk_at "mine enterC"
  k_steps
  k_dflt (refine' use (dInn1 P _ _ _ l _ n _ _ d0 _ _ t0 ?wij ?w0 ?w9 ?wD) ?uB ?uF ?uN ?uX ?uT ?uA ?uf ?uk ?ud ?uu ?up ?_)
  (case uB => k_asm)
  (case uF => k_asm)
  (case uN => k_asm)
  (case uX => k_asm)
  (case uT => k_asm)
  (case uA => exact rfl)
  (case uf => exact rfl)
  (case uk => exact rfl)
  (case ud => (dsimp only; first | with_reducible exact Mine.dU0 (by assumption) | with_reducible exact Mine.dU1 (by assumption) (by decide) | with_reducible exact Mine.dU2 (by assumption) (by decide) | omega))
  (case uu => (dsimp only; first | with_reducible exact Mine.dU0 (by assumption) | with_reducible exact Mine.dU1 (by assumption) (by decide) | with_reducible exact Mine.dU2 (by assumption) (by decide) | omega))
  (case up => (refine' DPre.of (P := P) ?uaN ?uak ?uacr ?ual ?uaf ?uk1 ?um1 ?ue1 ?uk2 ?um2 ?ue2 ?uk3 ?um3 ?ue3; (case uaN => k_asm); (case uak => exact Fr.keep (by assumption)); (case uacr => assumption); (case ual => assumption); (case uaf => with_unfolding_all k_mem); (case uk1 => rfl); (case um1 => k_mem); (case ue1 => assumption); (case uk2 => rfl); (case um2 => k_mem); (case ue2 => assumption); (case uk3 => rfl); (case um3 => k_mem); (case ue3 => assumption)))
  (case wij => decide)
  (case w0 => decide)
  (case w9 => decide)
  (case wD => exact .zero)
  intro v' h' tk' new' F' N' ap' P'
  obtain ⟨t', rfl, rfl⟩ := P'
  exact back0 F' ⟨_, rfl, rfl⟩
theorem d2i0 (P : Params) (l : Addr) (n : Int) (tn : Tok) :
    Spec hd.heap_39 59 5 50 [.ref l, .int n tn] (fun h => Tabs P h ∧ h.IsList l #[]) (fun v new => ∃ t, v = .int 0 t ∧ new = []) := by
  intro prog w dp un gd base outer p loose mean mg mb s G hd hu hpre
  obtain ⟨⟨⟨c', hT, hcr⟩, _⟩, hl⟩ := hpre
  have hC : CodeHd s.heap 58 54 := codeHd_of_K G.k (by kernel_rfl)
  dsimp only [dInn] at hT
  walk_at "mine enterC"
  k_steps
  all_goals (exact back0 (by assumption) ⟨_, rfl, rfl⟩)
end Mine
end
/-! part E1 -/
section
open PySem PySem.W PyProof.Rows PySem.Calls
set_option Elab.async false
set_option maxRecDepth 100000
set_option maxHeartbeats 8000000
set_option linter.unusedSimpArgs false
namespace Mine

theorem kw20 : True := by
  w_top off
  k_with_none
  k_with "mine ne" => first | (with_reducible first | assumption | (refine Ne.symm ?_; assumption)) | (with_reducible ((repeat (first | (rename ((_ ≠ _ ∧ _) ∧ _) => hZk; obtain ⟨_, _⟩ := hZk) | (rename (_ ≠ _ ∧ _) => hZk; obtain ⟨_, _⟩ := hZk))); first | assumption | (refine Ne.symm ?_; assumption))) | ((repeat (refine Mine.aS ?_)); (first | refine Nat.ne_of_lt ?_ | refine Nat.ne_of_gt ?_); (repeat (first | exact Mine.lA _ | refine Mine.lB ?_)); done) | (with_reducible ((repeat (rename (@LT.lt _ _ _ _ ∧ _) => hZk; obtain ⟨_, _⟩ := hZk)); first | (refine Nat.ne_of_lt ?_; assumption) | (refine Nat.ne_of_gt ?_; assumption)))
  k_with "mine enter" => (k_dflt (refine' enter ?k1Zk ?k8Zk ?k6Zk ?k7Zk ?k9Zk ?kBZk ?c5Zk ?c2Zk ?c3Zk ?c4Zk ?_; (case k1Zk => assumption); (case k6Zk => k_is); (case k7Zk => k_is); (case k8Zk => (dsimp only [Ar, recursionLimit]; first | with_reducible exact Mine.dU0 (by assumption) | with_reducible exact Mine.dU1 (by assumption) (by decide) | with_reducible exact Mine.dU2 (by assumption) (by decide) | omega)); (case k9Zk => exact BindsTo.of_eq rfl); (case c5Zk => decide); (case kBZk => exact locs rfl); (case c2Zk => exact rfl); (case c3Zk => exact rfl); (case c4Zk => exact rfl); k_whole; intro L'Zk h'Zk F'Zk N'Zk B'Zk X'Zk T'Zk; (try dsimp only); (try k_fold)))
  trivial
/-- a list is laid aside: what a def that writes it hands back -/
def BackL (s : Shared) (l : Addr) (nn : Nat) (Post : List Value → Prop) (v : Value) (s' : Shared) : Prop :=
  ∃ h' tk' ds', s' = { s with heap := h', toks := tk' } ∧ Keep (hideAll s.heap [l]) h' ∧ h'.get? l = some (listOf ds'.toArray nn) ∧ v = .none ∧ Post ds'
def SpecL (K : Params → Frag) (f : Addr) (d u : Nat) (vs : List Value) (l : Addr) (nn : Nat) (ds : List Value) (Pre : Heap → Prop) (Post : List Value → Prop) : Prop :=
  ∀ (prog : Program) (w : World) (dp un : Nat) (gd : Option (List Code)) (base : Heap) (outer : List Env) (p : Program) (loose : List Str) (mean : ExcName → Option Value) (mg mb : Str → Option Value) (s : Shared),
    Gd (K w.params) (Ar dp un gd outer) base outer p loose mean mg mb (hideAll s.heap [l]) → dp + d < 1000 → un + u < 9900 → s.heap.get? l = some (listOf ds.toArray nn) → Pre (hideAll s.heap [l]) →
    wpAny (model prog w) (Ar dp un gd outer) (call (.ref f) vs) (BackL s l nn Post) (fun _ _ => False) s
section
variable {prog : Program} {w : World} {A : Around} {base : Heap} {outer : List Env} {p : Program} {loose : List Str} {mean : ExcName → Option Value} {mg mb : Str → Option Value} {s : Shared} {K : Frag}
  {name qual : Str} {params : Arguments} {body : List Stmt} {scope : Scope} {doc pm ctv : Value} {f c' l : Addr} {cl : List (Str × Addr)} {args : List Value} {binds : List (Str × Value)} {o : Obj}
  {Q : Value → Shared → Prop} {E : Value → Shared → Prop}
theorem enterL (G : Gd K A base outer p loose mean mg mb (hideAll s.heap [l])) (hl : s.heap.get? l = some o) (hroom : A.depth < recursionLimit)
    (ho : (hideAll s.heap [l]).get? f = some (fnMade name qual params body scope cl doc pm c' ctv)) (hcd : (hideAll s.heap [l]).CodeRec (.ref c') qual)
    (hbind : BindsTo s (fnX name qual params body scope cl .none .none doc pm none (.ref c') ctv) ⟨args, []⟩ binds) (hloc : ∀ y ∈ binds, scope.names.lookup y.1 = some .local)
    (hcell : ∀ x ∈ scope.names, x.2 ≠ .cell) (hco : scope.isCoroutine = false) (hgen : scope.isGenerator = false) (hk : scope.kind = .function)
    (h : ∀ L h₁, Fr (hideAll s.heap [l]) L h₁ (fun y => binds.reverse.lookup y) → News (hideAll s.heap [l]) L h₁ [(l, o)] → Below A base outer (hideAll s.heap [l]) → K.In (hideAll s.heap [l]) → Top p loose mean mg mb (hideAll s.heap [l]) →
      wpAny (model prog w) (A.deeper (envX qual scope L f (.ref c') cl)) (execs body (envX qual scope L f (.ref c') cl))
        (fun fl s' => Q (match fl with | .ret v => v | _ => .none) s') (fun _ _ => False) { s with heap := h₁, toks := s.toks + binds.length }) :
    wpAny (model prog w) A (call (.ref f) args) Q E s := by
  have up : ∀ b x, (hideAll s.heap [l]).get? b = some x → s.heap.get? b = some x := fun b x e => of_hideAll _ e
  refine wpAny_call ?_
  refine codeAny_call_def (fd := fnX name qual params body scope cl .none .none doc pm none (.ref c') ctv) (body := body) (binds := binds) hroom (up _ _ ho) rfl (G.top.nolimit.keeps up) (hcd.keeps up) rfl hbind hcell hloc (fun h₁ hns hk₁ => ?_) hco hgen hk
  refine wpAny_mono (h s.heap.objs.size h₁ ⟨hns, fun b x e => hk₁ b x (up b x e), Nat.le_of_eq (hideAll_size _ _)⟩ (fun q hq => ?_) G.below G.k G.top) (fun _ _ y => y) (fun _ _ y => y.elim)
  obtain rfl := List.mem_singleton.mp hq
  exact ⟨hk₁ _ _ hl, Nat.ne_of_lt (Heap.lt_size hl), hideAll_none _ (List.mem_singleton.mpr rfl)⟩
theorem backL {L : Addr} {m : Str → Option Value} {h' : Heap} {tk' nn : Nat} {ds : List Value} {Post : List Value → Prop} (F : Fr (hideAll s.heap [l]) L h' m) (N : News (hideAll s.heap [l]) L h' [(l, listOf ds.toArray nn)]) (hp : Post ds) :
    BackL s l nn Post .none { s with heap := h', toks := tk' } := ⟨h', tk', ds, rfl, F.keep, (N _ (List.mem_singleton.mpr rfl)).1, rfl, hp⟩
theorem useL {Kp : Params → Frag} {d u dp un nn : Nat} {gd : Option (List Code)} {ds : List Value} {Pre : Heap → Prop} {Post : List Value → Prop} {A₀ : Around} {g : Heap} {L : Addr} {m : Str → Option Value} {rest : List (Addr × Obj)} {env : Env}
    (sp : SpecL Kp f d u args l nn ds Pre Post) (B : Below A₀ base outer g) (F : Fr g L s.heap m) (N : News g L s.heap ((l, listOf ds.toArray nn) :: rest)) (hr : ∀ q ∈ rest, q.1 ≠ l) (X : (Kp w.params).In g) (T : Top p loose mean mg mb g)
    (hA : A = Ar dp un gd (env :: outer)) (hf : env.frame = some L) (hk : env.scope.kind = .function) (hd : dp + d < 1000) (hu : un + u < 9900) (hpre : g.StaysIn (hideAll s.heap [l]) → News g L (hideAll s.heap [l]) rest → Pre (hideAll s.heap [l]))
    (h : ∀ h' tk' ds', Fr g L h' m → News g L h' ((l, listOf ds'.toArray nn) :: rest) → Post ds' → Q .none { s with heap := h', toks := tk' }) :
    wpAny (model prog w) A (call (.ref f) args) Q E s := by
  subst hA
  have hl := (N _ (.head _))
  obtain ⟨FG, BG, st, _⟩ := groundX (R := fun _ _ => True) (A := Ar dp un gd (env :: outer)) (news := [(l, listOf ds.toArray nn)]) B F (fun q hq => N q (by rw [List.mem_singleton.mp hq]; exact .head _)) rfl hf hk
  have NR : News g L (hideAll s.heap [l]) rest := fun q hq => ⟨hideAll_get _ (N q (.tail _ hq)).1 (fun z => hr q hq (List.mem_singleton.mp z)), (N q (.tail _ hq)).2⟩
  refine wpAny_mono (sp prog w dp un gd base (env :: outer) p loose mean mg mb s ⟨BG, X.keeps st, T.keeps st⟩ hd hu hl.1 (hpre st NR)) (fun v s' x => ?_) (fun _ _ y => y.elim)
  obtain ⟨h', tk', ds', rfl, k, hl', rfl, hp⟩ := x
  exact h h' tk' ds' (frKept FG k) (List.forall_mem_cons.mpr ⟨⟨hl', hl.2⟩, newsKept NR k⟩) hp
end
/-- what inner of _int2digits wants -/
structure IPre (P : Params) (qual : Str) (cl : List (Str × Addr)) (f l : Addr) (n : Int) (h : Heap) : Prop where
  inn : InnAt (iInn P) qual cl f h
  digits : ∃ c, cl.lookup (Str.ofString "a_digits") = some c ∧ h.IsCell c (some (.ref l))
  num : ∃ c t, cl.lookup (Str.ofString "n") = some c ∧ h.IsCell c (some (.int n t))
  inner : ∃ c, cl.lookup (Str.ofString "inner") = some c ∧ h.IsCell c (some (.ref f))
theorem IPre.keeps {P : Params} {qual : Str} {cl : List (Str × Addr)} {f l : Addr} {n : Int} {h h' : Heap} (x : IPre P qual cl f l n h) (k : Keep h h') : IPre P qual cl f l n h' where
  inn := x.inn.keeps k
  digits := let ⟨c, a, b⟩ := x.digits; ⟨c, a, isCell_keeps b k⟩
  num := let ⟨c, t, a, b⟩ := x.num; ⟨c, t, a, isCell_keeps b k⟩
  inner := let ⟨c, a, b⟩ := x.inner; ⟨c, a, isCell_keeps b k⟩

/-- the low figures by the exclusive or -/
theorem and_high (x k : Nat) : x &&& (x / 2 ^ k * 2 ^ k) = x / 2 ^ k * 2 ^ k := by
  apply Nat.eq_of_testBit_eq
  intro i
  rw [Nat.testBit_and, Nat.testBit_mul_two_pow, Nat.testBit_div_two_pow]
  by_cases h : k ≤ i
  · rw [show i - k + k = i by omega]; simp [h]
  · simp [h]
theorem xor_low {x : Int} {k : Nat} (h : 0 ≤ x) : Builtin.bitXor x (x / 2 ^ k * 2 ^ k) = x % 2 ^ k := by
  obtain ⟨X, rfl⟩ := Int.eq_ofNat_of_zero_le h
  have e1 : ((X : Int) / 2 ^ k * 2 ^ k) = ((X / 2 ^ k * 2 ^ k : Nat) : Int) := by simp
  have e2 : ((X : Int) % 2 ^ k) = ((X % 2 ^ k : Nat) : Int) := by simp
  rw [e1, e2, bitXor_and, bitAnd_pp (Int.natCast_nonneg _) (Int.natCast_nonneg _), Int.toNat_natCast, Int.toNat_natCast, and_high]
  have h3 := Nat.div_add_mod' X (2 ^ k)
  generalize X / 2 ^ k * 2 ^ k = q at *
  generalize X % 2 ^ k = r at *
  omega
section
variable {prog : Program} {w : World} {A : Around} {E : Value → Shared → Prop} {s : Shared} {Q : Value → Shared → Prop} {a b n : Int} {t u : Tok}
theorem shrN (hn : 0 ≤ n) (h : Q (.int (a / 2 ^ n.toNat) s.toks) { s with toks := s.toks + 1 }) : wpAny (model prog w) A (binaryOp .RShift (.int a t) (.int n u)) Q E s := by
  refine rshift_int hn ?_
  rw [Int.fdiv_eq_ediv_of_nonneg a (Int.le_of_lt (Int.pow_pos (by decide)))]; exact h
theorem shlB (hn : 0 ≤ n) (hn2 : n ≤ 1000) (h0 : 0 ≤ a) (ha : a < 2 ^ 1000) (h : Q (.int (a / 2 ^ n.toNat * 2 ^ n.toNat) s.toks) { s with toks := s.toks + 1 }) : wpAny (model prog w) A (binaryOp .LShift (.int (a / 2 ^ n.toNat) t) (.int n u)) Q E s := by
  refine shl_ok hn hn2 ?_ h
  have h1 : a / 2 ^ n.toNat ≤ a := Int.ediv_le_self _ h0
  have h2 : 0 ≤ a / 2 ^ n.toNat := Int.ediv_nonneg h0 (Int.le_of_lt (Int.pow_pos (by decide)))
  omega
theorem xorB (h0 : 0 ≤ a) (h : Q (.int (a % 2 ^ n.toNat) s.toks) { s with toks := s.toks + 1 }) : wpAny (model prog w) A (binaryOp .BitXor (.int a t) (.int (a / 2 ^ n.toNat * 2 ^ n.toNat) u)) Q E s := by
  refine xor_int ?_
  rw [xor_low h0]; exact h
end
end Mine
end
/-! part E2 -/
section
open PySem PySem.W PyProof.Rows PySem.Calls
set_option Elab.async false
set_option maxRecDepth 100000
set_option maxHeartbeats 8000000
set_option linter.unusedSimpArgs false
namespace Mine

theorem kw21 : True := by
  w_top off
  k_with_none
  k_with "mine ne" => first | (with_reducible first | assumption | (refine Ne.symm ?_; assumption)) | (with_reducible ((repeat (first | (rename ((_ ≠ _ ∧ _) ∧ _) => hZk; obtain ⟨_, _⟩ := hZk) | (rename (_ ≠ _ ∧ _) => hZk; obtain ⟨_, _⟩ := hZk))); first | assumption | (refine Ne.symm ?_; assumption))) | ((repeat (refine Mine.aS ?_)); (first | refine Nat.ne_of_lt ?_ | refine Nat.ne_of_gt ?_); (repeat (first | exact Mine.lA _ | refine Mine.lB ?_)); done) | (with_reducible ((repeat (rename (@LT.lt _ _ _ _ ∧ _) => hZk; obtain ⟨_, _⟩ := hZk)); first | (refine Nat.ne_of_lt ?_; assumption) | (refine Nat.ne_of_gt ?_; assumption)))
  k_with "mine enter" => (k_dflt (refine' enter ?k1Zk ?k8Zk ?k6Zk ?k7Zk ?k9Zk ?kBZk ?c5Zk ?c2Zk ?c3Zk ?c4Zk ?_; (case k1Zk => assumption); (case k6Zk => k_is); (case k7Zk => k_is); (case k8Zk => (dsimp only [Ar, recursionLimit]; first | with_reducible exact Mine.dU0 (by assumption) | with_reducible exact Mine.dU1 (by assumption) (by decide) | with_reducible exact Mine.dU2 (by assumption) (by decide) | omega)); (case k9Zk => exact BindsTo.of_eq rfl); (case c5Zk => decide); (case kBZk => exact locs rfl); (case c2Zk => exact rfl); (case c3Zk => exact rfl); (case c4Zk => exact rfl); k_whole; intro L'Zk h'Zk F'Zk N'Zk B'Zk X'Zk T'Zk; (try dsimp only); (try k_fold)))
  k_with "ite" => first | refine ite_eq (by omega) ?_ | refine ite_ne (by omega) ?_
  k_with "mine enterN" => (k_dflt (refine' enterN ?k1Zk ?k8Zk ?k6Zk ?k7Zk ?k9Zk ?kBZk ?c5Zk ?c2Zk ?c3Zk ?c4Zk ?_; (case k1Zk => assumption); (case k6Zk => assumption); (case k7Zk => assumption); (case k8Zk => (dsimp only [Ar, recursionLimit]; first | with_reducible exact Mine.dU0 (by assumption) | with_reducible exact Mine.dU1 (by assumption) (by decide) | with_reducible exact Mine.dU2 (by assumption) (by decide) | omega)); (case k9Zk => exact BindsTo.of_eq rfl); (case c5Zk => exact nocell rfl); (case kBZk => exact locs rfl); (case c2Zk => exact rfl); (case c3Zk => exact rfl); (case c4Zk => exact rfl); k_whole; intro L'Zk h'Zk F'Zk N'Zk B'Zk X'Zk T'Zk; (try dsimp only); (try k_fold)))
  k_with "eval Name" => (k_here; k_dflt (refine' nameB ?nFZk ?ncZk ?noZk ?_ ?naZk ?nbZk; (case naZk => rfl); (case nbZk => rfl); (case nFZk => k_asm); (case ncZk => first | assumption | rfl); (case noZk => assumption); k_whole))
  k_with "callWith ref" => (k_here; k_dflt (refine' callWith_F ?kaZk ?_; (case kaZk => (refine' fnAtB ?kcZk ?kdZk; (case kcZk => k_asm); (case kdZk => assumption))); k_whole))
  k_with "And" => ((with_reducible show FnAt _ _ ∧ _); k_dflt (refine' And.intro ?kaZk ?_; (case kaZk => (refine' fnAtB ?kcZk ?kdZk; (case kcZk => k_asm); (case kdZk => assumption)))); try dsimp only [List.nil_append, List.cons_append])
  k_with "mine enterL" => (k_dflt (refine' enterL ?k1Zk ?klZk ?k8Zk ?k6Zk ?k7Zk ?k9Zk ?kBZk ?c5Zk ?c2Zk ?c3Zk ?c4Zk ?_; (case k1Zk => assumption); (case klZk => assumption); (case k6Zk => assumption); (case k7Zk => assumption); (case k8Zk => (dsimp only [Ar, recursionLimit]; first | with_reducible exact Mine.dU0 (by assumption) | with_reducible exact Mine.dU1 (by assumption) (by decide) | with_reducible exact Mine.dU2 (by assumption) (by decide) | omega)); (case k9Zk => exact BindsTo.of_eq rfl); (case c5Zk => exact nocell rfl); (case kBZk => exact locs rfl); (case c2Zk => exact rfl); (case c3Zk => exact rfl); (case c4Zk => exact rfl); k_whole; intro L'Zk h'Zk F'Zk N'Zk B'Zk X'Zk T'Zk; (try dsimp only); (try k_fold)))
  k_with "binaryOp RShift int int" => first | (refine shr1 ?_; try dsimp only) | (refine shrN (by omega) ?_; try dsimp only)
  k_with "binaryOp Mult int int" => (refine mul1 (by omega) ?_; try dsimp only)
  k_with "binaryOp LShift int int" => (refine shlB (by omega) (by omega) (by assumption) (by assumption) ?_; try dsimp only)
  k_with "binaryOp BitXor int int" => (refine xorB (by assumption) ?_; try dsimp only)
  trivial
theorem iInn1 (P : Params) (qual : Str) (cl : List (Str × Addr)) (f l : Addr) (nn : Nat) (ds : List Value) (ns : List Int) (n x i j : Int) (tx t1 t2 : Tok)
    (hij : j = i + 1) (h0 : 0 ≤ i) (h9 : i < 9) (hi : IntsAre ds ns) (hlen : i < ns.length) :
    SpecL hd.heap_39 f 1 8 [.int x tx, .int i t1, .int j t2] l nn ds (IPre P qual cl f l n) (fun ds' => ds' = ds.set i.toNat (.int x tx)) := by
  intro prog w dp un gd base outer p loose mean mg mb s G hd hu hl hpre
  obtain ⟨doc, pm, c', ctv, hf, hcr⟩ := hpre.inn.ex
  obtain ⟨c1, k1, hc1⟩ := hpre.digits
  obtain ⟨c2, tn, k2, hc2⟩ := hpre.num
  obtain ⟨c3, k3, hc3⟩ := hpre.inner
  dsimp only [iInn] at hf
  walk_at "mine enterL"
  k_steps
  all_goals ((try dsimp only); exact backL (by assumption) (by assumption) rfl)

theorem kw22 : True := by
  k_with "call ref" => ((with_reducible show wpAny _ _ (call (Value.ref _) [Value.int _ _, Value.int _ _, Value.int _ _]) _ _ _); k_dflt (refine' useL (iInn1 _ _ _ _ _ _ _ _ _ _ _ _ _ _ _ ?wijZk ?w0Zk ?w9Zk ?wiZk ?wlZk) ?uBZk ?uFZk ?uNZk ?urZk ?uXZk ?uTZk ?uAZk ?ufZk ?ukZk ?udZk ?uuZk ?upZk ?_; (case uBZk => k_asm); (case uFZk => k_asm); (case uNZk => k_asm); (case urZk => exact fun _ q => nomatch q); (case uXZk => k_asm); (case uTZk => k_asm); (case uAZk => exact rfl); (case ufZk => exact rfl); (case ukZk => exact rfl); (case udZk => (dsimp only; first | with_reducible exact Mine.dU0 (by assumption) | with_reducible exact Mine.dU1 (by assumption) (by decide) | with_reducible exact Mine.dU2 (by assumption) (by decide) | omega)); (case uuZk => (dsimp only; first | with_reducible exact Mine.dU0 (by assumption) | with_reducible exact Mine.dU1 (by assumption) (by decide) | with_reducible exact Mine.dU2 (by assumption) (by decide) | omega)); (case upZk => (intro st'Zk n'Zk; clear n'Zk; refine' IPre.keeps ?uaZk st'Zk; (case uaZk => assumption))); (case wiZk => first | assumption | exact ints_set (by assumption) _); (case wijZk => omega); (case w0Zk => omega); (case w9Zk => omega); (case wlZk => ((try simp only [List.length_set]); omega)); k_whole; intro h'Zk tk'Zk ds'Zk F'Zk N'Zk P'Zk; subst P'Zk; (try k_sweep); (try dsimp only)))
  trivial
theorem iInn2 (P : Params) (qual : Str) (cl : List (Str × Addr)) (f l : Addr) (nn : Nat) (ds : List Value) (ns : List Int) (n x i j : Int) (tx t1 t2 : Tok)
    (hij : j = i + 2) (h0 : 0 ≤ i) (h9 : i < 8) (hi : IntsAre ds ns) (hlen : i + 1 < ns.length) (hn0 : 0 ≤ n) (hn9 : n ≤ 1000) (hx0 : 0 ≤ x) (hx9 : x < 2 ^ 1000) :
    SpecL hd.heap_39 f 2 16 [.int x tx, .int i t1, .int j t2] l nn ds (IPre P qual cl f l n) (fun ds' => ∃ ta tb, ds' = (ds.set i.toNat (.int (x % 2 ^ n.toNat) ta)).set (i + 1).toNat (.int (x / 2 ^ n.toNat) tb)) := by
  have hm : (i + j) / 2 = i + 1 := by omega
  intro prog w dp un gd base outer p loose mean mg mb s G hd hu hl hpre
  obtain ⟨doc, pm, c', ctv, hf, hcr⟩ := hpre.inn.ex
  obtain ⟨c1, k1, hc1⟩ := hpre.digits
  obtain ⟨c2, tn, k2, hc2⟩ := hpre.num
  obtain ⟨c3, k3, hc3⟩ := hpre.inner
  dsimp only [iInn] at hf
  walk_at "mine enterL"
  k_steps
  all_goals ((try dsimp only); exact backL (by assumption) (by assumption) ⟨_, _, congrArg (fun z : Int => (List.set ds i.toNat _).set z.toNat _) hm⟩)

theorem kw23 : True := by
  k_with "call ref" => ((with_reducible show wpAny _ _ (call (Value.ref _) [Value.int _ _, Value.int _ _, Value.int _ _]) _ _ _); k_dflt (refine' useL (iInn2 _ _ _ _ _ _ _ _ _ _ _ _ _ _ _ ?wijZk ?w0Zk ?w9Zk ?wiZk ?wlZk ?wn0Zk ?wn9Zk ?wx0Zk ?wx9Zk) ?uBZk ?uFZk ?uNZk ?urZk ?uXZk ?uTZk ?uAZk ?ufZk ?ukZk ?udZk ?uuZk ?upZk ?_; (case uBZk => k_asm); (case uFZk => k_asm); (case uNZk => k_asm); (case urZk => exact fun _ q => nomatch q); (case uXZk => k_asm); (case uTZk => k_asm); (case uAZk => exact rfl); (case ufZk => exact rfl); (case ukZk => exact rfl); (case udZk => (dsimp only; first | with_reducible exact Mine.dU0 (by assumption) | with_reducible exact Mine.dU1 (by assumption) (by decide) | with_reducible exact Mine.dU2 (by assumption) (by decide) | omega)); (case uuZk => (dsimp only; first | with_reducible exact Mine.dU0 (by assumption) | with_reducible exact Mine.dU1 (by assumption) (by decide) | with_reducible exact Mine.dU2 (by assumption) (by decide) | omega)); (case upZk => (intro st'Zk n'Zk; clear n'Zk; refine' IPre.keeps ?uaZk st'Zk; (case uaZk => assumption))); (case wiZk => first | assumption | exact ints_set (by assumption) _); (case wijZk => omega); (case w0Zk => omega); (case w9Zk => omega); (case wlZk => ((try simp only [List.length_set]); omega)); (case wn0Zk => assumption); (case wn9Zk => assumption); (case wx0Zk => assumption); (case wx9Zk => assumption); k_whole; intro h'Zk tk'Zk ds'Zk F'Zk N'Zk P'Zk; obtain ⟨ta'Zk, tb'Zk, e'Zk⟩ := P'Zk; subst e'Zk; (try k_sweep); (try dsimp only)))
  trivial
theorem iInn3 (P : Params) (qual : Str) (cl : List (Str × Addr)) (f l : Addr) (nn : Nat) (ds : List Value) (ns : List Int) (n x j : Int) (tx t1 t2 : Tok)
    (hij : j = 3) (hi : IntsAre ds ns) (hlen : 2 < ns.length) (hn0 : 0 ≤ n) (hn9 : n ≤ 1000) (hx0 : 0 ≤ x) (hx9 : x < 2 ^ 1000) :
    SpecL hd.heap_39 f 3 24 [.int x tx, .int 0 t1, .int j t2] l nn ds (IPre P qual cl f l n)
      (fun ds' => ∃ ta tb tc, ds' = ((ds.set 0 (.int (x % 2 ^ n.toNat) ta)).set 1 (.int (x / 2 ^ n.toNat % 2 ^ n.toNat) tb)).set 2 (.int (x / 2 ^ n.toNat / 2 ^ n.toNat) tc)) := by
  have hm : (0 + j) / 2 = 1 := by omega
  have hy0 : 0 ≤ x / 2 ^ n.toNat := Int.ediv_nonneg hx0 (Int.le_of_lt (Int.pow_pos (by decide)))
  have hy9 : x / 2 ^ n.toNat < 2 ^ 1000 := Int.lt_of_le_of_lt (Int.ediv_le_self _ hx0) hx9
  intro prog w dp un gd base outer p loose mean mg mb s G hd hu hl hpre
  obtain ⟨doc, pm, c', ctv, hf, hcr⟩ := hpre.inn.ex
  obtain ⟨c1, k1, hc1⟩ := hpre.digits
  obtain ⟨c2, tn, k2, hc2⟩ := hpre.num
  obtain ⟨c3, k3, hc3⟩ := hpre.inner
  dsimp only [iInn] at hf
  walk_at "mine enterL"
  k_steps
  all_goals ((try dsimp only); exact backL (by assumption) (by assumption) ⟨_, _, _, congrArg (fun z : Int => ((List.set ds 0 _).set z.toNat _).set (z + 1).toNat _) hm⟩)
end Mine
end
/-! part E3 -/
section
open PySem PySem.W PyProof.Rows PySem.Calls
set_option Elab.async false
set_option maxRecDepth 100000
set_option maxHeartbeats 8000000
set_option linter.unusedSimpArgs false
namespace Mine

theorem kw24 : True := by
  w_top off
  k_with_none
  k_with "mine ne" => first | (with_reducible first | assumption | (refine Ne.symm ?_; assumption)) | (with_reducible ((repeat (first | (rename ((_ ≠ _ ∧ _) ∧ _) => hZk; obtain ⟨_, _⟩ := hZk) | (rename (_ ≠ _ ∧ _) => hZk; obtain ⟨_, _⟩ := hZk))); first | assumption | (refine Ne.symm ?_; assumption))) | ((repeat (refine Mine.aS ?_)); (first | refine Nat.ne_of_lt ?_ | refine Nat.ne_of_gt ?_); (repeat (first | exact Mine.lA _ | refine Mine.lB ?_)); done) | (with_reducible ((repeat (rename (@LT.lt _ _ _ _ ∧ _) => hZk; obtain ⟨_, _⟩ := hZk)); first | (refine Nat.ne_of_lt ?_; assumption) | (refine Nat.ne_of_gt ?_; assumption)))
  k_with "mine enter" => (k_dflt (refine' enter ?k1Zk ?k8Zk ?k6Zk ?k7Zk ?k9Zk ?kBZk ?c5Zk ?c2Zk ?c3Zk ?c4Zk ?_; (case k1Zk => assumption); (case k6Zk => k_is); (case k7Zk => k_is); (case k8Zk => (dsimp only [Ar, recursionLimit]; first | with_reducible exact Mine.dU0 (by assumption) | with_reducible exact Mine.dU1 (by assumption) (by decide) | with_reducible exact Mine.dU2 (by assumption) (by decide) | omega)); (case k9Zk => exact BindsTo.of_eq rfl); (case c5Zk => decide); (case kBZk => exact locs rfl); (case c2Zk => exact rfl); (case c3Zk => exact rfl); (case c4Zk => exact rfl); k_whole; intro L'Zk h'Zk F'Zk N'Zk B'Zk X'Zk T'Zk; (try dsimp only); (try k_fold)))
  k_with "ite" => first | refine ite_eq (by omega) ?_ | refine ite_ne (by omega) ?_
  k_with "mine enterC" => (k_dflt (refine' enterC (as := []) (led := []) ?k1Zk ?klZk ?k8Zk ?k6Zk ?k7Zk ?k9Zk ?kBZk ?kDZk ?c2Zk ?c3Zk ?c4Zk ?_; (case k1Zk => assumption); (case klZk => exact fun _ q => nomatch q); (case k6Zk => k_is); (case k7Zk => k_is); (case k8Zk => (dsimp only [Ar, recursionLimit]; first | with_reducible exact Mine.dU0 (by assumption) | with_reducible exact Mine.dU1 (by assumption) (by decide) | with_reducible exact Mine.dU2 (by assumption) (by decide) | omega)); (case k9Zk => exact BindsTo.of_eq rfl); (case kBZk => exact rfl); (case kDZk => decide +kernel); (case c2Zk => exact rfl); (case c3Zk => exact rfl); (case c4Zk => exact rfl); k_whole; intro L'Zk h'Zk tk'Zk cells'Zk F'Zk N'Zk Y'Zk B'Zk X'Zk T'Zk l1Zk; clear l1Zk; k_cells Y'Zk; (try simp only [List.cons_append, List.nil_append, List.append_nil] at N'Zk); (try dsimp only [hideAll] at F'Zk N'Zk B'Zk X'Zk T'Zk); (try dsimp only); (try k_fold)))
  k_with "exec FunctionDef" => (k_here; k_dflt (refine' nestDef_K ?d0Zk ?k0Zk ?a0Zk ?_; (case d0Zk => exact rfl); (case k0Zk => exact rfl); (case a0Zk => exact rfl)); k_dflt (refine' nestB ?FZk ?NZk ?TZk ?CZk ?cdZk ?hPZk ?tZk ?nZk ?clZk ?_; (case FZk => k_asm); (case NZk => k_asm); (case TZk => k_asm); (case cdZk => exact rfl); (case CZk => assumption); (case hPZk => assumption); (case tZk => exact True.intro); (case nZk => exact rfl); (case clZk => exact rfl); k_whole); intro f'Zk ct'Zk dc'Zk h'Zk tk'Zk F'Zk N'Zk l1Zk; (try dsimp only at N'Zk); (try k_lt l1Zk))
  trivial
theorem repl_flat (v : Value) : ∀ (k : Nat) (acc : List Value), List.foldl (fun x1 x2 => x1 ++ x2) acc.toArray (List.replicate k #[v]) = (acc ++ List.replicate k v).toArray
  | 0, acc => by simp
  | k + 1, acc => by
    rw [List.replicate_succ, List.foldl_cons, show acc.toArray ++ #[v] = (acc ++ [v]).toArray from by simp, repl_flat v k, List.replicate_succ]
    simp
section
variable {prog : Program} {w : World} {A : Around} {E : Value → Shared → Prop} {s : Shared} {Q : Value → Shared → Prop} {h₀ : Heap} {L l : Addr} {m : Str → Option Value} {news : List (Addr × Obj)} {v : Value} {x : Int} {t : Tok} {nn k : Nat} {vs : List Value}
theorem mulList (F : Fr h₀ L s.heap m) (N : News h₀ L s.heap news) (hm : (l, listOf #[v] nn) ∈ news) (e : x = (k : Nat)) (hk : k ≤ 1000) (hv : List.replicate k v = vs)
    (h : ∀ a h', Fr h₀ L h' m → News h₀ L h' ((a, listOf vs.toArray 0) :: news) → (∀ q ∈ news, q.1 < a) → Q (.ref a) { s with heap := h' }) : wpAny (model prog w) A (binaryOp .Mult (.ref l) (.int x t)) Q E s := by
  subst e
  refine mul_list F N (N.get hm) (by omega) (by omega) (by simp; omega) fun h' F' N' => ?_
  refine h _ h' F' ?_ (fun q hq => Heap.lt_size (N q hq).1)
  have e2 : List.foldl (fun x1 x2 => x1 ++ x2) #[] (List.replicate (if (#[v] : Array Value).isEmpty = true then 0 else ((k : Nat) : Int).toNat) #[v]) = vs.toArray := by
    have := repl_flat v k []
    simp only [List.nil_append] at this
    rw [← hv, ← this]
    simp
  rw [e2] at N'
  exact N'
end
theorem useL1 {f : Addr} {args : List Value} {Kp : Params → Frag} {d u dp un nn : Nat} {gd : Option (List Code)} {ds : List Value} {Pre : Heap → Prop} {Post : List Value → Prop} {A A₀ : Around} {base g : Heap} {outer : List Env} {p : Program} {loose : List Str} {mean : ExcName → Option Value} {mg mb : Str → Option Value} {prog : Program} {w : World} {s : Shared} {E Q : Value → Shared → Prop} {L l : Addr} {m : Str → Option Value} {e : Addr × Obj} {rest : List (Addr × Obj)} {env : Env}
    (sp : SpecL Kp f d u args l nn ds Pre Post) (B : Below A₀ base outer g) (F : Fr g L s.heap m) (N : News g L s.heap (e :: (l, listOf ds.toArray nn) :: rest)) (hr : ∀ q ∈ e :: rest, q.1 ≠ l) (X : (Kp w.params).In g) (T : Top p loose mean mg mb g)
    (hA : A = Ar dp un gd (env :: outer)) (hf : env.frame = some L) (hk : env.scope.kind = .function) (hd : dp + d < 1000) (hu : un + u < 9900) (hpre : g.StaysIn (hideAll s.heap [l]) → News g L (hideAll s.heap [l]) (e :: rest) → Pre (hideAll s.heap [l]))
    (h : ∀ h' tk' ds', Fr g L h' m → News g L h' (e :: (l, listOf ds'.toArray nn) :: rest) → Post ds' → Q .none { s with heap := h', toks := tk' }) :
    wpAny (model prog w) A (call (.ref f) args) Q E s := by
  have sw : ∀ {h : Heap} {o : Obj}, News g L h (e :: (l, o) :: rest) ↔ News g L h ((l, o) :: e :: rest) := fun {h o} =>
    ⟨fun N q hq => N q (by simp only [List.mem_cons] at hq ⊢; exact or_left_comm.mp hq), fun N q hq => N q (by simp only [List.mem_cons] at hq ⊢; exact or_left_comm.mp hq)⟩
  exact useL sp B F (sw.mp N) hr X T hA hf hk hd hu hpre fun h' tk' ds' F' N' hp => h h' tk' ds' F' (sw.mpr N') hp
theorem IPre.of {P : Params} {qual : Str} {cl : List (Str × Addr)} {f l c1 c2 c3 c' : Addr} {n : Int} {g h : Heap} {L : Addr} {news : List (Addr × Obj)} {o1 o2 o3 : Obj} {doc pm ctv : Value} {t : Tok} (N : News g L h news) (k : g.StaysIn h)
    (hcr : g.CodeRec (.ref c') qual) (mf : (f, fnMade (iInn P).name qual (iInn P).params (iInn P).body (iInn P).scope cl doc pm c' ctv) ∈ news)
    (k1 : cl.lookup (Str.ofString "a_digits") = some c1) (m1 : (c1, o1) ∈ news) (e1 : o1.data = .cell (some (.ref l)))
    (k2 : cl.lookup (Str.ofString "n") = some c2) (m2 : (c2, o2) ∈ news) (e2 : o2.data = .cell (some (.int n t)))
    (k3 : cl.lookup (Str.ofString "inner") = some c3) (m3 : (c3, o3) ∈ news) (e3 : o3.data = .cell (some (.ref f))) : IPre P qual cl f l n h where
  inn := ⟨_, _, _, _, N.get mf, hcr.keeps k⟩
  digits := ⟨c1, k1, o1, N.get m1, e1⟩
  num := ⟨c2, t, k2, o2, N.get m2, e2⟩
  inner := ⟨c3, k3, o3, N.get m3, e3⟩
theorem back1 {s : Shared} {L : Addr} {m : Str → Option Value} {h' : Heap} {tk' : Nat} {Post : Value → List (Addr × Obj) → Prop} {v : Value} {e : Addr × Obj} {news : List (Addr × Obj)} (F : Fr s.heap L h' m) (N : News s.heap L h' news) (hm : e ∈ news) (hp : Post v [e]) :
    Back s Post v { s with heap := h', toks := tk' } := ⟨h', tk', [e], rfl, F.keep, fun q hq => by rw [List.mem_singleton.mp hq]; exact ⟨(N e hm).1, (N e hm).2.2⟩, hp⟩
theorem kw25 : True := by
  k_with "binaryOp Mult ref int" => (k_dflt (refine' mulList ?mFZk ?mNZk ?mmZk ?meZk ?mkZk ?mvZk ?_; (case mFZk => k_asm); (case mNZk => k_asm); (case mmZk => k_mem); (case meZk => assumption); (case mkZk => decide); (case mvZk => exact rfl); k_whole); intro a'Zk h'Zk F'Zk N'Zk l1Zk; (try k_lt l1Zk); (try k_sweep))
  trivial
theorem i2d3 (P : Params) (n x : Int) (tx tn : Tok) (hn0 : 0 < n) (hn9 : n ≤ 1000) (hx0 : 0 < x) (hx9 : x < 2 ^ 1000) (hk : ((Builtin.Int.intBits x : Int) + n - 1).fdiv n = ((3 : Nat) : Int)) :
    Spec hd.heap_39 52 5 50 [.int x tx, .int n tn] (fun h => Tabs P h) (fun v new => ∃ a t0 t1 t2, v = .ref a ∧ new = [(a, listOf #[.int (x % 2 ^ n.toNat) t0, .int (x / 2 ^ n.toNat % 2 ^ n.toNat) t1, .int (x / 2 ^ n.toNat / 2 ^ n.toNat) t2] 0)]) := by
  have hx0' : 0 ≤ x := by omega
  intro prog w dp un gd base outer p loose mean mg mb s G hd hu hpre
  obtain ⟨_, c', hT, hcr⟩ := hpre
  have hC : CodeHd s.heap 51 47 := codeHd_of_K G.k (by kernel_rfl)
  dsimp only [iInn] at hT
  walk_at "mine enterC"
  k_steps
  rotate_right
  · exfalso; omega
  k_dflt (refine' useL1 (iInn3 P _ _ _ _ _ _ [0, 0, 0] n x _ _ _ _ ?wij ?wi ?wl ?wn0 ?wn9 ?wx0 ?wx9) ?uB ?uF ?uN ?ur ?uX ?uT ?uA ?uf ?uk ?ud ?uu ?up ?_)
  (case uB => k_asm)
  (case uF => k_asm)
  (case uN => k_asm)
  (case ur => k_all)
  (case uX => k_asm)
  (case uT => k_asm)
  (case uA => exact rfl)
  (case uf => exact rfl)
  (case uk => exact rfl)
  (case ud => (dsimp only; first | with_reducible exact Mine.dU0 (by assumption) | with_reducible exact Mine.dU1 (by assumption) (by decide) | with_reducible exact Mine.dU2 (by assumption) (by decide) | omega))
  (case uu => (dsimp only; first | with_reducible exact Mine.dU0 (by assumption) | with_reducible exact Mine.dU1 (by assumption) (by decide) | with_reducible exact Mine.dU2 (by assumption) (by decide) | omega))
  (case up => (intro st' n'; refine' IPre.of (P := P) n' st' ?uacr ?uaf ?uk1 ?um1 ?ue1 ?uk2 ?um2 ?ue2 ?uk3 ?um3 ?ue3; (case uacr => assumption); (case uaf => with_unfolding_all k_mem); (case uk1 => rfl); (case um1 => k_mem); (case ue1 => assumption); (case uk2 => rfl); (case um2 => k_mem); (case ue2 => assumption); (case uk3 => rfl); (case um3 => k_mem); (case ue3 => assumption)))
  (case wij => decide)
  (case wi => exact .cons _ _ (.cons _ _ (.cons _ _ (.nil))))
  (case wl => decide)
  (case wn0 => omega)
  (case wn9 => assumption)
  (case wx0 => assumption)
  (case wx9 => assumption)
  intro h' tk' ds' F' N' P'
  obtain ⟨ta', tb', tc', rfl⟩ := P'
  (try k_sweep)
  k_steps
  all_goals (exact back1 (by assumption) (by assumption) (by k_mem) ⟨_, _, _, _, rfl, rfl⟩)
theorem i2d2 (P : Params) (n x : Int) (tx tn : Tok) (hn0 : 0 < n) (hn9 : n ≤ 1000) (hx0 : 0 < x) (hx9 : x < 2 ^ 1000) (hk : ((Builtin.Int.intBits x : Int) + n - 1).fdiv n = ((2 : Nat) : Int)) :
    Spec hd.heap_39 52 5 50 [.int x tx, .int n tn] (fun h => Tabs P h) (fun v new => ∃ a t0 t1, v = .ref a ∧ new = [(a, listOf #[.int (x % 2 ^ n.toNat) t0, .int (x / 2 ^ n.toNat) t1] 0)]) := by
  have hx0' : 0 ≤ x := by omega
  intro prog w dp un gd base outer p loose mean mg mb s G hd hu hpre
  obtain ⟨_, c', hT, hcr⟩ := hpre
  have hC : CodeHd s.heap 51 47 := codeHd_of_K G.k (by kernel_rfl)
  dsimp only [iInn] at hT
  walk_at "mine enterC"
  k_steps
  rotate_right
  · exfalso; omega
  k_dflt (refine' useL1 (iInn2 P _ _ _ _ _ _ [0, 0] n x _ _ _ _ _ ?wij ?w0 ?w9 ?wi ?wl ?wn0 ?wn9 ?wx0 ?wx9) ?uB ?uF ?uN ?ur ?uX ?uT ?uA ?uf ?uk ?ud ?uu ?up ?_)
  (case uB => k_asm)
  (case uF => k_asm)
  (case uN => k_asm)
  (case ur => k_all)
  (case uX => k_asm)
  (case uT => k_asm)
  (case uA => exact rfl)
  (case uf => exact rfl)
  (case uk => exact rfl)
  (case ud => (dsimp only; first | with_reducible exact Mine.dU0 (by assumption) | with_reducible exact Mine.dU1 (by assumption) (by decide) | with_reducible exact Mine.dU2 (by assumption) (by decide) | omega))
  (case uu => (dsimp only; first | with_reducible exact Mine.dU0 (by assumption) | with_reducible exact Mine.dU1 (by assumption) (by decide) | with_reducible exact Mine.dU2 (by assumption) (by decide) | omega))
  (case up => (intro st' n'; refine' IPre.of (P := P) n' st' ?uacr ?uaf ?uk1 ?um1 ?ue1 ?uk2 ?um2 ?ue2 ?uk3 ?um3 ?ue3; (case uacr => assumption); (case uaf => with_unfolding_all k_mem); (case uk1 => rfl); (case um1 => k_mem); (case ue1 => assumption); (case uk2 => rfl); (case um2 => k_mem); (case ue2 => assumption); (case uk3 => rfl); (case um3 => k_mem); (case ue3 => assumption)))
  (case wij => decide)
  (case wi => exact .cons _ _ (.cons _ _ (.nil)))
  (case wl => decide)
  (case w0 => decide)
  (case w9 => decide)
  (case wn0 => omega)
  (case wn9 => assumption)
  (case wx0 => assumption)
  (case wx9 => assumption)
  intro h' tk' ds' F' N' P'
  obtain ⟨ta', tb', rfl⟩ := P'
  (try k_sweep)
  k_steps
  all_goals (exact back1 (by assumption) (by assumption) (by k_mem) ⟨_, _, _, rfl, rfl⟩)
theorem i2d1 (P : Params) (n x : Int) (tx tn : Tok) (hn0 : 0 < n) (hn9 : n ≤ 1000) (hx0 : 0 < x) (hx9 : x < 2 ^ 1000) (hk : ((Builtin.Int.intBits x : Int) + n - 1).fdiv n = ((1 : Nat) : Int)) :
    Spec hd.heap_39 52 5 50 [.int x tx, .int n tn] (fun h => Tabs P h) (fun v new => ∃ a t0, v = .ref a ∧ new = [(a, listOf #[.int (x) t0] 0)]) := by
  have hx0' : 0 ≤ x := by omega
  intro prog w dp un gd base outer p loose mean mg mb s G hd hu hpre
  obtain ⟨_, c', hT, hcr⟩ := hpre
  have hC : CodeHd s.heap 51 47 := codeHd_of_K G.k (by kernel_rfl)
  dsimp only [iInn] at hT
  walk_at "mine enterC"
  k_steps
  rotate_right
  · exfalso; omega
  k_dflt (refine' useL1 (iInn1 P _ _ _ _ _ _ [0] n x _ _ _ _ _ ?wij ?w0 ?w9 ?wi ?wl) ?uB ?uF ?uN ?ur ?uX ?uT ?uA ?uf ?uk ?ud ?uu ?up ?_)
  (case uB => k_asm)
  (case uF => k_asm)
  (case uN => k_asm)
  (case ur => k_all)
  (case uX => k_asm)
  (case uT => k_asm)
  (case uA => exact rfl)
  (case uf => exact rfl)
  (case uk => exact rfl)
  (case ud => (dsimp only; first | with_reducible exact Mine.dU0 (by assumption) | with_reducible exact Mine.dU1 (by assumption) (by decide) | with_reducible exact Mine.dU2 (by assumption) (by decide) | omega))
  (case uu => (dsimp only; first | with_reducible exact Mine.dU0 (by assumption) | with_reducible exact Mine.dU1 (by assumption) (by decide) | with_reducible exact Mine.dU2 (by assumption) (by decide) | omega))
  (case up => (intro st' n'; refine' IPre.of (P := P) n' st' ?uacr ?uaf ?uk1 ?um1 ?ue1 ?uk2 ?um2 ?ue2 ?uk3 ?um3 ?ue3; (case uacr => assumption); (case uaf => with_unfolding_all k_mem); (case uk1 => rfl); (case um1 => k_mem); (case ue1 => assumption); (case uk2 => rfl); (case um2 => k_mem); (case ue2 => assumption); (case uk3 => rfl); (case um3 => k_mem); (case ue3 => assumption)))
  (case wij => decide)
  (case wi => exact .cons _ _ (.nil))
  (case wl => decide)
  (case w0 => decide)
  (case w9 => decide)
  intro h' tk' ds' F' N' P'
  subst P'
  (try k_sweep)
  k_steps
  all_goals (exact back1 (by assumption) (by assumption) (by k_mem) ⟨_, _, rfl, rfl⟩)
theorem i2d0 (P : Params) (n : Int) (tx tn : Tok) (hn0 : 0 < n) (hn9 : n ≤ 1000) (hk : ((Builtin.Int.intBits 0 : Int) + n - 1).fdiv n = ((0 : Nat) : Int)) :
    Spec hd.heap_39 52 5 50 [.int 0 tx, .int n tn] (fun h => Tabs P h) (fun v new => ∃ a, v = .ref a ∧ new = [(a, listOf #[] 0)]) := by
  intro prog w dp un gd base outer p loose mean mg mb s G hd hu hpre
  obtain ⟨_, c', hT, hcr⟩ := hpre
  have hC : CodeHd s.heap 51 47 := codeHd_of_K G.k (by kernel_rfl)
  dsimp only [iInn] at hT
  walk_at "mine enterC"
  k_steps
  all_goals (first | (exact back1 (by assumption) (by assumption) (by k_mem) ⟨_, rfl, rfl⟩) | (exfalso; omega))
end Mine
end
/-! part S7 -/
section
open PySem PySem.W PyProof.Rows PySem.Calls
set_option Elab.async false
set_option maxRecDepth 100000
set_option maxHeartbeats 8000000
set_option linter.unusedSimpArgs false
namespace Mine

theorem kw26 : True := by
  w_top off
  k_with_none
  k_with "mine ne" => first | (with_reducible first | assumption | (refine Ne.symm ?_; assumption)) | (with_reducible ((repeat (first | (rename ((_ ≠ _ ∧ _) ∧ _) => hZk; obtain ⟨_, _⟩ := hZk) | (rename (_ ≠ _ ∧ _) => hZk; obtain ⟨_, _⟩ := hZk))); first | assumption | (refine Ne.symm ?_; assumption))) | ((repeat (refine Mine.aS ?_)); (first | refine Nat.ne_of_lt ?_ | refine Nat.ne_of_gt ?_); (repeat (first | exact Mine.lA _ | refine Mine.lB ?_)); done) | (with_reducible ((repeat (rename (@LT.lt _ _ _ _ ∧ _) => hZk; obtain ⟨_, _⟩ := hZk)); first | (refine Nat.ne_of_lt ?_; assumption) | (refine Nat.ne_of_gt ?_; assumption)))
  k_with "mine enter" => (k_dflt (refine' enter ?k1Zk ?k8Zk ?k6Zk ?k7Zk ?k9Zk ?kBZk ?c5Zk ?c2Zk ?c3Zk ?c4Zk ?_; (case k1Zk => assumption); (case k6Zk => k_is); (case k7Zk => k_is); (case k8Zk => (dsimp only [Ar, recursionLimit]; first | with_reducible exact Mine.dU0 (by assumption) | with_reducible exact Mine.dU1 (by assumption) (by decide) | with_reducible exact Mine.dU2 (by assumption) (by decide) | omega)); (case k9Zk => exact BindsTo.of_eq rfl); (case c5Zk => decide); (case kBZk => exact locs rfl); (case c2Zk => exact rfl); (case c3Zk => exact rfl); (case c4Zk => exact rfl); k_whole; intro L'Zk h'Zk F'Zk N'Zk B'Zk X'Zk T'Zk; (try dsimp only); (try k_fold)))
  k_with "ite" => first | refine ite_eq (by omega) ?_ | refine ite_ne (by omega) ?_
  trivial
theorem isListOf {g h : Heap} {L l : Addr} {news : List (Addr × Obj)} {items : Array Value} {n : Nat} (N : News g L h news) (hm : (l, listOf items n) ∈ news) : h.IsList l items := ⟨_, N.get hm, rfl, n, rfl⟩
/-- what is new lies apart from the ledger -/
def AllNe (d : Nat) : List (Addr × Obj) → Prop
  | [] => True
  | p :: r => @Ne Nat p.1 d ∧ AllNe d r
theorem allNe_of {d : Addr} : ∀ {l : List (Addr × Obj)}, (∀ p ∈ l, p.1 ≠ d) → AllNe d l
  | [], _ => trivial
  | p :: _, h => ⟨h p (.head _), allNe_of fun q hq => h q (.tail _ hq)⟩
theorem apart1 {news : List (Addr × Obj)} {e : Addr × Obj} (h : ∀ q ∈ news, ∀ r ∈ [e], q.1 ≠ r.1) : AllNe e.1 news := allNe_of fun q hq => h q hq e (.head _)
theorem div2n1n (x y n : Int) (t1 t2 t3 : Tok) (hy : 0 < y) (hb : (Builtin.Int.intBits x : Int) - n ≤ 4000) (hl : y.natAbs.log2 < 9000) : Spec hd.heap_39 38 1 8 [.int x t1, .int y t2, .int n t3] (fun _ => True)
    (fun v new => ∃ a t1 t2, v = .ref a ∧ new = [(a, tup2i (x / y) (x % y) t1 t2)]) := by
  have := div2n1n_spec x y n t1 t2 t3 hy hb hl
  rwa [Int.fdiv_eq_ediv_of_nonneg _ (Int.le_of_lt hy), Int.fmod_eq_emod_of_nonneg _ (Int.le_of_lt hy)] at this
theorem bitlen {prog : Program} {w : World} {A : Around} {E : Value → Shared → Prop} {s : Shared} {Q : Value → Shared → Prop} {x N : Int} {t : Tok} (e : (Builtin.Int.intBits x : Int) = N) (h : Q (.int N s.toks) { s with toks := s.toks + 1 }) :
    wpAny (model prog w) A (call (.builtin "int.bit_length") [.int x t]) Q E s := call_int_bit_length (by rw [e]; exact h)

theorem kw27 : True := by
  k_with "call builtin:int.bit_length" => (refine bitlen (by assumption) ?_; try dsimp only)
  k_with "binaryOp LShift int int" => (refine shl_ok (by omega) (by omega) (by first | decide | assumption) ?_; try dsimp only)
  k_with "call ref" => ((with_reducible show wpAny _ _ (call (Value.ref 38) _) _ _ _); k_dflt (refine' use (div2n1n _ _ _ _ _ _ ?wyZk ?wbZk ?wlZk) ?uBZk ?uFZk ?uNZk ?uXZk ?uTZk ?uAZk ?ufZk ?ukZk ?udZk ?uuZk ?upZk ?_; (case uBZk => k_asm); (case uFZk => k_asm); (case uNZk => k_asm); (case uXZk => k_asm); (case uTZk => k_asm); (case uAZk => exact rfl); (case ufZk => exact rfl); (case ukZk => exact rfl); (case udZk => (dsimp only; first | with_reducible exact Mine.dU0 (by assumption) | with_reducible exact Mine.dU1 (by assumption) (by decide) | with_reducible exact Mine.dU2 (by assumption) (by decide) | omega)); (case uuZk => (dsimp only; first | with_reducible exact Mine.dU0 (by assumption) | with_reducible exact Mine.dU1 (by assumption) (by decide) | with_reducible exact Mine.dU2 (by assumption) (by decide) | omega)); (case wyZk => assumption); (case wbZk => assumption); (case wlZk => assumption); (case upZk => trivial); skip; k_whole; intro v'Zk h'Zk tk'Zk new'Zk F'Zk N'Zk ap'Zk P'Zk; obtain ⟨a'Zk, t1'Zk, t2'Zk, e1'Zk, e2'Zk⟩ := P'Zk; subst e1'Zk; subst e2'Zk; (try (replace ap'Zk := apart1 ap'Zk; simp only [AllNe, and_true] at ap'Zk)); (dsimp only [List.cons_append, List.nil_append] at N'Zk); (try k_sweep); (try dsimp only)))
  k_with "call ref" => ((with_reducible show wpAny _ _ (call (Value.ref 52) _) _ _ _); k_dflt (refine' use (i2d2 _ _ _ _ _ ?wn0Zk ?wn9Zk ?wx0Zk ?wx9Zk ?wkZk) ?uBZk ?uFZk ?uNZk ?uXZk ?uTZk ?uAZk ?ufZk ?ukZk ?udZk ?uuZk ?upZk ?_; (case uBZk => k_asm); (case uFZk => k_asm); (case uNZk => k_asm); (case uXZk => k_asm); (case uTZk => k_asm); (case uAZk => exact rfl); (case ufZk => exact rfl); (case ukZk => exact rfl); (case udZk => (dsimp only; first | with_reducible exact Mine.dU0 (by assumption) | with_reducible exact Mine.dU1 (by assumption) (by decide) | with_reducible exact Mine.dU2 (by assumption) (by decide) | omega)); (case uuZk => (dsimp only; first | with_reducible exact Mine.dU0 (by assumption) | with_reducible exact Mine.dU1 (by assumption) (by decide) | with_reducible exact Mine.dU2 (by assumption) (by decide) | omega)); (case wn0Zk => assumption); (case wn9Zk => assumption); (case wx0Zk => assumption); (case wx9Zk => assumption); (case wkZk => assumption); (case upZk => exact Tabs.keeps (by assumption) (Fr.keep (by assumption))); skip; k_whole; intro v'Zk h'Zk tk'Zk new'Zk F'Zk N'Zk ap'Zk P'Zk; obtain ⟨a'Zk, t1'Zk, t2'Zk, e1'Zk, e2'Zk⟩ := P'Zk; subst e1'Zk; subst e2'Zk; (try (replace ap'Zk := apart1 ap'Zk; simp only [AllNe, and_true] at ap'Zk)); (dsimp only [List.cons_append, List.nil_append] at N'Zk); (try k_sweep); (try dsimp only)))
  k_with "call ref" => ((with_reducible show wpAny _ _ (call (Value.ref 52) _) _ _ _); k_dflt (refine' use (i2d1 _ _ _ _ _ ?wn0Zk ?wn9Zk ?wx0Zk ?wx9Zk ?wkZk) ?uBZk ?uFZk ?uNZk ?uXZk ?uTZk ?uAZk ?ufZk ?ukZk ?udZk ?uuZk ?upZk ?_; (case uBZk => k_asm); (case uFZk => k_asm); (case uNZk => k_asm); (case uXZk => k_asm); (case uTZk => k_asm); (case uAZk => exact rfl); (case ufZk => exact rfl); (case ukZk => exact rfl); (case udZk => (dsimp only; first | with_reducible exact Mine.dU0 (by assumption) | with_reducible exact Mine.dU1 (by assumption) (by decide) | with_reducible exact Mine.dU2 (by assumption) (by decide) | omega)); (case uuZk => (dsimp only; first | with_reducible exact Mine.dU0 (by assumption) | with_reducible exact Mine.dU1 (by assumption) (by decide) | with_reducible exact Mine.dU2 (by assumption) (by decide) | omega)); (case wn0Zk => assumption); (case wn9Zk => assumption); (case wx0Zk => assumption); (case wx9Zk => assumption); (case wkZk => assumption); (case upZk => exact Tabs.keeps (by assumption) (Fr.keep (by assumption))); skip; k_whole; intro v'Zk h'Zk tk'Zk new'Zk F'Zk N'Zk ap'Zk P'Zk; obtain ⟨a'Zk, t1'Zk, e1'Zk, e2'Zk⟩ := P'Zk; subst e1'Zk; subst e2'Zk; (try (replace ap'Zk := apart1 ap'Zk; simp only [AllNe, and_true] at ap'Zk)); (dsimp only [List.cons_append, List.nil_append] at N'Zk); (try k_sweep); (try dsimp only)))
  k_with "call ref" => ((with_reducible show wpAny _ _ (call (Value.ref 52) _) _ _ _); k_dflt (refine' use (i2d0 _ _ _ _ ?wn0Zk ?wn9Zk ?wkZk) ?uBZk ?uFZk ?uNZk ?uXZk ?uTZk ?uAZk ?ufZk ?ukZk ?udZk ?uuZk ?upZk ?_; (case uBZk => k_asm); (case uFZk => k_asm); (case uNZk => k_asm); (case uXZk => k_asm); (case uTZk => k_asm); (case uAZk => exact rfl); (case ufZk => exact rfl); (case ukZk => exact rfl); (case udZk => (dsimp only; first | with_reducible exact Mine.dU0 (by assumption) | with_reducible exact Mine.dU1 (by assumption) (by decide) | with_reducible exact Mine.dU2 (by assumption) (by decide) | omega)); (case uuZk => (dsimp only; first | with_reducible exact Mine.dU0 (by assumption) | with_reducible exact Mine.dU1 (by assumption) (by decide) | with_reducible exact Mine.dU2 (by assumption) (by decide) | omega)); (case wn0Zk => assumption); (case wn9Zk => assumption); (case wkZk => assumption); (case upZk => exact Tabs.keeps (by assumption) (Fr.keep (by assumption))); skip; k_whole; intro v'Zk h'Zk tk'Zk new'Zk F'Zk N'Zk ap'Zk P'Zk; obtain ⟨a'Zk, e1'Zk, e2'Zk⟩ := P'Zk; subst e1'Zk; subst e2'Zk; (try (replace ap'Zk := apart1 ap'Zk; simp only [AllNe, and_true] at ap'Zk)); (dsimp only [List.cons_append, List.nil_append] at N'Zk); (try k_sweep); (try dsimp only)))
  k_with "call ref" => ((with_reducible show wpAny _ _ (call (Value.ref 59) _) _ _ _); k_dflt (refine' use (d2i1 _ _ _ _ _ _ ?wn0Zk ?wn9Zk) ?uBZk ?uFZk ?uNZk ?uXZk ?uTZk ?uAZk ?ufZk ?ukZk ?udZk ?uuZk ?upZk ?_; (case uBZk => k_asm); (case uFZk => k_asm); (case uNZk => k_asm); (case uXZk => k_asm); (case uTZk => k_asm); (case uAZk => exact rfl); (case ufZk => exact rfl); (case ukZk => exact rfl); (case udZk => (dsimp only; first | with_reducible exact Mine.dU0 (by assumption) | with_reducible exact Mine.dU1 (by assumption) (by decide) | with_reducible exact Mine.dU2 (by assumption) (by decide) | omega)); (case uuZk => (dsimp only; first | with_reducible exact Mine.dU0 (by assumption) | with_reducible exact Mine.dU1 (by assumption) (by decide) | with_reducible exact Mine.dU2 (by assumption) (by decide) | omega)); (case wn0Zk => omega); (case wn9Zk => assumption); (case upZk => (refine' And.intro ?upaZk ?upbZk; (case upaZk => exact Tabs.keeps (by assumption) (Fr.keep (by assumption))); (case upbZk => (refine' isListOf ?upcZk ?updZk; (case upcZk => k_asm); (case updZk => k_mem))))); skip; k_whole; intro v'Zk h'Zk tk'Zk new'Zk F'Zk N'Zk ap'Zk P'Zk; obtain ⟨t1'Zk, e1'Zk, e2'Zk⟩ := P'Zk; subst e1'Zk; subst e2'Zk; (try (replace ap'Zk := apart1 ap'Zk; simp only [AllNe, and_true] at ap'Zk)); (dsimp only [List.cons_append, List.nil_append] at N'Zk); (try k_sweep); (try dsimp only)))
  k_with "call ref" => ((with_reducible show wpAny _ _ (call (Value.ref 59) _) _ _ _); k_dflt (refine' use (d2i0 _ _ _ _) ?uBZk ?uFZk ?uNZk ?uXZk ?uTZk ?uAZk ?ufZk ?ukZk ?udZk ?uuZk ?upZk ?_; (case uBZk => k_asm); (case uFZk => k_asm); (case uNZk => k_asm); (case uXZk => k_asm); (case uTZk => k_asm); (case uAZk => exact rfl); (case ufZk => exact rfl); (case ukZk => exact rfl); (case udZk => (dsimp only; first | with_reducible exact Mine.dU0 (by assumption) | with_reducible exact Mine.dU1 (by assumption) (by decide) | with_reducible exact Mine.dU2 (by assumption) (by decide) | omega)); (case uuZk => (dsimp only; first | with_reducible exact Mine.dU0 (by assumption) | with_reducible exact Mine.dU1 (by assumption) (by decide) | with_reducible exact Mine.dU2 (by assumption) (by decide) | omega)); skip; (case upZk => (refine' And.intro ?upaZk ?upbZk; (case upaZk => exact Tabs.keeps (by assumption) (Fr.keep (by assumption))); (case upbZk => (refine' isListOf ?upcZk ?updZk; (case upcZk => k_asm); (case updZk => k_mem))))); skip; k_whole; intro v'Zk h'Zk tk'Zk new'Zk F'Zk N'Zk ap'Zk P'Zk; obtain ⟨t1'Zk, e1'Zk, e2'Zk⟩ := P'Zk; subst e1'Zk; subst e2'Zk; (try (replace ap'Zk := apart1 ap'Zk; simp only [AllNe, and_true] at ap'Zk)); (dsimp only [List.cons_append, List.nil_append] at N'Zk); (try k_sweep); (try dsimp only)))
  k_with "call ref" => ((with_reducible show wpAny _ _ (call (Value.ref 59) _) _ _ _); k_dflt (refine' use (d2i2 _ _ _ _ _ _ _ _ ?wn0Zk ?wn9Zk ?wbZk) ?uBZk ?uFZk ?uNZk ?uXZk ?uTZk ?uAZk ?ufZk ?ukZk ?udZk ?uuZk ?upZk ?_; (case uBZk => k_asm); (case uFZk => k_asm); (case uNZk => k_asm); (case uXZk => k_asm); (case uTZk => k_asm); (case uAZk => exact rfl); (case ufZk => exact rfl); (case ukZk => exact rfl); (case udZk => (dsimp only; first | with_reducible exact Mine.dU0 (by assumption) | with_reducible exact Mine.dU1 (by assumption) (by decide) | with_reducible exact Mine.dU2 (by assumption) (by decide) | omega)); (case uuZk => (dsimp only; first | with_reducible exact Mine.dU0 (by assumption) | with_reducible exact Mine.dU1 (by assumption) (by decide) | with_reducible exact Mine.dU2 (by assumption) (by decide) | omega)); (case wn0Zk => omega); (case wn9Zk => assumption); (case upZk => (refine' And.intro ?upaZk ?upbZk; (case upaZk => exact Tabs.keeps (by assumption) (Fr.keep (by assumption))); (case upbZk => (refine' isListOf ?upcZk ?updZk; (case upcZk => k_asm); (case updZk => k_mem))))); (case wbZk => assumption); k_whole; intro v'Zk h'Zk tk'Zk new'Zk F'Zk N'Zk ap'Zk P'Zk; obtain ⟨t1'Zk, e1'Zk, e2'Zk⟩ := P'Zk; subst e1'Zk; subst e2'Zk; (try (replace ap'Zk := apart1 ap'Zk; simp only [AllNe, and_true] at ap'Zk)); (dsimp only [List.cons_append, List.nil_append] at N'Zk); (try k_sweep); (try dsimp only)))
  trivial
theorem dpos2 (P : Params) (a b N : Int) (ta tb : Tok) (hb : 0 < b) (hN : (Builtin.Int.intBits b : Int) = N) (wn0 : 0 < N) (wn9 : N ≤ 1000) (wx0 : 0 < a) (wx9 : a < 2 ^ 1000) (wl : b.natAbs.log2 < 9000)
    (wk : ((Builtin.Int.intBits a : Int) + N - 1).fdiv N = ((2 : Nat) : Int)) (H1 : (Builtin.Int.intBits (0 * 2 ^ N.toNat + a / 2 ^ N.toNat) : Int) - N ≤ 4000)
    (H3 : ((0 * 2 ^ N.toNat + a / 2 ^ N.toNat) % b).natAbs < 2 ^ 1000) (H2 : (Builtin.Int.intBits ((0 * 2 ^ N.toNat + a / 2 ^ N.toNat) % b * 2 ^ N.toNat + a % 2 ^ N.toNat) : Int) - N ≤ 4000)
    (H4 : ((0 * 2 ^ N.toNat + a / 2 ^ N.toNat) / b).natAbs < 2 ^ 1000)
    (Hq : ((0 * 2 ^ N.toNat + a / 2 ^ N.toNat) / b) * 2 ^ N.toNat + ((0 * 2 ^ N.toNat + a / 2 ^ N.toNat) % b * 2 ^ N.toNat + a % 2 ^ N.toNat) / b = a / b) (Hr : ((0 * 2 ^ N.toNat + a / 2 ^ N.toNat) % b * 2 ^ N.toNat + a % 2 ^ N.toNat) % b = a % b) :
    Spec hd.heap_39 66 8 80 [.int a ta, .int b tb] (fun h => Tabs P h) (fun v new => ∃ x t1 t2, v = .ref x ∧ new = [(x, tup2i (a / b) (a % b) t1 t2)]) := by
  intro prog w dp un gd base outer p loose mean mg mb s G hd hu hpre
  walk_at "mine enter"
  k_steps
  all_goals (exact back_tup2i (by assumption) (by assumption) (by assumption) (by assumption))
theorem dpos1 (P : Params) (a b N : Int) (ta tb : Tok) (hb : 0 < b) (hN : (Builtin.Int.intBits b : Int) = N) (wn0 : 0 < N) (wn9 : N ≤ 1000) (wx0 : 0 < a) (wx9 : a < 2 ^ 1000) (wl : b.natAbs.log2 < 9000)
    (wk : ((Builtin.Int.intBits a : Int) + N - 1).fdiv N = ((1 : Nat) : Int)) (H1 : (Builtin.Int.intBits (0 * 2 ^ N.toNat + a) : Int) - N ≤ 4000) (Hq : (0 * 2 ^ N.toNat + a) / b = a / b) (Hr : (0 * 2 ^ N.toNat + a) % b = a % b) :
    Spec hd.heap_39 66 8 80 [.int a ta, .int b tb] (fun h => Tabs P h) (fun v new => ∃ x t1 t2, v = .ref x ∧ new = [(x, tup2i (a / b) (a % b) t1 t2)]) := by
  intro prog w dp un gd base outer p loose mean mg mb s G hd hu hpre
  walk_at "mine enter"
  k_steps
  all_goals (exact back_tup2i (by assumption) (by assumption) (by assumption) (by assumption))
theorem dpos0 (P : Params) (b N : Int) (ta tb : Tok) (hb : 0 < b) (hN : (Builtin.Int.intBits b : Int) = N) (wn0 : 0 < N) (wn9 : N ≤ 1000) (wk : ((Builtin.Int.intBits 0 : Int) + N - 1).fdiv N = ((0 : Nat) : Int)) :
    Spec hd.heap_39 66 8 80 [.int 0 ta, .int b tb] (fun h => Tabs P h) (fun v new => ∃ x t1 t2, v = .ref x ∧ new = [(x, tup2i 0 0 t1 t2)]) := by
  intro prog w dp un gd base outer p loose mean mg mb s G hd hu hpre
  walk_at "mine enter"
  k_steps
  all_goals (exact back_tup2i (by assumption) (by assumption) rfl rfl)
end Mine
end
/-! part P3 -/
section
open PySem PySem.W PyProof.Rows PySem.Calls
set_option Elab.async false
set_option maxRecDepth 100000
set_option exponentiation.threshold 2000
namespace Mine
theorem kw28 : True := by
  w_top off
  k_with_none
  k_with "mine ne" => first | (with_reducible first | assumption | (refine Ne.symm ?_; assumption)) | (with_reducible ((repeat (first | (rename ((_ ≠ _ ∧ _) ∧ _) => hZk; obtain ⟨_, _⟩ := hZk) | (rename (_ ≠ _ ∧ _) => hZk; obtain ⟨_, _⟩ := hZk))); first | assumption | (refine Ne.symm ?_; assumption))) | ((repeat (refine Mine.aS ?_)); (first | refine Nat.ne_of_lt ?_ | refine Nat.ne_of_gt ?_); (repeat (first | exact Mine.lA _ | refine Mine.lB ?_)); done) | (with_reducible ((repeat (rename (@LT.lt _ _ _ _ ∧ _) => hZk; obtain ⟨_, _⟩ := hZk)); first | (refine Nat.ne_of_lt ?_; assumption) | (refine Nat.ne_of_gt ?_; assumption)))
  trivial
theorem pow_mono {m n : Nat} (h : m ≤ n) : (2 : Int) ^ m ≤ 2 ^ n := by
  have := Nat.pow_le_pow_right (n := 2) (by decide) h
  have e1 : ((2 ^ m : Nat) : Int) = 2 ^ m := by simp
  have e2 : ((2 ^ n : Nat) : Int) = 2 ^ n := by simp
  omega
theorem bits_lt {x : Int} (h : 0 ≤ x) : x < 2 ^ (Builtin.Int.intBits x) := by
  have := (PySem.intBits_le_iff (x := x)).mp (Nat.le_refl _)
  have e : ((2 ^ (Builtin.Int.intBits x) : Nat) : Int) = 2 ^ (Builtin.Int.intBits x) := by simp
  omega
theorem bits_of_lt {x : Int} {k : Nat} (h0 : 0 ≤ x) (h : x < 2 ^ k) : Builtin.Int.intBits x ≤ k := by
  refine (PySem.intBits_le_iff (x := x)).mpr ?_
  have e : ((2 ^ k : Nat) : Int) = 2 ^ k := by simp
  omega
theorem bits_pos {x : Int} (h : 0 < x) : 0 < Builtin.Int.intBits x := by
  unfold Builtin.Int.intBits
  split
  · rename_i q; simp at q; omega
  · omega
theorem two_step {a b B : Int} (hb : 0 < b) : (a / B / b) * B + (a / B % b * B + a % B) / b = a / b ∧ (a / B % b * B + a % B) % b = a % b := by
  have e1 : a = a / B % b * B + a % B + b * (a / B / b * B) := by
    have h1 := Int.mul_ediv_add_emod a B
    have h2 := Int.mul_ediv_add_emod (a / B) b
    calc a = B * (a / B) + a % B := h1.symm
      _ = B * (b * (a / B / b) + a / B % b) + a % B := by rw [h2]
      _ = _ := by rw [Int.mul_add]; simp only [Int.mul_comm, Int.mul_left_comm, Int.add_comm, Int.add_left_comm]
  constructor
  · have : a / b = (a / B % b * B + a % B + b * (a / B / b * B)) / b := by rw [← e1]
    rw [this, Int.add_mul_ediv_left _ _ (by omega)]
    exact Int.add_comm _ _
  · have : a % b = (a / B % b * B + a % B + b * (a / B / b * B)) % b := by rw [← e1]
    rw [this, Int.add_mul_emod_self_left]
theorem dpos (P : Params) (a b : Int) (ta tb : Tok) (ha : 0 ≤ a) (hb : 0 < b) (hb9 : b < 2 ^ 400) (hab : Builtin.Int.intBits a ≤ 2 * Builtin.Int.intBits b) :
    Spec hd.heap_39 66 8 80 [.int a ta, .int b tb] (fun h => Tabs P h) (fun v new => ∃ x t1 t2, v = .ref x ∧ new = [(x, tup2i (a / b) (a % b) t1 t2)]) := by
  have hN0 := bits_pos hb
  have hN9 := bits_of_lt (Int.le_of_lt hb) hb9
  have hbN := bits_lt (Int.le_of_lt hb)
  have haN := bits_lt ha
  have wl : b.natAbs.log2 < 9000 := by
    have : Builtin.Int.intBits b = b.natAbs.log2 + 1 := by
      unfold Builtin.Int.intBits
      rw [if_neg (by simp; omega)]
    omega
  have a9 : a < 2 ^ 800 := Int.lt_of_lt_of_le haN (pow_mono (by omega))
  have wx9 : a < 2 ^ 1000 := Int.lt_of_lt_of_le a9 (by decide)
  generalize hN : Builtin.Int.intBits b = N at *
  have eN : ((N : Nat) : Int).toNat = N := by simp
  by_cases h0 : a = 0
  · subst h0
    have := dpos0 P b N ta tb hb (by rw [hN]) (by omega) (by omega) (by
      have : Builtin.Int.intBits 0 = 0 := rfl
      rw [this, Int.fdiv_eq_ediv_of_nonneg _ (by omega)]
      exact Int.ediv_eq_zero_of_lt (by omega) (by omega))
    simpa using this
  have ha0 : 0 < a := by omega
  have hA0 := bits_pos ha0
  have small : ∀ {x : Int}, 0 ≤ x → x < 2 ^ 1000 → (Builtin.Int.intBits x : Int) - (N : Int) ≤ 4000 := fun h1 h2 => by have := bits_of_lt h1 h2; omega
  by_cases h1 : Builtin.Int.intBits a ≤ N
  · refine dpos1 P a b N ta tb hb (by rw [hN]) (by omega) (by omega) ha0 wx9 wl ?_ ?_ (by simp) (by simp)
    · rw [Int.fdiv_eq_ediv_of_nonneg _ (by omega)]
      have h2 : (Builtin.Int.intBits a : Int) + N - 1 = (Builtin.Int.intBits a : Int) - 1 + N * 1 := by omega
      rw [h2, Int.add_mul_ediv_left _ _ (by omega), Int.ediv_eq_zero_of_lt (by omega) (by omega)]
      rfl
    · exact small (by simpa using ha) (by simpa using wx9)
  · have hB : (0 : Int) < 2 ^ N := Int.pow_pos (by decide)
    have hq := two_step (a := a) (B := 2 ^ N) hb
    have d0 : 0 ≤ a / 2 ^ N := Int.ediv_nonneg ha (Int.le_of_lt hB)
    have d9 : a / 2 ^ N < 2 ^ 1000 := Int.lt_of_le_of_lt (Int.ediv_le_self _ ha) wx9
    have r0 : 0 ≤ a / 2 ^ N % b := Int.emod_nonneg _ (by omega)
    have r9 : a / 2 ^ N % b < b := Int.emod_lt_of_pos _ hb
    have m0 : 0 ≤ a % 2 ^ N := Int.emod_nonneg _ (by omega)
    have m9 : a % 2 ^ N < 2 ^ N := Int.emod_lt_of_pos _ hB
    have s0 : 0 ≤ a / 2 ^ N % b * 2 ^ N + a % 2 ^ N := Int.add_nonneg (Int.mul_nonneg r0 (Int.le_of_lt hB)) m0
    have s9 : a / 2 ^ N % b * 2 ^ N + a % 2 ^ N < 2 ^ 1000 := by
      have k1 : a / 2 ^ N % b * 2 ^ N + a % 2 ^ N < b * 2 ^ N := by
        have : (a / 2 ^ N % b + 1) * 2 ^ N ≤ b * 2 ^ N := Int.mul_le_mul_of_nonneg_right (by omega) (Int.le_of_lt hB)
        rw [Int.add_mul, Int.one_mul] at this
        omega
      have k2 : (2 : Int) ^ N ≤ 2 ^ 400 := pow_mono (by omega)
      have k3 : b * 2 ^ N ≤ 2 ^ 400 * 2 ^ 400 := Int.mul_le_mul (by omega) k2 (Int.le_of_lt hB) (by decide)
      exact Int.lt_of_lt_of_le k1 (Int.le_trans k3 (by decide))
    have q0 : 0 ≤ a / 2 ^ N / b := Int.ediv_nonneg d0 (by omega)
    have q9 : a / 2 ^ N / b < 2 ^ 1000 := Int.lt_of_le_of_lt (Int.ediv_le_self _ d0) d9
    refine dpos2 P a b N ta tb hb (by rw [hN]) (by omega) (by omega) ha0 wx9 wl ?_ ?_ ?_ ?_ ?_ ?_ ?_
    · rw [Int.fdiv_eq_ediv_of_nonneg _ (by omega)]
      have h2 : (Builtin.Int.intBits a : Int) + N - 1 = (Builtin.Int.intBits a : Int) - N - 1 + N * 2 := by omega
      rw [h2, Int.add_mul_ediv_left _ _ (by omega), Int.ediv_eq_zero_of_lt (by omega) (by omega)]
      rfl
    all_goals simp only [eN, Int.zero_mul, Int.zero_add]
    · exact small d0 d9
    · omega
    · exact small s0 s9
    · omega
    · exact hq.1
    · exact hq.2
end Mine
end
/-! part S8 -/
section
open PySem PySem.W PyProof.Rows PySem.Calls
set_option Elab.async false
set_option maxRecDepth 100000
set_option maxHeartbeats 8000000
set_option linter.unusedSimpArgs false
namespace Mine

theorem kw29 : True := by
  w_top off
  k_with_none
  k_with "mine ne" => first | (with_reducible first | assumption | (refine Ne.symm ?_; assumption)) | (with_reducible ((repeat (first | (rename ((_ ≠ _ ∧ _) ∧ _) => hZk; obtain ⟨_, _⟩ := hZk) | (rename (_ ≠ _ ∧ _) => hZk; obtain ⟨_, _⟩ := hZk))); first | assumption | (refine Ne.symm ?_; assumption))) | ((repeat (refine Mine.aS ?_)); (first | refine Nat.ne_of_lt ?_ | refine Nat.ne_of_gt ?_); (repeat (first | exact Mine.lA _ | refine Mine.lB ?_)); done) | (with_reducible ((repeat (rename (@LT.lt _ _ _ _ ∧ _) => hZk; obtain ⟨_, _⟩ := hZk)); first | (refine Nat.ne_of_lt ?_; assumption) | (refine Nat.ne_of_gt ?_; assumption)))
  k_with "mine enter" => (k_dflt (refine' enter ?k1Zk ?k8Zk ?k6Zk ?k7Zk ?k9Zk ?kBZk ?c5Zk ?c2Zk ?c3Zk ?c4Zk ?_; (case k1Zk => assumption); (case k6Zk => k_is); (case k7Zk => k_is); (case k8Zk => (dsimp only [Ar, recursionLimit]; first | with_reducible exact Mine.dU0 (by assumption) | with_reducible exact Mine.dU1 (by assumption) (by decide) | with_reducible exact Mine.dU2 (by assumption) (by decide) | omega)); (case k9Zk => exact BindsTo.of_eq rfl); (case c5Zk => decide); (case kBZk => exact locs rfl); (case c2Zk => exact rfl); (case c3Zk => exact rfl); (case c4Zk => exact rfl); k_whole; intro L'Zk h'Zk F'Zk N'Zk B'Zk X'Zk T'Zk; (try dsimp only); (try k_fold)))
  k_with "ite" => first | refine ite_eq (by omega) ?_ | refine ite_ne (by omega) ?_
  k_with "call ref" => ((with_reducible show wpAny _ _ (call (Value.ref 66) _) _ _ _); k_dflt (refine' use (dpos _ _ _ _ _ ?waZk ?wbZk ?wb9Zk ?wabZk) ?uBZk ?uFZk ?uNZk ?uXZk ?uTZk ?uAZk ?ufZk ?ukZk ?udZk ?uuZk ?upZk ?_; (case uBZk => k_asm); (case uFZk => k_asm); (case uNZk => k_asm); (case uXZk => k_asm); (case uTZk => k_asm); (case uAZk => exact rfl); (case ufZk => exact rfl); (case ukZk => exact rfl); (case udZk => (dsimp only; first | with_reducible exact Mine.dU0 (by assumption) | with_reducible exact Mine.dU1 (by assumption) (by decide) | with_reducible exact Mine.dU2 (by assumption) (by decide) | omega)); (case uuZk => (dsimp only; first | with_reducible exact Mine.dU0 (by assumption) | with_reducible exact Mine.dU1 (by assumption) (by decide) | with_reducible exact Mine.dU2 (by assumption) (by decide) | omega)); (case waZk => assumption); (case wbZk => assumption); (case wb9Zk => assumption); (case wabZk => assumption); (case upZk => exact Tabs.keeps (by assumption) (Fr.keep (by assumption))); skip; k_whole; intro v'Zk h'Zk tk'Zk new'Zk F'Zk N'Zk ap'Zk P'Zk; obtain ⟨a'Zk, t1'Zk, t2'Zk, e1'Zk, e2'Zk⟩ := P'Zk; subst e1'Zk; subst e2'Zk; (try (replace ap'Zk := apart1 ap'Zk; simp only [AllNe, and_true] at ap'Zk)); (dsimp only [List.cons_append, List.nil_append] at N'Zk); (try k_sweep); (try dsimp only)))
  trivial
abbrev Pair (q r : Int) (v : Value) (new : List (Addr × Obj)) : Prop := ∃ x t1 t2, v = .ref x ∧ new = [(x, tup2i q r t1 t2)]
theorem idmP (P : Params) (a b : Int) (ta tb : Tok) (ha : 0 ≤ a) (hb : 0 < b) (hb9 : b < 2 ^ 400) (hab : Builtin.Int.intBits a ≤ 2 * Builtin.Int.intBits b) :
    Spec hd.heap_39 73 10 100 [.int a ta, .int b tb] (fun h => Tabs P h) (Pair (a / b) (a % b)) := by
  intro prog w dp un gd base outer p loose mean mg mb s G hd hu hpre
  walk_at "mine enter"
  k_steps
  all_goals (exact back_tup2i (by assumption) (by assumption) rfl rfl)

theorem kw30 : True := by
  k_with "call ref" => ((with_reducible show wpAny _ _ (call (Value.ref 73) _) _ _ _); k_dflt (refine' use (idmP _ _ _ _ _ ?waZk ?wbZk ?wb9Zk ?wabZk) ?uBZk ?uFZk ?uNZk ?uXZk ?uTZk ?uAZk ?ufZk ?ukZk ?udZk ?uuZk ?upZk ?_; (case uBZk => k_asm); (case uFZk => k_asm); (case uNZk => k_asm); (case uXZk => k_asm); (case uTZk => k_asm); (case uAZk => exact rfl); (case ufZk => exact rfl); (case ukZk => exact rfl); (case udZk => (dsimp only; first | with_reducible exact Mine.dU0 (by assumption) | with_reducible exact Mine.dU1 (by assumption) (by decide) | with_reducible exact Mine.dU2 (by assumption) (by decide) | omega)); (case uuZk => (dsimp only; first | with_reducible exact Mine.dU0 (by assumption) | with_reducible exact Mine.dU1 (by assumption) (by decide) | with_reducible exact Mine.dU2 (by assumption) (by decide) | omega)); (case waZk => assumption); (case wbZk => assumption); (case wb9Zk => assumption); (case wabZk => assumption); (case upZk => exact Tabs.keeps (by assumption) (Fr.keep (by assumption))); skip; k_whole; intro v'Zk h'Zk tk'Zk new'Zk F'Zk N'Zk ap'Zk P'Zk; obtain ⟨a'Zk, t1'Zk, t2'Zk, e1'Zk, e2'Zk⟩ := P'Zk; subst e1'Zk; subst e2'Zk; (try (replace ap'Zk := apart1 ap'Zk; simp only [AllNe, and_true] at ap'Zk)); (dsimp only [List.cons_append, List.nil_append] at N'Zk); (try k_sweep); (try dsimp only)))
  trivial
theorem idmN (P : Params) (a b : Int) (ta tb : Tok) (ha : a < 0) (hb : 0 < b) (hb9 : b < 2 ^ 400) (ha' : 0 ≤ Builtin.bitNot a) (hab : Builtin.Int.intBits (Builtin.bitNot a) ≤ 2 * Builtin.Int.intBits b)
    (e1 : Builtin.bitNot (Builtin.bitNot a / b) = a / b) (e2 : b + Builtin.bitNot (Builtin.bitNot a % b) = a % b) :
    Spec hd.heap_39 73 11 110 [.int a ta, .int b tb] (fun h => Tabs P h) (Pair (a / b) (a % b)) := by
  intro prog w dp un gd base outer p loose mean mg mb s G hd hu hpre
  walk_at "mine enter"
  k_steps
  all_goals (exact back_tup2i (by assumption) (by assumption) (by assumption) (by assumption))
end Mine
end
/-! part S9 -/
section
open PySem PySem.W PyProof.Rows PySem.Calls
set_option Elab.async false
set_option maxRecDepth 100000
set_option maxHeartbeats 8000000
set_option linter.unusedSimpArgs false
namespace Mine

theorem kw31 : True := by
  w_top off
  k_with_none
  k_with "mine ne" => first | (with_reducible first | assumption | (refine Ne.symm ?_; assumption)) | (with_reducible ((repeat (first | (rename ((_ ≠ _ ∧ _) ∧ _) => hZk; obtain ⟨_, _⟩ := hZk) | (rename (_ ≠ _ ∧ _) => hZk; obtain ⟨_, _⟩ := hZk))); first | assumption | (refine Ne.symm ?_; assumption))) | ((repeat (refine Mine.aS ?_)); (first | refine Nat.ne_of_lt ?_ | refine Nat.ne_of_gt ?_); (repeat (first | exact Mine.lA _ | refine Mine.lB ?_)); done) | (with_reducible ((repeat (rename (@LT.lt _ _ _ _ ∧ _) => hZk; obtain ⟨_, _⟩ := hZk)); first | (refine Nat.ne_of_lt ?_; assumption) | (refine Nat.ne_of_gt ?_; assumption)))
  k_with "mine enter" => (k_dflt (refine' enter ?k1Zk ?k8Zk ?k6Zk ?k7Zk ?k9Zk ?kBZk ?c5Zk ?c2Zk ?c3Zk ?c4Zk ?_; (case k1Zk => assumption); (case k6Zk => k_is); (case k7Zk => k_is); (case k8Zk => (dsimp only [Ar, recursionLimit]; first | with_reducible exact Mine.dU0 (by assumption) | with_reducible exact Mine.dU1 (by assumption) (by decide) | with_reducible exact Mine.dU2 (by assumption) (by decide) | omega)); (case k9Zk => exact BindsTo.of_eq rfl); (case c5Zk => decide); (case kBZk => exact locs rfl); (case c2Zk => exact rfl); (case c3Zk => exact rfl); (case c4Zk => exact rfl); k_whole; intro L'Zk h'Zk F'Zk N'Zk B'Zk X'Zk T'Zk; (try dsimp only); (try k_fold)))
  k_with "ite" => first | refine ite_eq (by omega) ?_ | refine ite_ne (by omega) ?_
  trivial
theorem floor_neg {a b : Int} (hb : 0 < b) : Builtin.bitNot (Builtin.bitNot a / b) = a / b ∧ b + Builtin.bitNot (Builtin.bitNot a % b) = a % b := by
  unfold Builtin.bitNot
  have k1 := Int.mul_ediv_add_emod (-a - 1) b
  have k2 := Int.emod_nonneg (-a - 1) (b := b) (by omega)
  have k3 := Int.emod_lt_of_pos (-a - 1) hb
  generalize (-a - 1) / b = q at *
  generalize (-a - 1) % b = r at *
  have e : a = (b - r - 1) + b * (-q - 1) := by rw [Int.mul_sub, Int.mul_neg, Int.mul_one]; omega
  have z := Int.ediv_eq_zero_of_lt (a := b - r - 1) (b := b) (by omega) (by omega)
  have y := Int.emod_eq_of_lt (a := b - r - 1) (b := b) (by omega) (by omega)
  constructor
  · rw [e, Int.add_mul_ediv_left _ _ (by omega), z]; omega
  · rw [e, Int.add_mul_emod_self_left, y]; omega
/-- int_divmod by a divisor above nought -/
theorem idm (P : Params) (a b : Int) (ta tb : Tok) (hb : 0 < b) (hb9 : b < 2 ^ 400) (ha0 : -2 ^ (2 * Builtin.Int.intBits b) ≤ a) (ha9 : a < 2 ^ (2 * Builtin.Int.intBits b)) :
    Spec hd.heap_39 73 11 110 [.int a ta, .int b tb] (fun h => Tabs P h) (Pair (a / b) (a % b)) := by
  by_cases h : 0 ≤ a
  · exact fun prog w dp un gd base outer p loose mean mg mb s G hd hu => idmP P a b ta tb h hb hb9 (bits_of_lt h ha9) prog w dp un gd base outer p loose mean mg mb s G (by omega) (by omega)
  · have h1 : 0 ≤ Builtin.bitNot a := by unfold Builtin.bitNot; omega
    exact idmN P a b ta tb (by omega) hb hb9 h1 (bits_of_lt h1 (by unfold Builtin.bitNot; omega)) (floor_neg hb).1 (floor_neg hb).2

theorem kw32 : True := by
  k_with "call ref" => ((with_reducible show wpAny _ _ (call (Value.ref 73) _) _ _ _); k_dflt (refine' use (idm _ _ _ _ _ ?wbZk ?wb9Zk ?wa0Zk ?wa9Zk) ?uBZk ?uFZk ?uNZk ?uXZk ?uTZk ?uAZk ?ufZk ?ukZk ?udZk ?uuZk ?upZk ?_; (case uBZk => k_asm); (case uFZk => k_asm); (case uNZk => k_asm); (case uXZk => k_asm); (case uTZk => k_asm); (case uAZk => exact rfl); (case ufZk => exact rfl); (case ukZk => exact rfl); (case udZk => (dsimp only; first | with_reducible exact Mine.dU0 (by assumption) | with_reducible exact Mine.dU1 (by assumption) (by decide) | with_reducible exact Mine.dU2 (by assumption) (by decide) | omega)); (case uuZk => (dsimp only; first | with_reducible exact Mine.dU0 (by assumption) | with_reducible exact Mine.dU1 (by assumption) (by decide) | with_reducible exact Mine.dU2 (by assumption) (by decide) | omega)); (case wbZk => first | assumption | omega); (case wb9Zk => first | assumption | omega); (case wa0Zk => assumption); (case wa9Zk => assumption); (case upZk => exact Tabs.keeps (by assumption) (Fr.keep (by assumption))); skip; k_whole; intro v'Zk h'Zk tk'Zk new'Zk F'Zk N'Zk ap'Zk P'Zk; obtain ⟨a'Zk, t1'Zk, t2'Zk, e1'Zk, e2'Zk⟩ := P'Zk; subst e1'Zk; subst e2'Zk; (try (replace ap'Zk := apart1 ap'Zk; simp only [AllNe, and_true] at ap'Zk)); (dsimp only [List.cons_append, List.nil_append] at N'Zk); (try k_sweep); (try dsimp only)))
  trivial
/-- and by one below -/
theorem idmB (P : Params) (a b : Int) (ta tb : Tok) (hb : b < 0) (hb9 : -b < 2 ^ 400) (ha0 : -2 ^ (2 * Builtin.Int.intBits (-b)) ≤ -a) (ha9 : -a < 2 ^ (2 * Builtin.Int.intBits (-b))) :
    Spec hd.heap_39 73 13 130 [.int a ta, .int b tb] (fun h => Tabs P h) (Pair ((-a) / (-b)) (-((-a) % (-b)))) := by
  intro prog w dp un gd base outer p loose mean mg mb s G hd hu hpre
  walk_at "mine enter"
  k_steps
  all_goals (exact back_tup2i (by assumption) (by assumption) rfl rfl)

theorem kw33 : True := by
  k_with "call ref" => ((with_reducible show wpAny _ _ (call (Value.ref 73) _) _ _ _); k_dflt (refine' use (idmB _ _ _ _ _ ?wbZk ?wb9Zk ?wa0Zk ?wa9Zk) ?uBZk ?uFZk ?uNZk ?uXZk ?uTZk ?uAZk ?ufZk ?ukZk ?udZk ?uuZk ?upZk ?_; (case uBZk => k_asm); (case uFZk => k_asm); (case uNZk => k_asm); (case uXZk => k_asm); (case uTZk => k_asm); (case uAZk => exact rfl); (case ufZk => exact rfl); (case ukZk => exact rfl); (case udZk => (dsimp only; first | with_reducible exact Mine.dU0 (by assumption) | with_reducible exact Mine.dU1 (by assumption) (by decide) | with_reducible exact Mine.dU2 (by assumption) (by decide) | omega)); (case uuZk => (dsimp only; first | with_reducible exact Mine.dU0 (by assumption) | with_reducible exact Mine.dU1 (by assumption) (by decide) | with_reducible exact Mine.dU2 (by assumption) (by decide) | omega)); (case wbZk => first | assumption | omega); (case wb9Zk => first | assumption | omega); (case wa0Zk => assumption); (case wa9Zk => assumption); (case upZk => exact Tabs.keeps (by assumption) (Fr.keep (by assumption))); skip; k_whole; intro v'Zk h'Zk tk'Zk new'Zk F'Zk N'Zk ap'Zk P'Zk; obtain ⟨a'Zk, t1'Zk, t2'Zk, e1'Zk, e2'Zk⟩ := P'Zk; subst e1'Zk; subst e2'Zk; (try (replace ap'Zk := apart1 ap'Zk; simp only [AllNe, and_true] at ap'Zk)); (dsimp only [List.cons_append, List.nil_append] at N'Zk); (try k_sweep); (try dsimp only)))
  trivial
theorem mulS {prog : Program} {w : World} {A : Around} {E : Value → Shared → Prop} {s : Shared} {Q : Value → Shared → Prop} {a b : Int} {t u : Tok} (ha : a.natAbs < 2 ^ 1000) (hb : b.natAbs < 2 ^ 1000) (h : Q (.int (a * b) s.toks) { s with toks := s.toks + 1 }) : wpAny (model prog w) A (binaryOp .Mult (.int a t) (.int b u)) Q E s :=
  mul_int h (IntMulOk.of_bits (Nat.le_trans (bits_le ha) (by decide)) (Nat.le_trans (bits_le hb) (by decide)))
theorem kw34 : True := by
  k_with "binaryOp Mult int int" => (refine mulS (by assumption) (by assumption) ?_; try dsimp only)
  trivial
theorem boolEnd {s : Shared} {L : Addr} {m : Str → Option Value} {h' : Heap} {tk' : Nat} {b : Bool} (F : Fr s.heap L h' m) (e : b = true) : Back s (fun v new => v = .bool true ∧ new = []) (.bool b) { s with heap := h', toks := tk' } := by
  subst e; exact back0 F ⟨rfl, rfl⟩
theorem divsP (P : Params) (a b : Int) (ta tb : Tok) (hb : 0 < b) (hb9 : b < 2 ^ 400) (ha0 : -2 ^ (2 * Builtin.Int.intBits b) ≤ a) (ha9 : a < 2 ^ (2 * Builtin.Int.intBits b)) (H1 : (a / b).natAbs < 2 ^ 1000) (H2 : b.natAbs < 2 ^ 1000)
    (e1 : a / b * b + a % b = a) (e2 : 0 ≤ a % b) (e3 : a % b < b) :
    Spec hd.heap_39 151 15 150 [.int a ta, .int b tb] (fun h => Tabs P h) (fun v new => v = .bool true ∧ new = []) := by
  intro prog w dp un gd base outer p loose mean mg mb s G hd hu hpre
  walk_at "mine enter"
  k_steps
  all_goals (exact boolEnd (by assumption) (decide_eq_true (by assumption)))
theorem divsB (P : Params) (a b : Int) (ta tb : Tok) (hb : b < 0) (hb9 : -b < 2 ^ 400) (ha0 : -2 ^ (2 * Builtin.Int.intBits (-b)) ≤ -a) (ha9 : -a < 2 ^ (2 * Builtin.Int.intBits (-b))) (H1 : ((-a) / (-b)).natAbs < 2 ^ 1000) (H2 : b.natAbs < 2 ^ 1000)
    (e1 : (-a) / (-b) * b + -((-a) % (-b)) = a) (e2 : b < -((-a) % (-b))) (e3 : -((-a) % (-b)) ≤ 0) :
    Spec hd.heap_39 151 15 150 [.int a ta, .int b tb] (fun h => Tabs P h) (fun v new => v = .bool true ∧ new = []) := by
  intro prog w dp un gd base outer p loose mean mg mb s G hd hu hpre
  walk_at "mine enter"
  k_steps
  all_goals (exact boolEnd (by assumption) (decide_eq_true (by assumption)))
/-- _law_divides, whatever the signs -/
theorem divs (P : Params) (a b : Int) (ta tb : Tok) (hb0 : b ≠ 0) (hb9 : b.natAbs < 2 ^ 400) (ha9 : a.natAbs < 2 ^ (2 * Builtin.Int.intBits b)) :
    Spec hd.heap_39 151 15 150 [.int a ta, .int b tb] (fun h => Tabs P h) (fun v new => v = .bool true ∧ new = []) := by
  have hB := bits_le hb9
  have eN : ((2 ^ (2 * Builtin.Int.intBits b) : Nat) : Int) = 2 ^ (2 * Builtin.Int.intBits b) := by simp
  have big : a.natAbs < 2 ^ 1000 := Nat.lt_of_lt_of_le ha9 (Nat.pow_le_pow_right (by decide) (by omega))
  have b9 : b.natAbs < 2 ^ 1000 := Nat.lt_of_lt_of_le hb9 (by decide)
  by_cases h : 0 < b
  · have d1 : (a / b).natAbs ≤ a.natAbs := Int.natAbs_ediv_le_natAbs a b
    exact divsP P a b ta tb h (by omega) (by omega) (by omega) (by omega) b9 (Int.ediv_mul_add_emod a b) (Int.emod_nonneg _ (by omega)) (Int.emod_lt_of_pos _ h)
  · have eb : Builtin.Int.intBits (-b) = Builtin.Int.intBits b := by unfold Builtin.Int.intBits; simp
    have d1 : ((-a) / (-b)).natAbs ≤ (-a).natAbs := Int.natAbs_ediv_le_natAbs _ _
    have k1 := Int.ediv_mul_add_emod (-a) (-b)
    have k2 := Int.emod_nonneg (-a) (b := -b) (by omega)
    have k3 := Int.emod_lt_of_pos (-a) (b := -b) (by omega)
    have k4 : (-a) / (-b) * b = -((-a) / (-b) * (-b)) := by rw [Int.mul_neg, Int.neg_neg]
    exact divsB P a b ta tb (by omega) (by omega) (by rw [eb]; omega) (by rw [eb]; omega) (by omega) b9 (by omega) (by omega) (by omega)
end Mine
end
/-! part S10 -/
section
open PySem PySem.W PyProof.Rows PySem.Calls
set_option Elab.async false
set_option maxRecDepth 100000
set_option maxHeartbeats 8000000
set_option linter.unusedSimpArgs false
namespace Mine

theorem kw35 : True := by
  w_top off
  k_with_none
  k_with "mine ne" => first | (with_reducible first | assumption | (refine Ne.symm ?_; assumption)) | (with_reducible ((repeat (first | (rename ((_ ≠ _ ∧ _) ∧ _) => hZk; obtain ⟨_, _⟩ := hZk) | (rename (_ ≠ _ ∧ _) => hZk; obtain ⟨_, _⟩ := hZk))); first | assumption | (refine Ne.symm ?_; assumption))) | ((repeat (refine Mine.aS ?_)); (first | refine Nat.ne_of_lt ?_ | refine Nat.ne_of_gt ?_); (repeat (first | exact Mine.lA _ | refine Mine.lB ?_)); done) | (with_reducible ((repeat (rename (@LT.lt _ _ _ _ ∧ _) => hZk; obtain ⟨_, _⟩ := hZk)); first | (refine Nat.ne_of_lt ?_; assumption) | (refine Nat.ne_of_gt ?_; assumption)))
  k_with "mine enter" => (k_dflt (refine' enter ?k1Zk ?k8Zk ?k6Zk ?k7Zk ?k9Zk ?kBZk ?c5Zk ?c2Zk ?c3Zk ?c4Zk ?_; (case k1Zk => assumption); (case k6Zk => k_is); (case k7Zk => k_is); (case k8Zk => (dsimp only [Ar, recursionLimit]; first | with_reducible exact Mine.dU0 (by assumption) | with_reducible exact Mine.dU1 (by assumption) (by decide) | with_reducible exact Mine.dU2 (by assumption) (by decide) | omega)); (case k9Zk => exact BindsTo.of_eq rfl); (case c5Zk => decide); (case kBZk => exact locs rfl); (case c2Zk => exact rfl); (case c3Zk => exact rfl); (case c4Zk => exact rfl); k_whole; intro L'Zk h'Zk F'Zk N'Zk B'Zk X'Zk T'Zk; (try dsimp only); (try k_fold)))
  k_with "ite" => first | refine ite_eq (by omega) ?_ | refine ite_ne (by omega) ?_
  trivial
local macro_rules | `(tactic| k_room) => `(tactic| ((try simp only [depth_under_make, depth_under_kw, depth_in1, depth_deeper, depth_caller]); dsimp only [Ar, recursionLimit]; omega))
theorem kw36 : True := by
  k_with "exec Raise some none" => (k_here; (with_reducible rename Fr _ _ _ _ => kFZk); k_dflt (refine' Raise_classB ?rhZk excClass_ZeroDivisionError ?rsZk ?rxZk ?_; (case rhZk => rfl); (case rsZk => (rw [isSubtype_type]; kernel_rfl)); (case rxZk => (refine' name_B kFZk ?k1Zk ?k2Zk ?k3Zk ?k4Zk ?k5Zk ?_; (case k1Zk => k_asm); (case k2Zk => k_asm); (case k3Zk => k_is); (case k4Zk => boot_by_name); (case k5Zk => decide); exact ⟨rfl, rfl⟩)); k_whole); intro h'Zk e'Zk X'Zk)
  k_with "leaving ref" => (k_here; k_dflt (refine' leave_newS ?k1Zk ?k0Zk ?k2Zk ?k3Zk ?_; (case k0Zk => assumption); (case k1Zk => assumption); (case k2Zk => assumption); (case k3Zk => k_asm); k_whole); intro h'Zk R'Zk RN'Zk U'Zk; (try dsimp only at R'Zk RN'Zk U'Zk ⊢))
  k_with "noteFrame ref" => (k_here; (rename RaisedSN _ _ _ _ _ _ _ => rsXZk); k_dflt (refine' caught_SN0 (T'Zk := "ZeroDivisionError") rsXZk ?c1Zk ?c2Zk ?c3Zk ?c4Zk ?c5Zk ?c6Zk KtsTurn.refl ?c7Zk PyProof.Rows.Boot.«ZeroDivisionError» ?c8Zk PySem.F.isExc_ZeroDivisionError PySem.F.notTuple_ZeroDivisionError ?c9Zk ?_; (case c1Zk => assumption); (case c2Zk => assumption); (case c3Zk => assumption); (case c4Zk => assumption); (case c5Zk => assumption); (case c6Zk => assumption); (case c7Zk => k_is); (case c8Zk => decide); (case c9Zk => (rw [isSubtype_type]; kernel_rfl)); k_whole); intro h'Zk g'Zk T0'Zk F'Zk N'Zk B'Zk X'Zk T'Zk D'Zk)
  trivial
def BackR (fs : List Addr) (s : Shared) (v : Value) (s' : Shared) : Prop := ∃ h' tk' g', s' = { s with heap := h', toks := tk' } ∧ KtsTurn fs s.heap g' ∧ Keep g' h' ∧ v = .bool true
/-- _law_refused: but for the outer frames' slots all stays -/
theorem refused (a : Int) (ta : Tok) (prog : Program) (w : World) (dp un : Nat) (gd : Option (List Code)) (base : Heap) (outer : List Env) (p : Program) (loose : List Str) (mean : ExcName → Option Value) (mg mb : Str → Option Value) (s : Shared)
    (G : Gd (hd.heap_39 w.params) (Ar dp un gd outer) base outer p loose mean mg mb s.heap) (XB : (hd.heap_39 w.params).In base) (TB : Top p loose mean mg mb base) (DB : KtsDicts (outer.filterMap (·.frame)) s.heap) (hd : dp + 15 < 1000) (hu : un + 150 < 9900) :
    wpAny (model prog w) (Ar dp un gd outer) (call (.ref 158) [.int a ta]) (BackR (outer.filterMap (·.frame)) s) (fun _ _ => False) s := by
  walk_at "mine enter"
  k_steps
  all_goals (exact ⟨_, _, _, rfl, by assumption, Fr.keep (by assumption), rfl⟩)
end Mine
end
/-! part G1 -/
section
open PySem PySem.W PyProof.Rows PySem.Calls PySem.Spec
set_option Elab.async false
set_option maxRecDepth 100000
namespace Mine
theorem kw37 : True := by
  w_top off
  k_with_none
  k_with "mine ne" => first | (with_reducible first | assumption | (refine Ne.symm ?_; assumption)) | (with_reducible ((repeat (first | (rename ((_ ≠ _ ∧ _) ∧ _) => hZk; obtain ⟨_, _⟩ := hZk) | (rename (_ ≠ _ ∧ _) => hZk; obtain ⟨_, _⟩ := hZk))); first | assumption | (refine Ne.symm ?_; assumption))) | ((repeat (refine Mine.aS ?_)); (first | refine Nat.ne_of_lt ?_ | refine Nat.ne_of_gt ?_); (repeat (first | exact Mine.lA _ | refine Mine.lB ?_)); done) | (with_reducible ((repeat (rename (@LT.lt _ _ _ _ ∧ _) => hZk; obtain ⟨_, _⟩ := hZk)); first | (refine Nat.ne_of_lt ?_; assumption) | (refine Nat.ne_of_gt ?_; assumption)))
  trivial
open LCg
/-- what stands at a turn's end is old, or apart from the turn's own -/
def Newer (own news news' : List (Addr × Obj)) : Prop := ∀ p ∈ news', (∃ o, (p.1, o) ∈ news) ∨ ∀ q ∈ own, p.1 ≠ q.1
def KEnd (h₀ : Heap) (L : Addr) (m : Str → Option Value) (s₂ : Shared) (C : Addr) (oC : Obj) (D : Addr) (oD : Obj) (own news : List (Addr × Obj)) (R : Value → List (Addr × Obj) → Prop) (y : Value) (s' : Shared) : Prop :=
  ∃ h' tk news', s' = { s₂ with heap := h', toks := tk } ∧ Fr h₀ L h' m ∧ News h₀ L h' ((C, oC) :: (D, oD) :: (news' ++ own)) ∧ Newer ((C, oC) :: (D, oD) :: own) news news' ∧ R y news'
def KStep (prog : Program) (w : World) (A : Around) (h₀ : Heap) (L : Addr) (m : Str → Option Value) (env : Env) (elt : Expr) (scope : Scope) (cl : List (Str × Addr)) (s₂ : Shared) (n : Nat) (B : Nat → (Str → Option Value) → Prop) (J : Nat → List Value → List (Addr × Obj) → Prop) : Prop :=
  ∀ i ys news own oC C D m₂ h tk (E' : Value → Shared → Prop), i < n → ys.length = i → J i ys news → B i m₂ → NsObj oC m₂ → Fr h₀ L h m → News h₀ L h ((C, oC) :: (D, lst ys) :: (news ++ own)) → C ≠ D →
    wpAny (model prog w) A (eval elt (compEnvC scope cl C env)) (KEnd h₀ L m s₂ C oC D (lst ys) own news (fun y news' => J (i + 1) (ys ++ [y]) news')) E' { s₂ with heap := h, toks := tk }
section
variable {prog : Program} {w : World} {A : Around} {E : Value → Shared → Prop} {s : Shared} {h₀ : Heap} {L : Addr} {m : Str → Option Value} {env : Env}
theorem newsBut {h h' : Heap} {wr : List Addr} {news : List (Addr × Obj)} (N : News h₀ L h news) (hk : ∀ b o, b ∉ wr → h.get? b = some o → h'.get? b = some o) (off : ∀ p ∈ news, p.1 ∉ wr) : News h₀ L h' news :=
  fun p hp => ⟨hk _ _ (off p hp) (N p hp).1, (N p hp).2⟩
theorem frBut {h h' : Heap} {wr : List Addr} (F : Fr h₀ L h m) (hk : ∀ b o, b ∉ wr → h.get? b = some o → h'.get? b = some o) (hL : L ∉ wr) (hI : ∀ b ∈ wr, h₀.get? b = none) : Fr h₀ L h' m :=
  ⟨F.ns.at' fun o e => hk L o hL e, fun b o e => hk b o (fun hm => by rw [hI b hm] at e; cases e) (F.keep b o e), F.above⟩

theorem block_K {elt iter : Expr} {elts : List Expr} {k₁} {tp : Pos} {scope : Scope} {cl : List (Str × Addr)} {pos : Pos} {s₂ : Shared} {I : Addr} {fp wr : List Addr} {n : Nat} {Pt : Nat → Array Value → Prop} {St : Nat → Heap → Prop} {Mid : Nat → Addr → Heap → Prop}
    {B : Nat → (Str → Option Value) → Prop} {J : Nat → List Value → List (Addr × Obj) → Prop} {news : List (Addr × Obj)} {RR : Value → Addr → Result → Shared → Prop}
    (W : WalksU prog w A I fp wr n Pt St Mid) (hsz : n ≤ sizeLine) (hIo : ∀ i h, St i h → ∀ b ∈ wr, ∃ o, h.get? b = some o)
    (hcell : ∀ y ∈ scope.names, y.2 ≠ .cell) (hkind : scope.kind = .function) (hst : St 0 s₂.heap) (hfp : ∀ b ∈ fp, b < s₂.heap.objs.size)
    (F : Fr h₀ L s₂.heap m) (N : News h₀ L s₂.heap news) (hLf : L ∉ fp) (hwr : ∀ b ∈ wr, h₀.get? b = none) (hnw : ∀ p ∈ news, p.1 ∉ wr) (h0 : J 0 [] news)
    (asg : ∀ i T vals C (s : Shared) (Q : Unit → Shared → Prop) (E : Value → Shared → Prop) m', Pt i vals → s.heap.IsTuple T vals → s.heap.Ns C m' →
      (∀ h' tk m'', h'.Ns C m'' → B i m'' → (∀ b o, b ≠ C → s.heap.get? b = some o → h'.get? b = some o) → Q () { s with heap := h', toks := tk }) → wpAny (model prog w) A (assign (.Tuple elts k₁ tp) (compEnvC scope cl C env) (.ref T)) Q E s)
    (step : KStep prog w A h₀ L m env elt scope cl s₂ n B J)
    (hRR : ∀ D C h tk m' ys news', Fr h₀ L h m → News h₀ L h ((D, lst ys) :: news') → (∀ p ∈ news', p.1 ≠ D) → h.Ns C m' → h₀.get? C = none → h₀.get? D = none → C ≠ L → D ≠ L → C ≠ D → (∀ p ∈ news', p.1 ≠ C) → J n ys news' → RR (.ref D) C (.ok .next) { s₂ with heap := h, toks := tk }) :
    wpAny (model prog w) A (newList []) (fun acc s₃ => wpAny (model prog w) A (newFunctionEnv scope env.globals cl [] env.qual none .none (some env)) (fun cenv s₄ =>
      codeAny (model prog w) A (.compStart (.ListComp elt [⟨.Tuple elts k₁ tp, iter, [], 0⟩] scope pos) 0 (.ref I) acc { cenv with scope := relabel scope env }) (RR acc cenv.locals) s₄) E s₃) E s₂ := by
  refine wpAny_newObj_type (wpAny_newFunctionEnv hcell (by intro y hy; simp at hy) (fun h₁ hns₁ hsb₁ => ?_) hkind)
  dsimp only at hns₁ hsb₁ ⊢
  generalize hH2 : s₂.heap.push { cls := .type "list", dict := none, data := .seq ([] : List Value).toArray } = H2 at hns₁ hsb₁ ⊢
  have hC : H2.objs.size = s₂.heap.objs.size + 1 := by rw [← hH2, Heap.size_push]
  have hDC : s₂.heap.objs.size ≠ H2.objs.size := by rw [hC]; exact Nat.ne_of_lt (Nat.lt_succ_self _)
  have below : ∀ b, b < s₂.heap.objs.size → b ≠ H2.objs.size ∧ b ≠ s₂.heap.objs.size := fun b hb => ⟨by rw [hC]; exact Nat.ne_of_lt (Nat.lt_succ_of_lt hb), Nat.ne_of_lt hb⟩
  have hDf : s₂.heap.objs.size ∉ fp := fun hm => Nat.lt_irrefl _ (hfp _ hm)
  have hCf : H2.objs.size ∉ fp := fun hm => by have := hfp _ hm; rw [hC] at this; exact Nat.lt_irrefl _ (Nat.lt_of_succ_lt this)
  have hDw : s₂.heap.objs.size ∉ wr := fun hm => hDf (W.sub _ hm)
  have hCw : H2.objs.size ∉ wr := fun hm => hCf (W.sub _ hm)
  have hLw : L ∉ wr := fun hm => hLf (W.sub _ hm)
  have old : ∀ b o, s₂.heap.get? b = some o → h₁.get? b = some o := fun b o e => hsb₁.extBut b o (below b (Heap.lt_size e)).1 (Heap.get?_push_of_some _ (hH2 ▸ Heap.get?_push_of_some _ e))
  have hacc : h₁.get? s₂.heap.objs.size = some (lst []) := hsb₁.extBut _ _ hDC (Heap.get?_push_of_some _ (hH2 ▸ Heap.get?_push_size _ rfl))
  have hst₁ : St 0 h₁ := W.frame _ _ _ hst fun b _ o e => old b o e
  have fresh : ∀ a, s₂.heap.objs.size ≤ a → s₂.heap.get? a = none := fun a ha => by
    cases e : s₂.heap.get? a with
    | none => rfl
    | some o' => exact absurd (Heap.lt_size e) (Nat.not_lt.mpr ha)
  have fresh₀ : ∀ a, s₂.heap.objs.size ≤ a → h₀.get? a = none := fun a ha => by
    cases e : h₀.get? a with
    | none => rfl
    | some o' => have := F.keep a o' e; rw [fresh a ha] at this; cases this
  have hD₀ : h₀.get? s₂.heap.objs.size = none := fresh₀ _ (Nat.le_refl _)
  have hC₀ : h₀.get? H2.objs.size = none := fresh₀ _ (by rw [hC]; exact Nat.le_succ _)
  have hLlt : L < s₂.heap.objs.size := F.ns.lt
  have hDL : s₂.heap.objs.size ≠ L := Ne.symm (below L hLlt).2
  have hCL : H2.objs.size ≠ L := Ne.symm (below L hLlt).1
  have loop : ∀ s₃ : Shared, s₃ = { s₂ with heap := h₁, toks := s₂.toks + ([] : List (Str × Value)).length } →
      codeAny (model prog w) A (.compLoop (.ListComp elt [⟨.Tuple elts k₁ tp, iter, [], 0⟩] scope pos) 0 (.ref I) (.ref s₂.heap.objs.size) (compEnvC scope cl H2.objs.size env))
        (RR (.ref s₂.heap.objs.size) H2.objs.size) s₃ := by
    rintro s₃ rfl
    refine LCp.codeAny_compLoop_pair
      (fun k s' => ∃ h' tk i ys m' news', s' = { s₂ with heap := h', toks := tk } ∧ i ≤ n ∧ k = n + 1 - i ∧ ys.length = i ∧ St i h' ∧ Fr h₀ L h' m ∧ h'.Ns H2.objs.size m' ∧ News h₀ L h' ((s₂.heap.objs.size, lst ys) :: news') ∧
        (∀ p ∈ news', p.1 ∉ wr ∧ p.1 ≠ H2.objs.size ∧ p.1 ≠ s₂.heap.objs.size) ∧ J i ys news') ?_ (n + 1)
      ⟨h₁, _, 0, [], _, news, rfl, Nat.zero_le _, rfl, rfl, hst₁, F.keeps old, hns₁, fun p hp => ?_, fun p hp => ⟨hnw p hp, below _ (Heap.lt_size (N p hp).1)⟩, h0⟩
    · rintro k s' ⟨h', tk, i, ys, m', news', rfl, hi, rfl, hyl, hst', F', hn', N', off', hJ⟩
      have Nn : ∀ p ∈ (s₂.heap.objs.size, lst ys) :: news', p.1 ∉ wr := fun p hp => by
        rcases List.mem_cons.mp hp with rfl | hp
        · exact hDw
        · exact (off' p hp).1
      by_cases hlt : i < n
      · refine W.item i _ _ _ hlt hst' fun T vals h₂ tk₂ hPt hT hMid hk₂ => ?_
        refine W.go elts k₁ tp i T _ _ _ hMid fun h₃ hst₃ hk₃ => ?_
        have hk3 : ∀ b o, b ∉ wr → h'.get? b = some o → h₃.get? b = some o := fun b o hb e => hk₃ b o hb (hk₂ b o hb e)
        refine asg i T vals H2.objs.size _ _ _ m' hPt (hT.at fun o e => hk₃ T o (W.apart i T _ hMid) e) (hn'.at' fun o e => hk3 _ o hCw e) fun h₄ tk₄ m'' hn₄ hB hk₄ => ?_
        have hst₄ : St (i + 1) h₄ := W.frame _ _ _ hst₃ fun b hb o e => hk₄ b o (fun q => hCf (q ▸ hb)) e
        have F₄ : Fr h₀ L h₄ m := frBut (wr := [H2.objs.size]) (frBut F' hk3 hLw hwr) (fun b o hb e => hk₄ b o (by simpa using hb) e) (by simpa using Ne.symm hCL) (by intro b hb; rw [List.mem_singleton.mp hb]; exact hC₀)
        obtain ⟨oC, heC, hoC⟩ := ns_obj hn₄
        have N₄ : News h₀ L h₄ ((s₂.heap.objs.size, lst ys) :: news') := newsBut (wr := [H2.objs.size]) (newsBut N' hk3 Nn) (fun b o hb e => hk₄ b o (by simpa using hb) e) fun p hp => by
          rcases List.mem_cons.mp hp with rfl | hp
          · simpa using hDC
          · simpa using (off' p hp).2.1
        have Nown : News h₀ L h₄ (PyProof.Rows.ownOf h₀ fp h₄) := news_ownOf hLf
        refine wpAny_mono (step i ys news' (PyProof.Rows.ownOf h₀ fp h₄) oC H2.objs.size s₂.heap.objs.size m'' h₄ tk₄ _ hlt hyl hJ hB hoC F₄ (fun p hp => ?_) (Ne.symm hDC)) (fun y s₅ h₅ => ?_) fun _ _ e => e
        · simp only [List.mem_cons, List.mem_append] at hp
          rcases hp with rfl | rfl | hp | hp
          · exact ⟨heC, hCL, hC₀⟩
          · exact N₄ _ (.head _)
          · exact N₄ p (.tail _ hp)
          · exact Nown p hp
        obtain ⟨h₅, tk₅, news₅, rfl, F₅, N₅, new₅, hJ₅⟩ := h₅
        have zC := (N₅ (H2.objs.size, oC) List.mem_cons_self).1
        have zD := (N₅ (s₂.heap.objs.size, lst ys) (List.mem_cons_of_mem _ List.mem_cons_self)).1
        have off₅ : ∀ p ∈ news₅, p.1 ∉ wr ∧ p.1 ≠ H2.objs.size ∧ p.1 ≠ s₂.heap.objs.size := fun p hp => by
          rcases new₅ p hp with ⟨o, h⟩ | h
          · exact off' (p.1, o) h
          · refine ⟨fun hw => ?_, h _ (.head _), h _ (.tail _ (.head _))⟩
            obtain ⟨o, ho⟩ := hIo _ _ hst₄ _ hw
            exact h (p.1, o) (.tail _ (.tail _ (mem_ownOf (W.sub _ hw) (hwr _ hw) ho))) rfl
        have hst₅ : St (i + 1) h₅ := W.frame _ _ _ hst₄ fun b hb o e => by
          cases hn : h₀.get? b with
          | some o₀ =>
            have : o₀ = o := by have q := F₄.keep b o₀ hn; rw [e] at q; exact (Option.some.inj q).symm
            exact this ▸ F₅.keep b o₀ hn
          | none => exact (N₅ (b, o) (List.mem_cons_of_mem _ (List.mem_cons_of_mem _ (List.mem_append_right _ (mem_ownOf hb hn e))))).1
        refine append_at (hsz := by show ys.toArray.size ≤ sizeLine; rw [List.size_toArray, hyl]; exact Nat.le_trans hi hsz) zD fun h₆ hs₆ hD₆ => ?_
        refine ⟨n + 1 - (i + 1), by omega, h₆, tk₅, i + 1, ys ++ [y], _, news₅, rfl, hlt, rfl, by rw [List.length_append, List.length_singleton, hyl], W.frame _ _ _ hst₅ fun b hb o e => hs₆.extBut b o (fun q => hDf (q ▸ hb)) e, F₅.change hs₆ hDL hD₀,
          (hoC.ns zC).sameBut hs₆ (Ne.symm hDC), fun p hp => ?_, off₅, hJ₅⟩
        rcases List.mem_cons.mp hp with rfl | hp
        · exact ⟨hD₆.trans (congrArg some (lst_snoc ys y)), hDL, hD₀⟩
        · have z := N₅ p (List.mem_cons_of_mem _ (List.mem_cons_of_mem _ (List.mem_append_left _ hp)))
          exact ⟨hs₆.extBut _ _ (off₅ p hp).2.2 z.1, z.2⟩
      · obtain rfl : i = n := Nat.le_antisymm hi (Nat.not_lt.mp hlt)
        refine W.done _ _ _ hst' fun h₂ tk₂ hk₂ => ?_
        exact hRR _ _ h₂ tk₂ _ ys news' (frBut F' hk₂ hLw hwr) (newsBut N' hk₂ Nn) (fun p hp => (off' p hp).2.2) (hn'.at' fun o e => hk₂ _ o hCw e) hC₀ hD₀ hCL hDL (Ne.symm hDC) (fun p hp => (off' p hp).2.1) hJ
    · rcases List.mem_cons.mp hp with rfl | hp
      · exact ⟨hacc, hDL, hD₀⟩
      · exact ⟨old _ _ (N p hp).1, (N p hp).2⟩
  exact codeAny_compStart_list (loop _ rfl) (W.self 0 _ _ _ hst₁ (loop _ rfl))

/-- where a comprehension's list goes: on, or to a name -/
def FinK (h₀ : Heap) (L : Addr) (m : Str → Option Value) (Q : Value → Shared → Prop) (s : Shared) (ys : List Value) (news : List (Addr × Obj)) : Prop :=
  ∀ D h tk, Fr h₀ L h m → News h₀ L h ((D, lst ys) :: news) → (∀ p ∈ news, p.1 ≠ D) → Q (.ref D) { s with heap := h, toks := tk }
def FinKA (h₀ : Heap) (L : Addr) (m : Str → Option Value) (y : Str) (Q : Flow → Shared → Prop) (s : Shared) (ys : List Value) (news : List (Addr × Obj)) : Prop :=
  ∀ D h tk, Fr h₀ L h (fun z => if z = y then some (.ref D) else m z) → News h₀ L h ((D, lst ys) :: news) → (∀ p ∈ news, p.1 ≠ D) → Q .next { s with heap := h, toks := tk }
/-- an iterator of tuples for a comprehension -/
def KSrc (prog : Program) (w : World) (A : Around) (h₀ : Heap) (L : Addr) (m : Str → Option Value) (env : Env) (elt : Expr) (elts : List Expr) (k₁ : Nat) (tp : Pos) (scope : Scope) (cl : List (Str × Addr)) (FF : Shared → List Value → List (Addr × Obj) → Prop) (it : Value) (s₂ : Shared) : Prop :=
  ∃ (I : Addr) (fp wr : List Addr) (n : Nat) (Pt : Nat → Array Value → Prop) (St : Nat → Heap → Prop) (Mid : Nat → Addr → Heap → Prop) (B : Nat → (Str → Option Value) → Prop) (J : Nat → List Value → List (Addr × Obj) → Prop) (news : List (Addr × Obj)),
    it = .ref I ∧ WalksU prog w A I fp wr n Pt St Mid ∧ n ≤ sizeLine ∧ (∀ i h, St i h → ∀ b ∈ wr, ∃ o, h.get? b = some o) ∧ St 0 s₂.heap ∧ (∀ b ∈ fp, b < s₂.heap.objs.size) ∧ Fr h₀ L s₂.heap m ∧ News h₀ L s₂.heap news ∧ L ∉ fp ∧ (∀ b ∈ wr, h₀.get? b = none) ∧
    (∀ p ∈ news, p.1 ∉ wr) ∧ J 0 [] news ∧
    (∀ i T vals C (s : Shared) (Q : Unit → Shared → Prop) (E : Value → Shared → Prop) m', Pt i vals → s.heap.IsTuple T vals → s.heap.Ns C m' →
      (∀ h' tk m'', h'.Ns C m'' → B i m'' → (∀ b o, b ≠ C → s.heap.get? b = some o → h'.get? b = some o) → Q () { s with heap := h', toks := tk }) → wpAny (model prog w) A (assign (.Tuple elts k₁ tp) (compEnvC scope cl C env) (.ref T)) Q E s) ∧
    KStep prog w A h₀ L m env elt scope cl s₂ n B J ∧
    ∀ ys news', J n ys news' → FF s₂ ys news'
theorem ListComp_K {elt iter : Expr} {elts : List Expr} {k₁ : Nat} {tp : Pos} {scope : Scope} {cl : List (Str × Addr)} {pos : Pos} {Q : Value → Shared → Prop} (_F₀ : Fr h₀ L s.heap m)
    (hclos : closureFor scope env = pure cl) (hcell : ∀ y ∈ scope.names, y.2 ≠ .cell) (hkind : scope.kind = .function)
    (hnames : ∀ y ∈ scope.names, y.2 = .local → scope.names.lookup y.1 = some .local)
    (h : wpAny (model prog w) A (eval iter env) (fun xv s₁ => wpAny (model prog w) A (pyIter xv) (KSrc prog w A h₀ L m env elt elts k₁ tp scope cl (FinK h₀ L m Q)) E s₁) E s)
    (hs : ∀ x, foldedSetIterable iter env x = pure x := by intro _; rfl) :
    wpAny (model prog w) A (eval (.ListComp elt [⟨.Tuple elts k₁ tp, iter, [], 0⟩] scope pos) env) Q E s := by
  rw [eval_ListComp]
  refine wpAny_comprehension_free (use := none) rfl hs hclos hkind hnames (wpAny_mono h (fun xv s₁ h₁ => wpAny_mono h₁ (fun it s₂ h₂ => ?_) fun _ _ e => e) fun _ _ e => e)
  obtain ⟨I, fp, wr, n, Pt, St, Mid, B, J, news, rfl, W, hsz, hIo, hst, hfp, F, N, hLf, hwr, hnw, h0, asg, step, fin⟩ := h₂
  refine block_K W hsz hIo hcell hkind hst hfp F N hLf hwr hnw h0 asg step ?_
  intro D C h tk m' ys news' F' N' o1 hn hC₀ hD₀ hCL hDL hCD offC hJ
  refine ⟨m', hn, fun h'' hs'' => fin ys news' hJ D h'' tk (F'.change hs'' hCL hC₀) (fun p hp => ?_) o1⟩
  refine ⟨hs''.extBut _ _ ?_ (N' p hp).1, (N' p hp).2⟩
  rcases List.mem_cons.mp hp with rfl | hp
  · exact Ne.symm hCD
  · exact offC p hp
theorem Assign_ListComp_K {elt iter : Expr} {elts : List Expr} {k₁ : Nat} {tp : Pos} {y : Str} {py : Pos} {scope : Scope} {cl : List (Str × Addr)} {pos spos : Pos} {Q : Flow → Shared → Prop} (_F₀ : Fr h₀ L s.heap m) (hLe : env.locals = L)
    (hsw : swapsWith (.ListComp elt [⟨.Tuple elts k₁ tp, iter, [], 0⟩] scope pos) (some (.Name y py)) spos.line env = pure true)
    (hclos : closureFor scope env = pure cl) (hcell : ∀ y ∈ scope.names, y.2 ≠ .cell) (hkind : scope.kind = .function)
    (hnames : ∀ y ∈ scope.names, y.2 = .local → scope.names.lookup y.1 = some .local)
    (hy : env.kindOf y = some .local) (hp : (env.scope.kind == .class || (env.scope.kind == .module && env.locals != env.globals)) = false)
    (h : wpAny (model prog w) A (eval iter env) (fun xv s₁ => wpAny (model prog w) A (pyIter xv) (KSrc prog w A h₀ L m env elt elts k₁ tp scope cl (FinKA h₀ L m y Q)) E s₁) E s)
    (hs : ∀ x, foldedSetIterable iter env x = pure x := by intro _; rfl) :
    wpAny (model prog w) A (exec (.Assign [.Name y py] (.ListComp elt [⟨.Tuple elts k₁ tp, iter, [], 0⟩] scope pos) spos) env) Q E s := by
  subst hLe
  rw [exec_Assign_Name_used _ _ _ _ hsw]
  refine wpAny_bind (wpAny_standAt (wpAny_bind ?_))
  show wpAny _ A (do let _ ← comprehension (.ListComp elt [⟨.Tuple elts k₁ tp, iter, [], 0⟩] scope pos) scope env _ (newList []) false (eval iter env) (some (assign (.Name y py) env))) _ _ s
  refine wpAny_bind (wpAny_mono (wpAny_comprehension_free (use := some (assign (.Name y py) env)) (Q := fun _ s' => Q .next s') rfl hs hclos hkind hnames
    (wpAny_mono h (fun xv s₁ h₁ => wpAny_mono h₁ (fun it s₂ h₂ => ?_) fun _ _ e => e) fun _ _ e => e)) (fun _ s' hq => wpAny_pure (wpAny_pure hq)) fun _ _ e => e)
  obtain ⟨I, fp, wr, n, Pt, St, Mid, B, J, news, rfl, W, hsz, hIo, hst, hfp, F, N, hLf, hwr, hnw, h0, asg, step, fin⟩ := h₂
  refine block_K W hsz hIo hcell hkind hst hfp F N hLf hwr hnw h0 asg step ?_
  intro D C h tk m' ys news' F' N' o1 hn hC₀ hD₀ hCL hDL hCD offC hJ
  show wpAny _ A (assign (.Name y py) env (.ref D)) _ _ _
  refine wpAny_assign_Name (wpAny_storeName_local hy F'.ns (fun h₂ hn₂ hs₂ => ?_) hp)
  have hL₀ : h₀.get? env.locals = none := Heap.get?_none_of_le F'.above
  have F₂ : Fr h₀ env.locals h₂ (fun z => if z = y then some (.ref D) else m z) := ⟨hn₂, fun b o e => hs₂.extBut b o (fun q => by rw [q, hL₀] at e; cases e) (F'.keep b o e), F'.above⟩
  refine ⟨m', hn.sameBut hs₂ hCL, fun h'' hs'' => fin ys news' hJ D h'' _ (F₂.change hs'' hCL hC₀) (fun p hp => ?_) o1⟩
  have z : h₂.get? p.1 = some p.2 := hs₂.extBut _ _ (N' p hp).2.1 (N' p hp).1
  refine ⟨hs''.extBut _ _ ?_ z, (N' p hp).2⟩
  rcases List.mem_cons.mp hp with rfl | hp
  · exact Ne.symm hCD
  · exact offC p hp
end
end Mine
end
/-! part G2 -/
section
open PySem PySem.W PyProof.Rows PySem.Calls PySem.Spec
set_option Elab.async false
set_option maxRecDepth 100000
namespace Mine
theorem kw38 : True := by
  w_top off
  k_with_none
  k_with "mine ne" => first | (with_reducible first | assumption | (refine Ne.symm ?_; assumption)) | (with_reducible ((repeat (first | (rename ((_ ≠ _ ∧ _) ∧ _) => hZk; obtain ⟨_, _⟩ := hZk) | (rename (_ ≠ _ ∧ _) => hZk; obtain ⟨_, _⟩ := hZk))); first | assumption | (refine Ne.symm ?_; assumption))) | ((repeat (refine Mine.aS ?_)); (first | refine Nat.ne_of_lt ?_ | refine Nat.ne_of_gt ?_); (repeat (first | exact Mine.lA _ | refine Mine.lB ?_)); done) | (with_reducible ((repeat (rename (@LT.lt _ _ _ _ ∧ _) => hZk; obtain ⟨_, _⟩ := hZk)); first | (refine Nat.ne_of_lt ?_; assumption) | (refine Nat.ne_of_gt ?_; assumption)))
  trivial
open LCg
section
variable {prog : Program} {w : World} {A : Around} {E : Value → Shared → Prop} {s : Shared} {h₀ : Heap} {L : Addr} {m : Str → Option Value} {env : Env}
/-- a comprehension over a list by what holds of its first items -/
theorem compRest_inv {elt : Expr} {x : Str} {scope : Scope} {cl : List (Str × Addr)} {S : List (Addr × Obj) → Prop} {P : Nat → Value → Prop} {Fin : List Value → List (Addr × Obj) → Prop} {news : List (Addr × Obj)} (n : Nat) (J : Nat → List Value → List (Addr × Obj) → Prop)
    (h0 : J 0 [] news)
    (step : ∀ i ys news v I oI C oC D m₂ h tk (E' : Value → Shared → Prop), i < n → ys.length = i → J i ys news → P i v → NsObj oC m₂ → m₂ x = some v → Fr h₀ L h m → News h₀ L h ((I, oI) :: (C, oC) :: (D, lst ys) :: news) → Off3 I C D news → ((@Ne Nat I C) ∧ (@Ne Nat I D) ∧ (@Ne Nat C D)) →
      wpAny (model prog w) A (eval elt (compEnvC scope cl C env)) (CompEnd h₀ L m { s with heap := h, toks := tk } I oI C oC D (lst ys) S (fun y news' => J (i + 1) (ys ++ [y]) news')) E' { s with heap := h, toks := tk })
    (fin : ∀ ys news, ys.length = n → J n ys news → Fin ys news) : CompRest prog w A h₀ L m env elt x scope cl s S P Fin n 0 [] news := by
  have key : ∀ k i ys news, i + k = n → ys.length = i → J i ys news → CompRest prog w A h₀ L m env elt x scope cl s S P Fin k i ys news := by
    intro k
    induction k with
    | zero => intro i ys news hi hl hj; exact fin ys news (by omega) (by rw [show n = i from by omega]; exact hj)
    | succ k ih =>
      intro i ys news hi hl hj
      refine CompRest.succ fun v I oI C oC D m₂ h tk E' hP hC hx F N off ne => ?_
      refine wpAny_mono (step i ys news v I oI C oC D m₂ h tk E' (by omega) hl hj hP hC hx F N off ne) (fun y s₄ h₄ => ?_) fun _ _ e => e
      obtain ⟨h₄, tk₄, news₄, rfl, F₄, N₄, off₄, hS₄, R₄⟩ := h₄
      exact ⟨h₄, tk₄, news₄, rfl, F₄, N₄, off₄, hS₄, ih (i + 1) (ys ++ [y]) news₄ (by omega) (by simp [hl]) R₄⟩
  exact key n 0 [] news (by omega) rfl h0
/-- the same over a list of pairs -/
theorem compRestP_inv {elt : Expr} {x x₂ : Str} {scope : Scope} {cl : List (Str × Addr)} {S : List (Addr × Obj) → Prop} {P : Nat → Value → Prop} {Fin : List Value → List (Addr × Obj) → Prop} {news : List (Addr × Obj)} (n : Nat) (J : Nat → List Value → List (Addr × Obj) → Prop)
    (h0 : J 0 [] news)
    (step : ∀ i ys news v, i < n → ys.length = i → J i ys news → P i v → ∃ (t : Addr) (ot : Obj) (v₁ v₂ : Value) (nt : Nat), v = .ref t ∧ (t, ot) ∈ news ∧ ot.cls = .type "tuple" ∧ ot.data = .seq #[v₁, v₂] nt ∧
      ∀ I oI C oC D m₂ h tk (E' : Value → Shared → Prop), NsObj oC m₂ → m₂ x = some v₁ → m₂ x₂ = some v₂ → Fr h₀ L h m → News h₀ L h ((I, oI) :: (C, oC) :: (D, lst ys) :: news) → Off3 I C D news → ((@Ne Nat I C) ∧ (@Ne Nat I D) ∧ (@Ne Nat C D)) →
      wpAny (model prog w) A (eval elt (compEnvC scope cl C env)) (CompEnd h₀ L m { s with heap := h, toks := tk } I oI C oC D (lst ys) S (fun y news' => J (i + 1) (ys ++ [y]) news')) E' { s with heap := h, toks := tk })
    (fin : ∀ ys news, ys.length = n → J n ys news → Fin ys news) : LCp.CompRestP prog w A h₀ L m env elt x x₂ scope cl s S P Fin n 0 [] news := by
  have key : ∀ k i ys news, i + k = n → ys.length = i → J i ys news → LCp.CompRestP prog w A h₀ L m env elt x x₂ scope cl s S P Fin k i ys news := by
    intro k
    induction k with
    | zero => intro i ys news hi hl hj; exact fin ys news (by omega) (by rw [show n = i from by omega]; exact hj)
    | succ k ih =>
      intro i ys news hi hl hj
      refine LCp.CompRestP.succ fun v hP => ?_
      obtain ⟨t, ot, v₁, v₂, nt, e1, e2, e3, e4, st⟩ := step i ys news v (by omega) hl hj hP
      refine ⟨t, ot, v₁, v₂, nt, e1, e2, e3, e4, fun I oI C oC D m₂ h tk E' hC hx hx2 F N off ne => ?_⟩
      refine wpAny_mono (st I oI C oC D m₂ h tk E' hC hx hx2 F N off ne) (fun y s₄ h₄ => ?_) fun _ _ e => e
      obtain ⟨h₄, tk₄, news₄, rfl, F₄, N₄, off₄, hS₄, R₄⟩ := h₄
      exact ⟨h₄, tk₄, news₄, rfl, F₄, N₄, off₄, hS₄, ih (i + 1) (ys ++ [y]) news₄ (by omega) (by simp [hl]) R₄⟩
  exact key n 0 [] news (by omega) rfl h0
/-- a for's turns by what holds of its first items -/
theorem itemsRest_inv {target : Expr} {body : List Stmt} {Q : Flow → Shared → Prop} {ws : List (Addr × String)} {keep : List (Addr × Obj)} {xs : List Itm} (J : Nat → (Str → Option Value) → List (Addr × Obj) → Prop)
    (step : ∀ i a m news v h tk, xs[i]? = some a → J i m news → a.Is v h → Fr h₀ env.locals h m → AllObj ws (fun its => News h₀ env.locals h (its ++ news) →
      wpAny (model prog w) A (assign target env v) (fun _ s₂ => wpAny (model prog w) A (execs body env) (UnrPostW h₀ env.locals { s with heap := h, toks := tk } its (fun m' n' => SubL keep n' ∧ J (i + 1) m' n') Q) E s₂) E { s with heap := h, toks := tk }))
    (fin : ∀ m news h tk, J xs.length m news → Fr h₀ env.locals h m → News h₀ env.locals h news → Q .next { s with heap := h, toks := tk })
    {m : Str → Option Value} {news : List (Addr × Obj)} (h0 : J 0 m news) : ItemsRest prog w A E h₀ env target body Q s ws keep xs m news := by
  have key : ∀ k i m news, i + k = xs.length → J i m news → ItemsRest prog w A E h₀ env target body Q s ws keep (xs.drop i) m news := by
    intro k
    induction k with
    | zero =>
      intro i m news hi hj
      rw [List.drop_of_length_le (by omega)]
      exact ItemsRest.zero fun h tk F N => fin m news h tk (by rw [show xs.length = i from by omega]; exact hj) F N
    | succ k ih =>
      intro i m news hi hj
      have hlt : i < xs.length := by omega
      rw [List.drop_eq_getElem_cons hlt]
      intro v h tk hv F
      have := step i xs[i] m news v h tk (by simp [hlt]) hj hv F
      have mono : ∀ {ws : List (Addr × String)} {k k' : List (Addr × Obj) → Prop}, (∀ its, k its → k' its) → AllObj ws k → AllObj ws k' := by
        intro ws
        induction ws with
        | nil => intro k k' hk x; exact hk _ x
        | cons w r ih => intro k k' hk x o ho; exact ih (fun its y => hk _ y) (x o ho)
      refine mono (fun its x N => ?_) this
      refine wpAny_mono (x N) (fun _ s₂ h₂ => wpAny_mono h₂ (fun f s₃ h₃ => ?_) fun _ _ e => e) fun _ _ e => e
      have up : UnrEndW h₀ env.locals { s with heap := h, toks := tk } its (fun m' n' => SubL keep n' ∧ J (i + 1) m' n') s₃ → UnrEndW h₀ env.locals { s with heap := h, toks := tk } its (fun m' n' => SubL keep n' ∧ ItemsRest prog w A E h₀ env target body Q s ws keep (xs.drop (i + 1)) m' n') s₃ := by
        rintro ⟨h', tk', m', news', e, F', N', o, k', j⟩
        exact ⟨h', tk', m', news', e, F', N', o, k', ih (i + 1) m' news' (by omega) j⟩
      cases f with
      | ret v => exact h₃
      | brk => exact h₃
      | next => exact up h₃
      | cont => exact up h₃
  have := key xs.length 0 m news (by omega) h0
  rwa [List.drop_zero] at this
end
/-- all that a list's values are told, one by one; what is told of one holds in a longer ledger -/
structure Rows (R : Nat → Value → List (Addr × Obj) → Prop) (n : Nat) (ys : List Value) (news : List (Addr × Obj)) : Prop where
  len : ys.length = n
  all : ∀ j v, ys[j]? = some v → R j v news
theorem Rows.nil {R : Nat → Value → List (Addr × Obj) → Prop} {news : List (Addr × Obj)} : Rows R 0 [] news := ⟨rfl, fun _ _ h => by simp at h⟩
theorem Rows.snoc {R : Nat → Value → List (Addr × Obj) → Prop} {n : Nat} {ys : List Value} {y : Value} {news news' : List (Addr × Obj)} (x : Rows R n ys news) (mono : ∀ j v, R j v news → R j v news') (hy : R n y news') : Rows R (n + 1) (ys ++ [y]) news' := by
  refine ⟨by simp [x.len], fun j v h => ?_⟩
  by_cases hj : j < ys.length
  · rw [List.getElem?_append_left hj] at h
    exact mono j v (x.all j v h)
  · have hj2 : j = ys.length := by
      have := (List.getElem?_eq_some_iff.mp h).1
      simp at this; omega
    subst hj2
    rw [List.getElem?_append_right (Nat.le_refl _)] at h
    simp at h
    subst h
    rw [x.len]; exact hy
theorem Rows.one {R : Nat → Value → List (Addr × Obj) → Prop} {y : Value} {news : List (Addr × Obj)} (h : R 0 y news) : Rows R 1 [y] news := ⟨rfl, fun j v e => by
  match j, e with
  | 0, e => exact (Option.some.inj e) ▸ h
  | j + 1, e => simp at e⟩
theorem Rows.mono {R : Nat → Value → List (Addr × Obj) → Prop} {n : Nat} {ys : List Value} {news news' : List (Addr × Obj)} (x : Rows R n ys news) (mono : ∀ j v, R j v news → R j v news') : Rows R n ys news' := ⟨x.len, fun j v h => mono j v (x.all j v h)⟩
end Mine
end
/-! part G3 -/
section
open PySem PySem.W PyProof.Rows PySem.Calls PySem.Spec
set_option Elab.async false
set_option maxRecDepth 100000
namespace Mine
theorem kw39 : True := by
  w_top off
  k_with_none
  k_with "mine ne" => first | (with_reducible first | assumption | (refine Ne.symm ?_; assumption)) | (with_reducible ((repeat (first | (rename ((_ ≠ _ ∧ _) ∧ _) => hZk; obtain ⟨_, _⟩ := hZk) | (rename (_ ≠ _ ∧ _) => hZk; obtain ⟨_, _⟩ := hZk))); first | assumption | (refine Ne.symm ?_; assumption))) | ((repeat (refine Mine.aS ?_)); (first | refine Nat.ne_of_lt ?_ | refine Nat.ne_of_gt ?_); (repeat (first | exact Mine.lA _ | refine Mine.lB ?_)); done) | (with_reducible ((repeat (rename (@LT.lt _ _ _ _ ∧ _) => hZk; obtain ⟨_, _⟩ := hZk)); first | (refine Nat.ne_of_lt ?_; assumption) | (refine Nat.ne_of_gt ?_; assumption)))
  trivial
open LCg
theorem neA {a b : Nat} (h : a ≠ b) : @Ne Addr a b := h
section
variable {prog : Program} {w : World} {A : Around} {E : Value → Shared → Prop} {s : Shared} {h₀ : Heap} {L : Addr} {m : Str → Option Value} {env : Env} {scope : Scope} {cl : List (Str × Addr)} {C T : Addr}
theorem asg2 {x₁ x₂ : Str} {p₁ p₂ tp : Pos} {k : Nat} {v₁ v₂ : Value} {m' : Str → Option Value} {Q : Unit → Shared → Prop} (hh : A.handled = none) (hkind : scope.kind = .function)
    (h1 : scope.names.lookup x₁ = some .local) (h2 : scope.names.lookup x₂ = some .local) (h12 : x₁ ≠ x₂) (ht : s.heap.IsTuple T #[v₁, v₂]) (hn : s.heap.Ns C m')
    (hQ : ∀ h' tk m'', h'.Ns C m'' → m'' x₁ = some v₁ → m'' x₂ = some v₂ → (∀ b o, b ≠ C → s.heap.get? b = some o → h'.get? b = some o) → Q () { s with heap := h', toks := tk }) :
    wpAny (model prog w) A (assign (.Tuple [.Name x₁ p₁, .Name x₂ p₂] k tp) (compEnvC scope cl C env) (.ref T)) Q E s := by
  refine assign_Tuple_tuple hh ht rfl rfl fun h₅ he => ?_
  have he' : ∀ b o, s.heap.get? b = some o → h₅.get? b = some o := fun b o e => he b o (Nat.ne_of_lt (Heap.lt_size e)) e
  refine assignInOrder_cons (wpAny_assign_Name (wpAny_storeName_local (lookup_relabel_local h1) (hn.at' fun o e => he' _ o e) (fun h₆ hn₆ hs₆ => ?_) (by simp [compEnvC, relabel, hkind])))
  refine assignInOrder_cons (wpAny_assign_Name (wpAny_storeName_local (lookup_relabel_local h2) hn₆ (fun h₃ hn₃ hs₃ => ?_) (by simp [compEnvC, relabel, hkind])))
  refine assignInOrder_nil ?_
  exact hQ h₃ _ _ hn₃ (by simp [h12]) (by simp) fun b o hb e => hs₃.extBut b o hb (hs₆.extBut b o hb (he' b o e))
theorem asg3 {x₁ x₂ x₃ : Str} {p₁ p₂ p₃ tp : Pos} {k : Nat} {v₁ v₂ v₃ : Value} {m' : Str → Option Value} {Q : Unit → Shared → Prop} (hh : A.handled = none) (hkind : scope.kind = .function)
    (h1 : scope.names.lookup x₁ = some .local) (h2 : scope.names.lookup x₂ = some .local) (h3 : scope.names.lookup x₃ = some .local) (h12 : x₁ ≠ x₂) (h13 : x₁ ≠ x₃) (h23 : x₂ ≠ x₃) (ht : s.heap.IsTuple T #[v₁, v₂, v₃]) (hn : s.heap.Ns C m')
    (hQ : ∀ h' tk m'', h'.Ns C m'' → m'' x₁ = some v₁ → m'' x₂ = some v₂ → m'' x₃ = some v₃ → (∀ b o, b ≠ C → s.heap.get? b = some o → h'.get? b = some o) → Q () { s with heap := h', toks := tk }) :
    wpAny (model prog w) A (assign (.Tuple [.Name x₁ p₁, .Name x₂ p₂, .Name x₃ p₃] k tp) (compEnvC scope cl C env) (.ref T)) Q E s := by
  refine assign_Tuple_tuple hh ht rfl rfl fun h₅ he => ?_
  have he' : ∀ b o, s.heap.get? b = some o → h₅.get? b = some o := fun b o e => he b o (Nat.ne_of_lt (Heap.lt_size e)) e
  refine assignInOrder_cons (wpAny_assign_Name (wpAny_storeName_local (lookup_relabel_local h1) (hn.at' fun o e => he' _ o e) (fun h₆ hn₆ hs₆ => ?_) (by simp [compEnvC, relabel, hkind])))
  refine assignInOrder_cons (wpAny_assign_Name (wpAny_storeName_local (lookup_relabel_local h2) hn₆ (fun h₇ hn₇ hs₇ => ?_) (by simp [compEnvC, relabel, hkind])))
  refine assignInOrder_cons (wpAny_assign_Name (wpAny_storeName_local (lookup_relabel_local h3) hn₇ (fun h₃ hn₃ hs₃ => ?_) (by simp [compEnvC, relabel, hkind])))
  refine assignInOrder_nil ?_
  exact hQ h₃ _ _ hn₃ (by simp [h12, h13]) (by simp [h23]) (by simp) fun b o hb e => hs₃.extBut b o hb (hs₇.extBut b o hb (hs₆.extBut b o hb (he' b o e)))

variable {elt : Expr} {news : List (Addr × Obj)} {Q : Value → Shared → Prop} {FF : Shared → List Value → List (Addr × Obj) → Prop}
/-- enumerate(a made list) as a comprehension's source -/
theorem enum_src {l : Addr} {lo : Obj} {vs : List Value} {nn : Nat} {x₁ x₂ : Str} {p₁ p₂ tp : Pos} {k : Nat} (J : Nat → List Value → List (Addr × Obj) → Prop) (hh : A.handled = none) (F : Fr h₀ L s.heap m) (N : News h₀ L s.heap news)
    (hm : (l, lo) ∈ news) (hc : lo.cls = .type "list") (hd : lo.data = .seq vs.toArray nn) (hsz : vs.length ≤ sizeLine) (hkind : scope.kind = .function)
    (h1 : scope.names.lookup x₁ = some .local) (h2 : scope.names.lookup x₂ = some .local) (h12 : x₁ ≠ x₂) (h0 : J 0 [] news)
    (step : KStep prog w A h₀ L m env elt scope cl s vs.length (fun i m₂ => ∃ t v, vs[i]? = some v ∧ m₂ x₁ = some (.int i t) ∧ m₂ x₂ = some v) J)
    (fin : ∀ h' ys news', J vs.length ys news' → FF { s with heap := h' } ys news') :
    wpAny (model prog w) A (call (.type "enumerate") [.ref l]) (fun xv s₁ => wpAny (model prog w) A (pyIter xv) (KSrc prog w A h₀ L m env elt [.Name x₁ p₁, .Name x₂ p₂] k tp scope cl FF) E s₁) E s := by
  have hax := N _ hm
  have hl : s.heap.IsList l vs.toArray := ⟨lo, hax.1, hc, nn, hd⟩
  have hlt : l < s.heap.objs.size := Heap.lt_size hax.1
  have hLs : L < s.heap.objs.size := F.ns.lt
  refine call_enumerate_list hl fun h' hE hI hsz' hk => ?_
  refine wpAny_pyIter_enum hE ?_
  refine ⟨_, _, _, vs.length, _, _, _, _, J, news, rfl, (WalksT.enumerate hh (s.heap.objs.size + 1) s.heap.objs.size l (Nat.succ_ne_self _) (ktu_ne 1 hlt) (Nat.ne_of_lt hlt) vs.toArray).toU, hsz, ?_, ⟨⟨.none, hE⟩, hI, hl.at fun o e => hk l o e⟩, ?_, F.keeps hk, N.grown hk, ?_, ?_, ?_, h0, ?_, step, fin h'⟩
  · rintro i h ⟨⟨old, he⟩, ⟨oi, hoi, hic, _⟩, _⟩ b hb
    rcases List.mem_cons.mp hb with rfl | hb
    · exact ⟨_, he⟩
    · rw [List.mem_singleton.mp hb]; exact ⟨_, hoi⟩
  · intro b hb
    show b < h'.objs.size
    rw [hsz']
    have hb' : b = s.heap.objs.size + 1 ∨ b = s.heap.objs.size ∨ b = l := by simpa using hb
    rcases hb' with rfl | rfl | rfl
    · exact Nat.lt_succ_self _
    · exact Nat.lt_succ_of_lt (Nat.lt_succ_self _)
    · exact Nat.lt_of_lt_of_le hlt (Nat.le_add_right _ _)
  · intro hI'
    have hb' : L = s.heap.objs.size + 1 ∨ L = s.heap.objs.size ∨ L = l := by simpa using hI'
    rcases hb' with e | e | e
    · exact ktu_ne 1 hLs e
    · exact Nat.ne_of_lt hLs e
    · exact hax.2.1 e.symm
  · intro b hb
    have hb' : b = s.heap.objs.size + 1 ∨ b = s.heap.objs.size := by simpa using hb
    rcases hb' with rfl | rfl
    · exact ktu_new F (Nat.le_add_right _ _)
    · exact ktu_new F (Nat.le_refl _)
  · intro p hp hI'
    have hb' : p.1 = s.heap.objs.size + 1 ∨ p.1 = s.heap.objs.size := by simpa using hI'
    have hlp := Heap.lt_size (N p hp).1
    rcases hb' with e | e
    · exact ktu_ne 1 hlp e
    · exact Nat.ne_of_lt hlp e
  · rintro i T vals C s' Q' E' m' ⟨t, x, hx, rfl⟩ hT hn hQ
    refine asg2 hh hkind h1 h2 h12 hT hn fun h' tk m'' a b c d => hQ h' tk m'' a ⟨t, x, by simpa using hx, b, c⟩ d
/-- the same, each item told alone, the ledger fixed -/
theorem enum_fix {l : Addr} {lo : Obj} {vs : List Value} {nn : Nat} {x₁ x₂ : Str} {p₁ p₂ tp : Pos} {k : Nat} (R : Nat → Value → Prop) (hh : A.handled = none) (F : Fr h₀ L s.heap m) (N : News h₀ L s.heap news)
    (hm : (l, lo) ∈ news) (hc : lo.cls = .type "list") (hd : lo.data = .seq vs.toArray nn) (hsz : vs.length ≤ sizeLine) (hkind : scope.kind = .function)
    (h1 : scope.names.lookup x₁ = some .local) (h2 : scope.names.lookup x₂ = some .local) (h12 : x₁ ≠ x₂)
    (step : ∀ (i : Nat) (v : Value) t ys own oC C D m₂ h tk (E' : Value → Shared → Prop), vs[i]? = some v → m₂ x₁ = some (.int i t) → m₂ x₂ = some v → NsObj oC m₂ → Fr h₀ L h m → News h₀ L h ((C, oC) :: (D, lst ys) :: (news ++ own)) → C ≠ D →
      wpAny (model prog w) A (eval elt (compEnvC scope cl C env)) (KEnd h₀ L m s C oC D (lst ys) own news (fun y news' => news' = news ∧ R i y)) E' { s with heap := h, toks := tk })
    (fin : ∀ ys D h tk, ys.length = vs.length → (∀ (j : Nat) (v : Value), ys[j]? = some v → R j v) → Fr h₀ L h m → News h₀ L h ((D, lst ys) :: news) → (∀ p ∈ news, p.1 ≠ D) → Q (.ref D) { s with heap := h, toks := tk }) :
    wpAny (model prog w) A (call (.type "enumerate") [.ref l]) (fun xv s₁ => wpAny (model prog w) A (pyIter xv) (KSrc prog w A h₀ L m env elt [.Name x₁ p₁, .Name x₂ p₂] k tp scope cl (FinK h₀ L m Q)) E s₁) E s := by
  refine enum_src (fun i ys news' => news' = news ∧ Rows (fun j v _ => R j v) i ys news') hh F N hm hc hd hsz hkind h1 h2 h12 ⟨rfl, .nil⟩ ?_ ?_
  · intro i ys news' own oC C D m₂ h tk E' hi hl hJ hB hC F' N' hCD
    obtain ⟨rfl, hR⟩ := hJ
    obtain ⟨t, v, hv, e1, e2⟩ := hB
    refine wpAny_mono (step i v t ys own oC C D m₂ h tk E' hv e1 e2 hC F' N' hCD) (fun y s' h' => ?_) fun _ _ e => e
    obtain ⟨h₁, tk₁, news₁, e, F₁, N₁, w₁, e₁, r⟩ := h'
    exact ⟨h₁, tk₁, news₁, e, F₁, N₁, w₁, e₁, by subst e₁; exact hR.snoc (fun _ _ y => y) r⟩
  · intro h₂ ys news' hJ D h tk F' N' o
    obtain ⟨rfl, hR⟩ := hJ
    exact fin ys D h tk hR.len hR.all F' N' o
theorem newer_refl {own news : List (Addr × Obj)} : Newer own news news := fun p h => .inl ⟨p.2, h⟩
end
end Mine
end
/-! part M1 -/
section
open PySem PySem.W PyProof.Rows PySem.Calls
set_option Elab.async false
set_option maxRecDepth 100000
set_option maxHeartbeats 8000000
set_option linter.unusedSimpArgs false
namespace Mine

theorem kw40 : True := by
  w_top off
  k_with_none
  k_with "mine ne" => first | (with_reducible first | assumption | (refine Ne.symm ?_; assumption)) | (with_reducible ((repeat (first | (rename ((_ ≠ _ ∧ _) ∧ _) => hZk; obtain ⟨_, _⟩ := hZk) | (rename (_ ≠ _ ∧ _) => hZk; obtain ⟨_, _⟩ := hZk))); first | assumption | (refine Ne.symm ?_; assumption))) | ((repeat (refine Mine.aS ?_)); (first | refine Nat.ne_of_lt ?_ | refine Nat.ne_of_gt ?_); (repeat (first | exact Mine.lA _ | refine Mine.lB ?_)); done) | (with_reducible ((repeat (rename (@LT.lt _ _ _ _ ∧ _) => hZk; obtain ⟨_, _⟩ := hZk)); first | (refine Nat.ne_of_lt ?_; assumption) | (refine Nat.ne_of_gt ?_; assumption)))
  k_with "mine enter" => (k_dflt (refine' enter ?k1Zk ?k8Zk ?k6Zk ?k7Zk ?k9Zk ?kBZk ?c5Zk ?c2Zk ?c3Zk ?c4Zk ?_; (case k1Zk => assumption); (case k6Zk => k_is); (case k7Zk => k_is); (case k8Zk => (dsimp only [Ar, recursionLimit]; first | with_reducible exact Mine.dU0 (by assumption) | with_reducible exact Mine.dU1 (by assumption) (by decide) | with_reducible exact Mine.dU2 (by assumption) (by decide) | omega)); (case k9Zk => exact BindsTo.of_eq rfl); (case c5Zk => decide); (case kBZk => exact locs rfl); (case c2Zk => exact rfl); (case c3Zk => exact rfl); (case c4Zk => exact rfl); k_whole; intro L'Zk h'Zk F'Zk N'Zk B'Zk X'Zk T'Zk; (try dsimp only); (try k_fold)))
  k_with "ite" => first | refine ite_eq (by omega) ?_ | refine ite_ne (by omega) ?_
  k_with "mine enterC" => (k_dflt (refine' enterC (as := []) (led := []) ?k1Zk ?klZk ?k8Zk ?k6Zk ?k7Zk ?k9Zk ?kBZk ?kDZk ?c2Zk ?c3Zk ?c4Zk ?_; (case k1Zk => assumption); (case klZk => exact fun _ q => nomatch q); (case k6Zk => k_is); (case k7Zk => k_is); (case k8Zk => (dsimp only [Ar, recursionLimit]; first | with_reducible exact Mine.dU0 (by assumption) | with_reducible exact Mine.dU1 (by assumption) (by decide) | with_reducible exact Mine.dU2 (by assumption) (by decide) | omega)); (case k9Zk => exact BindsTo.of_eq rfl); (case kBZk => exact rfl); (case kDZk => decide +kernel); (case c2Zk => exact rfl); (case c3Zk => exact rfl); (case c4Zk => exact rfl); k_whole; intro L'Zk h'Zk tk'Zk cells'Zk F'Zk N'Zk Y'Zk B'Zk X'Zk T'Zk l1Zk; clear l1Zk; k_cells Y'Zk; (try simp only [List.cons_append, List.nil_append, List.append_nil] at N'Zk); (try dsimp only [hideAll] at F'Zk N'Zk B'Zk X'Zk T'Zk); (try dsimp only); (try k_fold)))
  trivial
open LCg PySem.Spec
theorem kw41 : True := by
  k_with "eval ListComp" => (k_here; (with_reducible show wpAny _ _ (eval (PySem.Expr.ListComp _ [⟨PySem.Expr.Tuple _ _ _, _, _, _⟩] _ _) _) _ _ _); k_dflt (refine ListComp_K (by k_asm) (by with_unfolding_all rfl) (by decide) (by rfl) (by decide) ?_))
  k_with "eval ListComp" => (k_here; (with_reducible show wpAny _ _ (eval (PySem.Expr.ListComp _ [⟨PySem.Expr.Name _ _, _, _, _⟩] _ _) _) _ _ _); k_dflt (refine LCg.ListComp_U (F₀ := by k_asm) (by with_unfolding_all rfl) (by decide) (by rfl) (by decide) (by rfl) ?_))
  trivial
theorem strsOf {T : Nat → Str} : ∀ (ys : List Value) (k : Nat), (∀ (j : Nat) (v : Value), ys[j]? = some v → ∃ t, v = .str (T (k + j)) t) → StrsAre ys ((List.range' k ys.length).map T)
  | [], _, _ => .nil
  | y :: ys, k, h => by
    obtain ⟨t, e⟩ := h 0 y rfl
    subst e
    exact .cons _ _ (strsOf ys (k + 1) fun j v hv => by
      have := h (j + 1) v hv
      rwa [show k + (j + 1) = k + 1 + j from by omega] at this)
/-- how a mail's rows end -/
structure EndsAt (h : Heap) (e : Addr) (n : Nat) (Es : Nat → Str) : Prop where
  ex : ∃ vs : List Value, IsTup h e vs.toArray ∧ vs.length = n ∧ ∀ k, k < n → ∃ t, vs[k]? = some (.str (Es k) t)
/-- a mail's rows -/
def rowT (p0 p1 p2 : Int) : Nat → Str
  | 0 => Str.ofString "a"
  | 1 => Txt.mul (Str.ofString ".") p0 ++ Str.ofString "a"
  | 2 => Txt.mul (Str.ofString ".") p1 ++ Str.ofString "a"
  | _ => Txt.mul (Str.ofString ".") p2 ++ Str.ofString "a"
def mailL (p0 p1 p2 x : Int) (n : Nat) (Es : Nat → Str) : List Str := (List.range' 0 4).map fun j => rowT p0 p1 p2 j ++ Es ((x + (j : Int)) % (n : Int)).toNat
def mailT (p0 p1 p2 x : Int) (n : Nat) (Es : Nat → Str) : Str := Txt.join (Str.ofString "") (mailL p0 p1 p2 x n Es)
theorem mul_len {p : Int} (h : 1 ≤ p ∧ p ≤ 20) : (Txt.mul (Str.ofString ".") p).length ≤ 20 := by
  obtain ⟨h1, h2⟩ := h
  obtain ⟨k, rfl⟩ := Int.eq_ofNat_of_zero_le (show 0 ≤ p by omega)
  have : k ≤ 20 := by omega
  have all : ∀ k : Nat, k ≤ 20 → (Txt.mul (Str.ofString ".") (k : Int)).length ≤ 20 := by decide +kernel
  exact all k this
theorem row_len {p0 p1 p2 : Int} (h0 : 1 ≤ p0 ∧ p0 ≤ 20) (h1 : 1 ≤ p1 ∧ p1 ≤ 20) (h2 : 1 ≤ p2 ∧ p2 ≤ 20) (i : Nat) : (rowT p0 p1 p2 i).length ≤ 21 := by
  have e : (Str.ofString "a").length = 1 := by decide
  have l0 := mul_len h0
  have l1 := mul_len h1
  have l2 := mul_len h2
  have ap : ∀ y : Str, y.length ≤ 20 → (y ++ Str.ofString "a").length ≤ 21 := fun y hy => by rw [PySem.Str.length_append, e]; omega
  unfold rowT
  split
  · rw [e]; decide
  · exact ap _ l0
  · exact ap _ l1
  · exact ap _ l2
theorem mail_sum {p0 p1 p2 x : Int} {n : Nat} {Es : Nat → Str} (h0 : 1 ≤ p0 ∧ p0 ≤ 20) (h1 : 1 ≤ p1 ∧ p1 ≤ 20) (h2 : 1 ≤ p2 ∧ p2 ≤ 20) (hE : ∀ k, (Es k).length ≤ 2) :
    ((mailL p0 p1 p2 x n Es).map (·.length)).sum + (mailL p0 p1 p2 x n Es).length * (Str.ofString "").length ≤ 16777216 := by
  have r := row_len h0 h1 h2
  have e : (Str.ofString "").length = 0 := by decide
  rw [e, Nat.mul_zero, Nat.add_zero]
  simp only [mailL, List.range', List.map_cons, List.map_nil, List.sum_cons, List.sum_nil, PySem.Str.length_append]
  have r0 := r 0
  have r1 := r (0 + 1)
  have r2 := r (0 + 1 + 1)
  have r3 := r (0 + 1 + 1 + 1)
  have q := fun j : Nat => hE ((x + (j : Int)) % (n : Int)).toNat
  have q0 := q 0
  have q1 := q (0 + 1)
  have q2 := q (0 + 1 + 1)
  have q3 := q (0 + 1 + 1 + 1)
  omega
section
variable {prog : Program} {w : World} {A : Around} {E : Value → Shared → Prop} {s : Shared} {Q : Value → Shared → Prop}
theorem modP {a b : Int} {t u : Tok} (hb : 0 < b) (h : Q (.int (a % b) s.toks) { s with toks := s.toks + 1 }) : wpAny (model prog w) A (binaryOp .Mod (.int a t) (.int b u)) Q E s := by
  refine PyProof.Rows.mod_int' (by omega) ?_
  rw [Int.fmod_eq_emod_of_nonneg _ (by omega)]; exact h
theorem lenT {t : Addr} {vs : List Value} {n : Nat} (ht : IsTup s.heap t vs.toArray) (e : vs.length = n) (hn : n ≤ 100) (h : Q (.int n (s.toks + 1)) { s with toks := s.toks + 1 + 1 }) : wpAny (model prog w) A (call (.builtin "len") [.ref t]) Q E s := by
  have e2 : (vs.toArray.size : Int) = n := by simp [e]
  refine len_tuple ht (by rw [e2]; omega) ?_
  rw [e2]; exact h
theorem itemT {value slice : PySem.Expr} {t : Addr} {vs : List Value} {k : Int} {u : Tok} {x : Value} (ht : IsTup s.heap t vs.toArray) (h0 : 0 ≤ k) (h9 : k < 100) (hx : vs[k.toNat]? = some x) (h : Q x s)
    (hs : subscripted slice false (.ref t) (.int k u) = operate [.ref t, .int k u] (getItem (.ref t) (.int k u)) := by with_unfolding_all rfl) (hg : ∀ r, letTemporaryGo value (.ref t) r = pure () := by intro _; with_unfolding_all rfl) :
    wpAny (model prog w) A (subscriptTail value slice (.ref t) (.int k u)) Q E s := by
  have hlt : k.toNat < vs.length := (List.getElem?_eq_some_iff.mp hx).1
  refine item_tuple ht (by omega) (by omega) (j := k.toNat) ?_ (by simpa using hx) h hs hg
  exact seqIndex_of h0 (by simp; omega)
end
theorem keepTup {h h' : Heap} {t : Addr} {a : Array Value} (x : IsTup h t a) (k : ∀ b o, h.get? b = some o → h'.get? b = some o) : IsTup h' t a := let ⟨o, e, r⟩ := x; ⟨o, k _ _ e, r⟩
theorem kw42 : True := by
  k_with "binaryOp Mod int int" => (refine modP (by assumption) ?_; try dsimp only)
  k_with "call builtin:len" => (k_here; (with_reducible show wpAny _ _ (call (Value.builtin "len") [Value.ref _]) _ _ _); k_dflt (refine' lenT ?ltZk ?leZk ?lnZk ?_; (case ltZk => exact keepTup (by assumption) (Fr.keep (by assumption))); (case leZk => assumption); (case lnZk => assumption); k_whole))
  k_with "subscriptTail Name BinOp ref int" => (k_here; k_dflt (refine' itemT ?ltZk ?l0Zk ?l9Zk ?lxZk ?_; (case ltZk => exact keepTup (by assumption) (Fr.keep (by assumption))); (case l0Zk => assumption); (case l9Zk => assumption); (case lxZk => assumption); k_whole))
  k_with "binaryOp Add str str" => (k_here; (with_reducible show wpAny _ _ (binaryOp Operator.Add (Value.str (rowT _ _ _ _) _) (Value.str _ _)) _ _ _); (refine KXadd.add (K := 21) (L := 2) (by assumption) (by assumption) (by decide) ?_); intro _ _ _)
  k_with "call builtin:str.join" => (k_here; k_dflt (refine' join_list ?jlZk ?jsZk ?joZk ?_; (case jlZk => exact News.isList (by assumption) (by k_mem)); (case jsZk => assumption); (case joZk => assumption); k_whole); intro _ _)
  trivial
theorem mail_spec (l e : Addr) (p0 p1 p2 x : Int) (t0 t1 t2 tx : Tok) (n : Nat) (Es : Nat → Str) (hn : 1 ≤ n ∧ n ≤ 3) (hE : ∀ k, (Es k).length ≤ 2) (h0 : 1 ≤ p0 ∧ p0 ≤ 20) (h1 : 1 ≤ p1 ∧ p1 ≤ 20) (h2 : 1 ≤ p2 ∧ p2 ≤ 20) : Spec hd.heap_39 144 3 60 [.ref l, .ref e, .int x tx]
    (fun h => h.IsList l #[.int p0 t0, .int p1 t1, .int p2 t2] ∧ EndsAt h e n Es) (fun v new => ∃ t, v = .str (mailT p0 p1 p2 x n Es) t ∧ new = []) := by
  intro prog w dp un gd base outer p loose mean mg mb s G hd hu hpre
  obtain ⟨hl, hends⟩ := hpre
  obtain ⟨ev, he, hel, hev⟩ := hends.ex
  have hn9 : n ≤ 100 := by omega
  have hnp : 0 < (n : Int) := by omega
  walk_at "mine enterC"
  (rename ((_ : Obj).data = Data.cell (bindC _ _ _ _)) => hc2)
  replace hc2 : _ = Data.cell (some (Value.ref e)) := hc2
  (rename ((_ : Obj).data = Data.cell (bindC _ _ _ _)) => hc1)
  replace hc1 : _ = Data.cell (some (Value.int x tx)) := hc1
  k_steps
  (k_dflt (refine' enum_fix (fun j v => ∃ t, v = .str (rowT p0 p1 p2 j ++ Es ((x + (j : Int)) % (n : Int)).toNat) t) ?uh ?uF ?uN ?um ?uc ?ud ?us ?uk ?u1 ?u2 ?u12 ?ust ?ufin))
  (case uh => rfl)
  (case uF => k_asm)
  (case uN => k_asm)
  (case um => k_mem)
  (case uc => rfl)
  (case ud => rfl)
  (case us => exact Nat.le_of_ble_eq_true rfl)
  (case uk => rfl)
  (case u1 => rfl)
  (case u2 => rfl)
  (case u12 => decide)
  (case ust =>
    intro i v t ys own oC C D m₂ h tk E' hv hj hrow hC F N hCD
    have hvs : i < 4 ∧ ∃ t, v = .str (rowT p0 p1 p2 i) t := by
      match i, hv with
      | 0, hv => exact ⟨by decide, _, (Option.some.inj hv).symm⟩
      | 1, hv => exact ⟨by decide, _, (Option.some.inj hv).symm⟩
      | 2, hv => exact ⟨by decide, _, (Option.some.inj hv).symm⟩
      | 3, hv => exact ⟨by decide, _, (Option.some.inj hv).symm⟩
      | (i + 4), hv => exact nomatch hv
    obtain ⟨hi, tv, rfl⟩ := hvs
    clear hv
    simp only [List.cons_append, List.nil_append] at N
    have q1 : 0 ≤ (x + (i : Int)) % (n : Int) := Int.emod_nonneg _ (by omega)
    have q2 : (x + (i : Int)) % (n : Int) < n := Int.emod_lt_of_pos _ hnp
    have q3 : (x + (i : Int)) % (n : Int) < 100 := by omega
    obtain ⟨te, q4⟩ := hev ((x + (i : Int)) % (n : Int)).toNat (by omega)
    have q5 := row_len h0 h1 h2 i
    have q6 := hE ((x + (i : Int)) % (n : Int)).toNat
    k_steps
    exact ⟨_, _, _, rfl, by k_asm, by k_asm, newer_refl, rfl, _, rfl⟩)
  intro ys D h tk hlen hall F N o
  have hst : StrsAre ys (mailL p0 p1 p2 x n Es) := by
    have := strsOf ys 0 fun j v h => by rw [Nat.zero_add]; exact hall j v h
    rwa [hlen] at this
  have hsum := mail_sum (x := x) (n := n) h0 h1 h2 hE
  clear o
  k_steps
  all_goals (exact back0 (by assumption) ⟨_, rfl, rfl⟩)
end Mine
end
/-! part G4 -/
section
open PySem PySem.W PyProof.Rows PySem.Calls PySem.Spec
set_option Elab.async false
set_option maxRecDepth 100000
namespace Mine
theorem kw43 : True := by
  w_top off
  k_with_none
  k_with "mine ne" => first | (with_reducible first | assumption | (refine Ne.symm ?_; assumption)) | (with_reducible ((repeat (first | (rename ((_ ≠ _ ∧ _) ∧ _) => hZk; obtain ⟨_, _⟩ := hZk) | (rename (_ ≠ _ ∧ _) => hZk; obtain ⟨_, _⟩ := hZk))); first | assumption | (refine Ne.symm ?_; assumption))) | ((repeat (refine Mine.aS ?_)); (first | refine Nat.ne_of_lt ?_ | refine Nat.ne_of_gt ?_); (repeat (first | exact Mine.lA _ | refine Mine.lB ?_)); done) | (with_reducible ((repeat (rename (@LT.lt _ _ _ _ ∧ _) => hZk; obtain ⟨_, _⟩ := hZk)); first | (refine Nat.ne_of_lt ?_; assumption) | (refine Nat.ne_of_gt ?_; assumption)))
  trivial
/-- a turn's end -/
def TEnd (h₀ : Heap) (L : Addr) (own news : List (Addr × Obj)) (R : (Str → Option Value) → List (Addr × Obj) → Prop) (s : Shared) (Q : Flow → Shared → Prop) (f : Flow) (s' : Shared) : Prop :=
  match f with
  | .ret v => Q (.ret v) s'
  | .brk => Q .next s'
  | _ => ∃ h' tk m' news', s' = { s with heap := h', toks := tk } ∧ Fr h₀ L h' m' ∧ News h₀ L h' (news' ++ own) ∧ Newer own news news' ∧ R m' news'
section
variable {prog : Program} {w : World} {A : Around} {E : Value → Shared → Prop} {s : Shared} {h₀ : Heap} {env : Env} {m : Str → Option Value} {news : List (Addr × Obj)} {body : List Stmt} {Q : Flow → Shared → Prop}
theorem newsSwap {h : Heap} {L : Addr} {a b : List (Addr × Obj)} (N : News h₀ L h (a ++ b)) : News h₀ L h (b ++ a) := fun p hp => N p ((List.mem_append.mp hp).elim (fun x => List.mem_append_right _ x) fun x => List.mem_append_left _ x)
theorem turnsAt_of {target : Expr} {I : Addr} {fp wr : List Addr} {n : Nat} {P Md : Nat → Value → Heap → Prop} {St : Nat → Heap → Prop} (J : Nat → (Str → Option Value) → List (Addr × Obj) → Prop)
    (W : KTurns prog w A target I fp wr n P Md St) (hIo : ∀ i h, St i h → ∀ b ∈ wr, ∃ o, h.get? b = some o) (hLf : env.locals ∉ fp) (hwr : ∀ b ∈ wr, h₀.get? b = none) (hnw : ∀ p ∈ news, p.1 ∉ wr) (hst : St 0 s.heap)
    (F : Fr h₀ env.locals s.heap m) (N : News h₀ env.locals s.heap news) (h0 : J 0 m news)
    (turn : ∀ i v m₁ news₁ own h tk, i < n → P i v h → J i m₁ news₁ → Fr h₀ env.locals h m₁ → News h₀ env.locals h (news₁ ++ own) → (∀ q ∈ own, q.1 ∈ fp) → (∀ p ∈ news₁, p.1 ∉ wr) →
      wpAny (model prog w) A (assign target env v) (fun _ s₂ => wpAny (model prog w) A (execs body env) (TEnd h₀ env.locals own news₁ (J (i + 1)) s Q) E s₂) E { s with heap := h, toks := tk })
    (done : ∀ h tk m' news', J n m' news' → Fr h₀ env.locals h m' → News h₀ env.locals h news' → Q .next { s with heap := h, toks := tk }) :
    TurnsAt prog w A h₀ env target body Q E (.ref I) s := by
  refine ⟨I, fp, wr, n, P, Md, St, m, news, J, rfl, W, hLf, hwr, hnw, hst, F, N, h0, ?_, fun h' tk m' news' F' N' _ hJ => done h' tk m' news' hJ F' N'⟩
  intro i v m₁ news₁ h₁ tk₁ own hi hP hJ hoff hsub _ hown hst₁ F₁ N₁
  refine wpAny_mono (turn i v m₁ news₁ own h₁ tk₁ hi hP hJ F₁ (newsSwap N₁) hsub hoff) (fun _ s₂ h₂ => wpAny_mono h₂ (fun f s₃ h₃ => ?_) fun _ _ e => e) fun _ _ e => e
  have fin : (∃ h' tk m' news', s₃ = { s with heap := h', toks := tk } ∧ Fr h₀ env.locals h' m' ∧ News h₀ env.locals h' (news' ++ own) ∧ Newer own news₁ news' ∧ J (i + 1) m' news') → LoopStepU h₀ env.locals wr own (J (i + 1)) { s with heap := h₁, toks := tk₁ } .next s₃ := by
    rintro ⟨h', tk, m', news', e, F', N', nw, hj⟩
    refine ⟨rfl, h', tk, m', news', e, F', newsSwap N', fun p hp hw => ?_, hj⟩
    rcases nw p hp with ⟨o, h⟩ | h
    · exact hoff (p.1, o) h hw
    · obtain ⟨o, ho⟩ := hIo _ _ hst₁ _ hw
      exact h (p.1, o) (hown _ (W.sub _ hw) (hwr _ hw) o ho) rfl
  cases f with
  | ret v => exact h₃
  | brk => exact h₃
  | next => exact .next (fin h₃)
  | cont => exact .cont (fin h₃)
theorem range_for {r : Addr} {a b : Int} {t u v : Tok} {n : Nat} {x : Str} {px : Pos} (J : Nat → (Str → Option Value) → List (Addr × Obj) → Prop) (hh : A.handled = none) (hr : IsRange s.heap r a b 1 t u v) (hsm : Builtin.Range.small a b 1 = true) (hn : Builtin.Range.rangeSize a b 1 = ((n : Nat) : Int))
    (F : Fr h₀ env.locals s.heap m) (N : News h₀ env.locals s.heap news) (h0 : J 0 m news)
    (turn : ∀ i t m₁ news₁ own h tk, i < n → J i m₁ news₁ → Fr h₀ env.locals h m₁ → News h₀ env.locals h (news₁ ++ own) → (∀ q ∈ own, ∀ p ∈ news₁, p.1 ≠ q.1) →
      wpAny (model prog w) A (assign (.Name x px) env (.int (a + (i : Int)) t)) (fun _ s₂ => wpAny (model prog w) A (execs body env) (TEnd h₀ env.locals own news₁ (J (i + 1)) s Q) E s₂) E { s with heap := h, toks := tk })
    (done : ∀ h tk m' news', J n m' news' → Fr h₀ env.locals h m' → News h₀ env.locals h news' → Q .next { s with heap := h, toks := tk }) :
    wpAny (model prog w) A (pyIter (.ref r)) (fun it s₂ => TurnsAt prog w A h₀ env (.Name x px) body Q E it s₂) E s := by
  refine wpAny_pyIter_range hr hsm ?_
  have hL : env.locals < s.heap.objs.size := F.ns.lt
  refine turnsAt_of (s := { s with heap := s.heap.push _ }) J (KTurns.ofWalks (LCg.range_walks hh a n) fun i v s Q E st q => ?_) (fun i h st b hb => ?_) ?_ (fun b hb => ?_) (fun p hp hI => ?_) ?_ (F.push _) (fun p hp => ⟨Heap.get?_push_of_some _ (N p hp).1, (N p hp).2⟩) h0 ?_ done
  · exact wpAny_of_eq (a := ()) (show letOwnedTupleGo (.Name x px) _ _ = pure () from rfl) q
  · rw [List.mem_singleton.mp hb]; exact ⟨_, st⟩
  · intro hI
    exact absurd hL (List.mem_singleton.mp hI ▸ Nat.lt_irrefl _)
  · rw [List.mem_singleton.mp hb]; exact next_is_new F
  · exact absurd (Heap.lt_size (N p hp).1) ((List.mem_singleton.mp hI) ▸ Nat.lt_irrefl _)
  · show IsRangeIter _ _ _ _ _
    rw [hn]; simpa using Heap.get?_push_size _ rfl
  · rintro i v m₁ news₁ own h tk hi ⟨t, rfl⟩ hJ F₁ N₁ o1 o2
    exact turn i t m₁ news₁ own h tk hi hJ F₁ N₁ fun q hq p hp e => o2 p hp (e ▸ o1 q hq)
theorem list_for {l : Addr} {lo : Obj} {vs : List Value} {nn : Nat} {x : Str} {px : Pos} (J : Nat → (Str → Option Value) → List (Addr × Obj) → Prop) (hh : A.handled = none) (F : Fr h₀ env.locals s.heap m) (N : News h₀ env.locals s.heap news)
    (hm : (l, lo) ∈ news) (hc : lo.cls = .type "list") (hd : lo.data = .seq vs.toArray nn) (h0 : J 0 m news)
    (turn : ∀ (i : Nat) (v : Value) m₁ news₁ own h tk, vs[i]? = some v → J i m₁ news₁ → Fr h₀ env.locals h m₁ → News h₀ env.locals h (news₁ ++ own) → (∀ q ∈ own, ∀ p ∈ news₁, p.1 ≠ l → p.1 ≠ q.1) →
      wpAny (model prog w) A (assign (.Name x px) env v) (fun _ s₂ => wpAny (model prog w) A (execs body env) (TEnd h₀ env.locals own news₁ (J (i + 1)) s Q) E s₂) E { s with heap := h, toks := tk })
    (done : ∀ h tk m' news', J vs.length m' news' → Fr h₀ env.locals h m' → News h₀ env.locals h news' → Q .next { s with heap := h, toks := tk }) :
    wpAny (model prog w) A (pyIter (.ref l)) (fun it s₂ => TurnsAt prog w A h₀ env (.Name x px) body Q E it s₂) E s := by
  have hax := N _ hm
  have hl : s.heap.IsList l vs.toArray := ⟨lo, hax.1, hc, nn, hd⟩
  have hlt : l < s.heap.objs.size := Heap.lt_size hax.1
  have hne : l ≠ s.heap.objs.size := Nat.ne_of_lt hlt
  have hL : env.locals < s.heap.objs.size := F.ns.lt
  refine wpAny_pyIter_list hl ?_
  have W := KTurns.ofWalks (target := .Name x px) (Walks.list (prog := prog) (w := w) hh s.heap.objs.size l hne vs.toArray) fun i v s Q E st q => letGo_listiter st.1 q
  rw [List.size_toArray] at W
  refine turnsAt_of (s := { s with heap := s.heap.push _ }) J W (fun i h st b hb => ?_) ?_ (fun b hb => ?_) (fun p hp hI => ?_) ⟨⟨_, Heap.get?_push_size _ rfl, rfl, rfl⟩, hl.at fun o e => Heap.get?_push_of_some _ e⟩ (F.push _) (fun p hp => ⟨Heap.get?_push_of_some _ (N p hp).1, (N p hp).2⟩) h0 ?_ done
  · rw [List.mem_singleton.mp hb]
    obtain ⟨o, e, _⟩ := st.1
    exact ⟨o, e⟩
  · intro hI
    rcases List.mem_cons.mp hI with e | hI
    · exact absurd hL (e ▸ Nat.lt_irrefl _)
    · exact hax.2.1 (List.mem_singleton.mp hI).symm
  · rw [List.mem_singleton.mp hb]; exact next_is_new F
  · exact absurd (Heap.lt_size (N p hp).1) ((List.mem_singleton.mp hI) ▸ Nat.lt_irrefl _)
  · rintro i v m₁ news₁ own h tk hi hP hJ F₁ N₁ o1 o2
    have hp' : vs.toArray[i]? = some v := hP
    refine turn i v m₁ news₁ own h tk (by simpa using hp') hJ F₁ N₁ fun q hq p hp hl e => ?_
    have h1 := o1 q hq
    rcases List.mem_cons.mp h1 with h1 | h1
    · exact o2 p hp (by rw [e, h1]; exact List.mem_singleton.mpr rfl)
    · exact hl (e.trans (List.mem_singleton.mp h1))
theorem zip_for {l1 l2 : Addr} {o1 o2 : Obj} {v1 v2 : List Value} {n1 n2 n : Nat} {elts : List Expr} {k : Nat} {tp : Pos} (J : Nat → (Str → Option Value) → List (Addr × Obj) → Prop) (hh : A.handled = none) (F : Fr h₀ env.locals s.heap m) (N : News h₀ env.locals s.heap news)
    (m1 : (l1, o1) ∈ news) (c1 : o1.cls = .type "list") (d1 : o1.data = .seq v1.toArray n1) (m2 : (l2, o2) ∈ news) (c2 : o2.cls = .type "list") (d2 : o2.data = .seq v2.toArray n2) (e1 : v1.length = n) (e2 : v2.length = n) (h0 : J 0 m news)
    (turn : ∀ (i : Nat) (x y : Value) T m₁ news₁ own h tk, v1[i]? = some x → v2[i]? = some y → IsTup h T #[x, y] → J i m₁ news₁ → Fr h₀ env.locals h m₁ → News h₀ env.locals h (news₁ ++ own) → (∀ q ∈ own, ∀ p ∈ news, p.1 ≠ l1 → p.1 ≠ l2 → p.1 ≠ q.1) →
      wpAny (model prog w) A (assign (.Tuple elts k tp) env (.ref T)) (fun _ s₂ => wpAny (model prog w) A (execs body env) (TEnd h₀ env.locals own news₁ (J (i + 1)) s Q) E s₂) E { s with heap := h, toks := tk })
    (done : ∀ h tk m' news', J n m' news' → Fr h₀ env.locals h m' → News h₀ env.locals h news' → Q .next { s with heap := h, toks := tk }) :
    wpAny (model prog w) A (call (.type "zip") [.ref l1, .ref l2]) (fun xv s₁ => wpAny (model prog w) A (pyIter xv) (fun it s₂ => TurnsAt prog w A h₀ env (.Tuple elts k tp) body Q E it s₂) E s₁) E s := by
  have b1 := N _ m1
  have b2 := N _ m2
  have q1 : s.heap.IsList l1 v1.toArray := ⟨o1, b1.1, c1, n1, d1⟩
  have q2 : s.heap.IsList l2 v2.toArray := ⟨o2, b2.1, c2, n2, d2⟩
  have t1 : l1 < s.heap.objs.size := Heap.lt_size b1.1
  have t2 : l2 < s.heap.objs.size := Heap.lt_size b2.1
  have hLs : env.locals < s.heap.objs.size := F.ns.lt
  have D : ZipApart (s.heap.objs.size + 4) (s.heap.objs.size + 2) (s.heap.objs.size + 3) s.heap.objs.size (s.heap.objs.size + 1) l1 l2 := ktu_apart _ _ _ t1 t2
  refine call_zip_2 q1 q2 fun h' hz hTI hTO hi1 hi2 hsz hk => ?_
  refine wpAny_pyIter_zip hz ?_
  have W := KTurns.ofWalksU (elts := elts) (k := k) (pos := tp) (WalksT.zip2 (prog := prog) (w := w) hh _ _ _ _ _ _ _ D v1.toArray v2.toArray).toU
  have em : min v1.toArray.size v2.toArray.size = n := by simp [e1, e2]
  rw [em] at W
  have wr0 : ∀ b ∈ [s.heap.objs.size + 4, s.heap.objs.size + 3, s.heap.objs.size, s.heap.objs.size + 1], s.heap.objs.size ≤ b := fun b hb => by
    have hb' : b = s.heap.objs.size + 4 ∨ b = s.heap.objs.size + 3 ∨ b = s.heap.objs.size ∨ b = s.heap.objs.size + 1 := by simpa using hb
    rcases hb' with rfl | rfl | rfl | rfl
    · exact Nat.le_add_right _ _
    · exact Nat.le_add_right _ _
    · exact Nat.le_refl _
    · exact Nat.le_add_right _ _
  refine turnsAt_of (s := { s with heap := h' }) J W (fun i h st b hb => ?_) ?_ (fun b hb => ktu_new F (wr0 b hb)) (fun p hp hI => absurd (Heap.lt_size (N p hp).1) (Nat.not_lt.mpr (wr0 _ hI))) ⟨hz, hTI, ⟨_, _, hTO⟩, hi1, hi2, q1.at fun o e => hk l1 o e, q2.at fun o e => hk l2 o e⟩ (F.keeps hk) (N.grown hk) h0 ?_ done
  · obtain ⟨z1, z2, ⟨u, v, z3⟩, ⟨oi, z4, _⟩, ⟨oj, z5, _⟩, _⟩ := st
    have hb' : b = s.heap.objs.size + 4 ∨ b = s.heap.objs.size + 3 ∨ b = s.heap.objs.size ∨ b = s.heap.objs.size + 1 := by simpa using hb
    rcases hb' with rfl | rfl | rfl | rfl
    · exact ⟨_, z1⟩
    · exact ⟨_, z3⟩
    · exact ⟨_, z4⟩
    · exact ⟨_, z5⟩
  · intro hI'
    have hb' : env.locals = s.heap.objs.size + 4 ∨ env.locals = s.heap.objs.size + 2 ∨ env.locals = s.heap.objs.size + 3 ∨ env.locals = s.heap.objs.size ∨ env.locals = s.heap.objs.size + 1 ∨ env.locals = l1 ∨ env.locals = l2 := by simpa using hI'
    have ge : ∀ j : Nat, env.locals ≠ s.heap.objs.size + j := fun j e => absurd (show s.heap.objs.size + j < s.heap.objs.size from e ▸ hLs) (Nat.not_lt.mpr (Nat.le_add_right _ _))
    rcases hb' with e | e | e | e | e | e | e
    · exact ge 4 e
    · exact ge 2 e
    · exact ge 3 e
    · exact ge 0 e
    · exact ge 1 e
    · exact b1.2.1 e.symm
    · exact b2.2.1 e.symm
  · rintro i v m₁ news₁ own h tk hi ⟨T, vals, rfl, ⟨x, y, hx, hy, rfl⟩, hT⟩ hJ F₁ N₁ o1 _
    refine turn i x y T m₁ news₁ own h tk (by simpa using hx) (by simpa using hy) hT hJ F₁ N₁ fun q hq p hp h1 h2 e => ?_
    have hlp : p.1 < s.heap.objs.size := Heap.lt_size (N p hp).1
    have ge : ∀ j : Nat, p.1 ≠ s.heap.objs.size + j := fun j e => absurd (show s.heap.objs.size + j < s.heap.objs.size from e ▸ hlp) (Nat.not_lt.mpr (Nat.le_add_right _ _))
    have hb' : p.1 = s.heap.objs.size + 4 ∨ p.1 = s.heap.objs.size + 2 ∨ p.1 = s.heap.objs.size + 3 ∨ p.1 = s.heap.objs.size ∨ p.1 = s.heap.objs.size + 1 ∨ p.1 = l1 ∨ p.1 = l2 := by
      have := o1 q hq
      rw [← e] at this
      simpa using this
    rcases hb' with e | e | e | e | e | e | e
    · exact ge 4 e
    · exact ge 2 e
    · exact ge 3 e
    · exact ge 0 e
    · exact ge 1 e
    · exact h1 e
    · exact h2 e
/-- an item put to a made list -/
theorem append1 {A : Around} {E Q : Value → Shared → Prop} {L a : Addr} {vs : List Value} {nn : Nat} {x : Value} {rest : List (Addr × Obj)} (F : Fr h₀ L s.heap m) (N : News h₀ L s.heap ((a, PySem.W.listOf vs.toArray nn) :: rest)) (hr : ∀ q ∈ rest, a ≠ q.1) (hsz : vs.length ≤ 1000)
    (h : ∀ h', Fr h₀ L h' m → News h₀ L h' ((a, PySem.W.listOf (vs ++ [x]).toArray (nn + 1)) :: rest) → Q .none { s with heap := h' }) : wpAny (model prog w) A (call (.builtin "list.append") [.ref a, x]) Q E s := by
  have ha := N _ (.head _)
  have z : 1000 ≤ sizeLine := Nat.le_of_ble_eq_true rfl
  refine append_at (its := vs.toArray) (n := nn) ha.1 (fun h' hs hD => ?_) (by rw [List.size_toArray]; omega)
  refine h h' (F.change hs ha.2.1 ha.2.2) (List.forall_mem_cons.mpr ⟨⟨?_, ha.2⟩, fun q hq => ⟨hs.extBut _ _ (Ne.symm (hr q hq)) (N q (.tail _ hq)).1, (N q (.tail _ hq)).2⟩⟩)
  rw [hD, List.push_toArray]
/-- an item put to a made list, wherever the ledger has it -/
theorem appendU {A : Around} {E Q : Value → Shared → Prop} {L a : Addr} {vs : List Value} {nn : Nat} {x : Value} {g : Obj → List (Addr × Obj)} (F : Fr h₀ L s.heap m) (N : News h₀ L s.heap news) (U : UpdF a (PySem.W.listOf vs.toArray nn) news g) (hsz : vs.length ≤ 1000)
    (h : ∀ h', Fr h₀ L h' m → News h₀ L h' (g (PySem.W.listOf (vs ++ [x]).toArray (nn + 1))) → Q .none { s with heap := h' }) : wpAny (model prog w) A (call (.builtin "list.append") [.ref a, x]) Q E s := by
  obtain ⟨pre, post, rfl, hg, h1, h2⟩ := U.split
  have ha := N (a, PySem.W.listOf vs.toArray nn) (List.mem_append_right _ (.head _))
  have z : 1000 ≤ sizeLine := Nat.le_of_ble_eq_true rfl
  refine append_at (its := vs.toArray) (n := nn) ha.1 (fun h' hs hD => ?_) (by rw [List.size_toArray]; omega)
  refine h h' (F.change hs ha.2.1 ha.2.2) (hg _ ▸ N.setAt h1 h2 hs ?_)
  rw [hD, List.push_toArray]
theorem newsSub {h : Heap} {L : Addr} {a b : List (Addr × Obj)} (N : News h₀ L h a) (hs : ∀ p ∈ b, p ∈ a) : News h₀ L h b := fun p hp => N p (hs p hp)
theorem AllLt.mem {d : Addr} : ∀ {l : List (Addr × Obj)}, AllLt d l → ∀ p ∈ l, @LT.lt Nat _ p.1 d
  | [], _, _, h => nomatch h
  | q :: r, x, p, h => by
    rcases List.mem_cons.mp h with rfl | h
    · exact x.1
    · exact AllLt.mem x.2 p h
end
end Mine
end
/-! part R1 -/
section
open PySem PySem.W PyProof.Rows PySem.Calls PySem.Sre
set_option Elab.async false
set_option maxRecDepth 100000
namespace Mine
theorem kw44 : True := by
  w_top off
  k_with_none
  k_with "mine ne" => first | (with_reducible first | assumption | (refine Ne.symm ?_; assumption)) | (with_reducible ((repeat (first | (rename ((_ ≠ _ ∧ _) ∧ _) => hZk; obtain ⟨_, _⟩ := hZk) | (rename (_ ≠ _ ∧ _) => hZk; obtain ⟨_, _⟩ := hZk))); first | assumption | (refine Ne.symm ?_; assumption))) | ((repeat (refine Mine.aS ?_)); (first | refine Nat.ne_of_lt ?_ | refine Nat.ne_of_gt ?_); (repeat (first | exact Mine.lA _ | refine Mine.lB ?_)); done) | (with_reducible ((repeat (rename (@LT.lt _ _ _ _ ∧ _) => hZk; obtain ⟨_, _⟩ := hZk)); first | (refine Nat.ne_of_lt ?_; assumption) | (refine Nat.ne_of_gt ?_; assumption)))
  trivial
/-- how a machine of the re engine ends, in n steps at most -/
def Ends (m : M) (r : Option (Nat × Nat)) (n : Nat) : Prop := ∃ k m', k ≤ n ∧ M.runFor k m = m' ∧ (match r with
  | some (a, b) => m'.outcome = some .matched ∧ m'.start = a ∧ m'.handed = b
  | none => m'.outcome = some .failed)
theorem Ends.step {m : M} {r : Option (Nat × Nat)} {n : Nat} (h0 : m.outcome = none) (h : Ends m.step r n) : Ends m r (n + 1) := by
  obtain ⟨k, m', hk, e, q⟩ := h
  refine ⟨k + 1, m', by omega, ?_, q⟩
  show (if m.outcome.isSome = true then m else M.runFor k m.step) = m'
  rw [h0]; exact e
theorem Ends.more {m : M} {r : Option (Nat × Nat)} {n n' : Nat} (h : Ends m r n) (hn : n ≤ n') : Ends m r n' := let ⟨k, m', hk, q⟩ := h; ⟨k, m', Nat.le_trans hk hn, q⟩
theorem Ends.now_yes {m : M} {a b n : Nat} (h : m.outcome = some .matched) (h1 : m.start = a) (h2 : m.handed = b) : Ends m (some (a, b)) n := ⟨0, m, Nat.zero_le _, rfl, h, h1, h2⟩
theorem Ends.now_no {m : M} {n : Nat} (h : m.outcome = some .failed) : Ends m none n := ⟨0, m, Nat.zero_le _, rfl, h⟩

abbrev code1 : Array Nat := #[14, 4, 0, 1, 1, 6, 1, 16, 46, 1]
abbrev fr1 (s : Nat) (f : Bool) : Sre.Frame := { wait := .nextStart, pc := 5, pos := s, outermost := f }
/-- the search of the first pattern stands at s -/
abbrev S1 (text : Array Nat) (lim s pc pos handed : Nat) (f mu : Bool) (seen : Sre.Seen) : M :=
  { code := code1, text, lim, start := s, lastStart := lim, mustAdvance := mu, pc, pos, handed, outermost := f, marks := #[], lastmark := -1, lastindex := -1, frames := [fr1 s f], weight := 1, seen }
section
variable {text : Array Nat} {lim s pc pos handed : Nat} {f mu : Bool} {seen : Sre.Seen}
theorem s1_at : (S1 text lim s 5 s s f mu seen).step = if (s == 0 || text.getD (s - 1) 0 == 10) = true then S1 text lim s 7 s s f mu ((seen.add 6).add 44) else (S1 text lim s 5 s s f mu ((seen.add 6).add 44)).say false := rfl
theorem s1_lit : (S1 text lim s 7 s s f mu seen).step = if s ≥ lim then (S1 text lim s 7 s s f mu (seen.add 16)).say false else if (text.getD s 0 == 46) = true then S1 text lim s 9 (s + 1) s f mu (seen.add 16) else (S1 text lim s 7 s s f mu (seen.add 16)).say false := by
  show (if s ≥ lim then _ else _) = _
  split
  · rfl
  · show (match accepts code1 7 (text.getD s 0) (seen.add 16) with | .error why => _ | .ok (false, seen) => _ | .ok (true, seen) => _) = _
    have e : accepts code1 7 (text.getD s 0) (seen.add 16) = .ok (text.getD s 0 == 46, seen.add 16) := rfl
    rw [e]
    cases text.getD s 0 == 46 <;> rfl
theorem s1_suc : (S1 text lim s 9 (s + 1) s f mu seen).step = (S1 text lim s 9 (s + 1) (s + 1) f mu (seen.add 1)).say true := by
  show (if (f && ((false && _) || (mu && (s + 1 == s)))) = true then _ else _) = _
  have e : (s + 1 == s) = false := by simp
  rw [e, Bool.and_false, Bool.false_and, Bool.false_or, Bool.and_false]
  rfl
theorem s1_no : ((S1 text lim s pc pos handed f mu seen).say false).step = if s < lim then S1 text lim (s + 1) 5 (s + 1) (s + 1) false false seen else
    ({ code := code1, text, lim, start := s, lastStart := lim, mustAdvance := mu, pc := 5, pos := s, handed, outermost := f, marks := #[], weight := 0, seen, answer := some false } : M) := rfl
theorem s1_end : (({ code := code1, text, lim, start := s, lastStart := lim, mustAdvance := mu, pc := 5, pos := s, handed, outermost := f, marks := #[], weight := 0, seen, answer := some false } : M)).step.outcome = some .failed := rfl
theorem s1_yes : ((S1 text lim s pc pos handed f mu seen).say true).step.step.outcome = some .matched ∧ ((S1 text lim s pc pos handed f mu seen).say true).step.step.start = s ∧ ((S1 text lim s pc pos handed f mu seen).say true).step.step.handed = handed := ⟨rfl, rfl, rfl⟩
end
/-- a dot at a row's begin -/
def hit1 (text : Array Nat) (s : Nat) : Bool := (s == 0 || text.getD (s - 1) 0 == 10) && text.getD s 0 == 46
def next1 (text : Array Nat) : (fuel s : Nat) → Option (Nat × Nat)
  | 0, _ => none
  | fuel + 1, s => if hit1 text s = true then some (s, s + 1) else next1 text fuel (s + 1)
theorem search1 (text : Array Nat) (lim : Nat) : ∀ (fuel s : Nat), s + fuel = lim → ∀ f mu seen, Ends (S1 text lim s 5 s s f mu seen) (next1 text fuel s) (8 * (fuel + 1))
  | 0, s, hs, f, mu, seen => by
    have hl : ¬ s < lim := by omega
    refine Ends.more (n := 4) (Ends.step rfl ?_) (by omega)
    rw [s1_at]
    split
    · refine Ends.step rfl ?_
      rw [s1_lit, if_pos (by omega)]
      refine Ends.step rfl ?_
      rw [s1_no, if_neg hl]
      exact Ends.step rfl (Ends.now_no s1_end)
    · refine Ends.more (n := 2) (Ends.step rfl ?_) (by omega)
      rw [s1_no, if_neg hl]
      exact Ends.step rfl (Ends.now_no s1_end)
  | fuel + 1, s, hs, f, mu, seen => by
    have hl : s < lim := by omega
    have ih := search1 text lim fuel (s + 1) (by omega) false false
    refine Ends.more (n := 8 * (fuel + 1) + 3) ?_ (by omega)
    cases h1 : (s == 0 || text.getD (s - 1) 0 == 10) with
    | false =>
      refine Ends.more (n := 8 * (fuel + 1) + 2) (Ends.step rfl ?_) (by omega)
      rw [s1_at, h1, if_neg Bool.false_ne_true]
      refine Ends.step rfl ?_
      rw [s1_no, if_pos hl]
      have e : next1 text (fuel + 1) s = next1 text fuel (s + 1) := if_neg (by unfold hit1; rw [h1]; exact Bool.false_ne_true)
      rw [e]; exact ih _
    | true =>
      refine Ends.step rfl ?_
      rw [s1_at, h1, if_pos rfl]
      refine Ends.step rfl ?_
      rw [s1_lit, if_neg (by omega)]
      cases h2 : (text.getD s 0 == 46) with
      | false =>
        rw [if_neg Bool.false_ne_true]
        refine Ends.step rfl ?_
        rw [s1_no, if_pos hl]
        have e : next1 text (fuel + 1) s = next1 text fuel (s + 1) := if_neg (by unfold hit1; rw [h1, h2]; exact Bool.false_ne_true)
        rw [e]; exact ih _
      | true =>
        rw [if_pos rfl]
        have e : next1 text (fuel + 1) s = some (s, s + 1) := if_pos (by unfold hit1; rw [h1, h2]; rfl)
        rw [e]
        refine Ends.more (n := 3) (Ends.step rfl ?_) (by omega)
        rw [s1_suc]
        refine Ends.step rfl (Ends.step rfl ?_)
        exact Ends.now_yes s1_yes.1 s1_yes.2.1 s1_yes.2.2
theorem start1 (text : Array Nat) (s : Nat) (mu : Bool) (h : s < text.size) : Sre.forSearch code1 text 0 s text.size mu = S1 text text.size s 5 s s true mu (({} : Sre.Seen).add 14) := by
  show (if (decide (s > text.size) || decide (text.size - s < 1)) = true then _ else _) = _
  rw [if_neg (by simp; omega)]
  rfl
theorem over1 (text : Array Nat) (s : Nat) (mu : Bool) (h : text.size ≤ s) : Ends (Sre.forSearch code1 text 0 s text.size mu) none 1 := by
  have e : Sre.forSearch code1 text 0 s text.size mu = ({ code := code1, text, lim := text.size, start := s, pc := 5, pos := s, handed := s, marks := #[], mustAdvance := mu, seen := ({} : Sre.Seen).add 14 } : M).say false := by
    show (if (decide (s > text.size) || decide (text.size - s < 1)) = true then _ else _) = _
    rw [if_pos (by simp; omega)]
    rfl
  rw [e]
  exact Ends.step rfl (Ends.now_no rfl)
theorem find1 (text : Array Nat) (s : Nat) (mu : Bool) (h : s ≤ text.size) : Ends (Sre.forSearch code1 text 0 s text.size mu) (next1 text (text.size - s) s) (8 * (text.size + 1)) := by
  by_cases h1 : s < text.size
  · rw [start1 text s mu h1]
    exact (search1 text text.size _ s (by omega) true mu _).more (by omega)
  · have e : text.size - s = 0 := by omega
    rw [e]
    exact (over1 text s mu (by omega)).more (by omega)
end Mine
end
/-! part R2 -/
section
open PySem PySem.W PyProof.Rows PySem.Calls PySem.Sre
set_option Elab.async false
set_option maxRecDepth 100000
namespace Mine
theorem kw45 : True := by
  w_top off
  k_with_none
  k_with "mine ne" => first | (with_reducible first | assumption | (refine Ne.symm ?_; assumption)) | (with_reducible ((repeat (first | (rename ((_ ≠ _ ∧ _) ∧ _) => hZk; obtain ⟨_, _⟩ := hZk) | (rename (_ ≠ _ ∧ _) => hZk; obtain ⟨_, _⟩ := hZk))); first | assumption | (refine Ne.symm ?_; assumption))) | ((repeat (refine Mine.aS ?_)); (first | refine Nat.ne_of_lt ?_ | refine Nat.ne_of_gt ?_); (repeat (first | exact Mine.lA _ | refine Mine.lB ?_)); done) | (with_reducible ((repeat (rename (@LT.lt _ _ _ _ ∧ _) => hZk; obtain ⟨_, _⟩ := hZk)); first | (refine Nat.ne_of_lt ?_; assumption) | (refine Nat.ne_of_gt ?_; assumption)))
  trivial
abbrev code2 : Array Nat := #[14, 9, 4, 1, 2, 16, 10, 16, 13, 0, 7, 7, 16, 13, 16, 10, 15, 18, 5, 16, 10, 15, 13, 11, 16, 13, 5, 5, 0, 16, 10, 1, 15, 2, 0, 1]
abbrev fr0 (s : Nat) : Sre.Frame := { wait := .nextStart, pc := 10, pos := s, outermost := true }
abbrev frB (s alt : Nat) : Sre.Frame := { wait := .nextBranch, pc := alt, pos := s, outermost := true }
abbrev frN (s : Nat) : Sre.Frame := { wait := .lookNot, pc := 26, pos := s + 1, outermost := true }
/-- the second pattern's machine, started at s -/
abbrev T2 (text : Array Nat) (lim s pc pos handed : Nat) (o : Bool) (frs : List Sre.Frame) (wt : Nat) (seen : Sre.Seen) : M :=
  { code := code2, text, lim, start := s, lastStart := lim, pc, pos, handed, outermost := o, marks := #[], frames := frs, weight := wt, seen }
section
variable {text : Array Nat} {lim s pos handed wt : Nat} {o : Bool} {frs : List Sre.Frame} {seen : Sre.Seen}
theorem t2_branch : (T2 text lim s 10 s s true [fr0 s] 1 seen).step = T2 text lim s 12 s s true [frB s 11, fr0 s] 2 (seen.add 7) := rfl
/-- one written sign -/
theorem t2_lit {pc c : Nat} (h1 : (pc, c) ∈ [(12, 13), (14, 10), (19, 10), (24, 13), (29, 10)]) : (T2 text lim s pc pos handed o frs wt seen).step =
    if pos ≥ lim then (T2 text lim s pc pos handed o frs wt (seen.add 16)).say false else if (text.getD pos 0 == c) = true then T2 text lim s (pc + 2) (pos + 1) handed o frs wt (seen.add 16) else (T2 text lim s pc pos handed o frs wt (seen.add 16)).say false := by
  simp only [List.mem_cons, List.not_mem_nil, or_false, Prod.mk.injEq] at h1
  rcases h1 with ⟨rfl, rfl⟩ | ⟨rfl, rfl⟩ | ⟨rfl, rfl⟩ | ⟨rfl, rfl⟩ | ⟨rfl, rfl⟩
  all_goals
    show (if pos ≥ lim then _ else _) = _
    split
    · rfl
    · show (match accepts code2 _ (text.getD pos 0) (seen.add 16) with | .error why => _ | .ok (false, seen) => _ | .ok (true, seen) => _) = _
      generalize hc : text.getD pos 0 = c
      first
        | (have e : accepts code2 12 c (seen.add 16) = .ok (c == 13, seen.add 16) := rfl
           rw [e]; cases c == 13 <;> rfl)
        | (have e : accepts code2 24 c (seen.add 16) = .ok (c == 13, seen.add 16) := rfl
           rw [e]; cases c == 13 <;> rfl)
        | (have e : accepts code2 14 c (seen.add 16) = .ok (c == 10, seen.add 16) := rfl
           rw [e]; cases c == 10 <;> rfl)
        | (have e : accepts code2 19 c (seen.add 16) = .ok (c == 10, seen.add 16) := rfl
           rw [e]; cases c == 10 <;> rfl)
        | (have e : accepts code2 29 c (seen.add 16) = .ok (c == 10, seen.add 16) := rfl
           rw [e]; cases c == 10 <;> rfl)
theorem t2_jump1 : (T2 text lim s 16 pos handed o frs wt seen).step = T2 text lim s 35 pos handed o frs wt (seen.add 15) := rfl
theorem t2_jump2 : (T2 text lim s 21 pos handed o frs wt seen).step = T2 text lim s 35 pos handed o frs wt (seen.add 15) := rfl
theorem t2_jump3 : (T2 text lim s 32 pos handed o frs wt seen).step = T2 text lim s 35 pos handed o frs wt (seen.add 15) := rfl
theorem t2_suc : (T2 text lim s 35 pos handed true frs wt seen).step = (T2 text lim s 35 pos pos true frs wt (seen.add 1)).say true := rfl
theorem t2_no1 {pc : Nat} : ((T2 text lim s pc pos handed true [frB s 11, fr0 s] 2 seen).say false).step = T2 text lim s 19 s s true [frB s 18, fr0 s] 2 seen := rfl
theorem t2_no2 {pc : Nat} : ((T2 text lim s pc pos handed true [frB s 18, fr0 s] 2 seen).say false).step = T2 text lim s 24 s s true [frB s 23, fr0 s] 2 seen := rfl
theorem t2_not : (T2 text lim s 26 (s + 1) handed true [frB s 23, fr0 s] 2 seen).step = T2 text lim s 29 (s + 1) (s + 1) false [frN s, frB s 23, fr0 s] 3 (seen.add 5) := rfl
theorem t2_notno {pc : Nat} : ((T2 text lim s pc pos handed false [frN s, frB s 23, fr0 s] 3 seen).say false).step = T2 text lim s 32 (s + 1) handed true [frB s 23, fr0 s] 2 seen := rfl
theorem t2_yes {pc alt : Nat} : ((T2 text lim s pc pos handed true [frB s alt, fr0 s] 2 seen).say true).step.step.step.outcome = some .matched ∧ ((T2 text lim s pc pos handed true [frB s alt, fr0 s] 2 seen).say true).step.step.step.start = s ∧
    ((T2 text lim s pc pos handed true [frB s alt, fr0 s] 2 seen).say true).step.step.step.handed = handed := ⟨rfl, rfl, rfl⟩
theorem t2_said {pc alt : Nat} : Ends ((T2 text lim s pc pos handed true [frB s alt, fr0 s] 2 seen).say true) (some (s, handed)) 3 :=
  Ends.step rfl (Ends.step rfl (Ends.step rfl (Ends.now_yes t2_yes.1 t2_yes.2.1 t2_yes.2.2)))
/-- a feed -/
theorem t2_feed (hs : s < lim) (h : text.getD s 0 = 10) : Ends (T2 text lim s 10 s s true [fr0 s] 1 seen) (some (s, s + 1)) 20 := by
  refine Ends.more (n := 9) (Ends.step rfl ?_) (by omega)
  rw [t2_branch]
  refine Ends.step rfl ?_
  rw [t2_lit (c := 13) (by decide), if_neg (by omega), h, if_neg (by decide)]
  refine Ends.step rfl ?_
  rw [t2_no1]
  refine Ends.step rfl ?_
  rw [t2_lit (c := 10) (by decide), if_neg (by omega), h, if_pos (by decide)]
  refine Ends.step rfl ?_
  rw [t2_jump2]
  refine Ends.step rfl ?_
  rw [t2_suc]
  exact t2_said
/-- a return and a feed -/
theorem t2_both (hs : s + 1 < lim) (h : text.getD s 0 = 13) (h1 : text.getD (s + 1) 0 = 10) : Ends (T2 text lim s 10 s s true [fr0 s] 1 seen) (some (s, s + 2)) 20 := by
  refine Ends.more (n := 8) (Ends.step rfl ?_) (by omega)
  rw [t2_branch]
  refine Ends.step rfl ?_
  rw [t2_lit (c := 13) (by decide), if_neg (by omega), h, if_pos (by decide)]
  refine Ends.step rfl ?_
  rw [t2_lit (c := 10) (by decide), if_neg (by omega), h1, if_pos (by decide)]
  refine Ends.step rfl ?_
  rw [t2_jump1]
  refine Ends.step rfl ?_
  rw [t2_suc]
  exact t2_said
/-- a return without a feed -/
theorem t2_ret (hs : s < lim) (h : text.getD s 0 = 13) (h1 : lim ≤ s + 1 ∨ text.getD (s + 1) 0 ≠ 10) : Ends (T2 text lim s 10 s s true [fr0 s] 1 seen) (some (s, s + 1)) 20 := by
  have look : ∀ {pc handed o frs wt} {seen : Sre.Seen}, (pc, 10) ∈ [(12, 13), (14, 10), (19, 10), (24, 13), (29, 10)] → (T2 text lim s pc (s + 1) handed o frs wt seen).step = (T2 text lim s pc (s + 1) handed o frs wt (seen.add 16)).say false := fun hp => by
    rw [t2_lit hp]
    by_cases hl : s + 1 ≥ lim
    · rw [if_pos hl]
    · rw [if_neg hl, if_neg (by
        rcases h1 with q | q
        · omega
        · simpa using q)]
  refine Ends.more (n := 15) (Ends.step rfl ?_) (by omega)
  rw [t2_branch]
  refine Ends.step rfl ?_
  rw [t2_lit (c := 13) (by decide), if_neg (by omega), h, if_pos (by decide)]
  refine Ends.step rfl ?_
  rw [look (by decide)]
  refine Ends.step rfl ?_
  rw [t2_no1]
  refine Ends.step rfl ?_
  rw [t2_lit (c := 10) (by decide), if_neg (by omega), h, if_neg (by decide)]
  refine Ends.step rfl ?_
  rw [t2_no2]
  refine Ends.step rfl ?_
  rw [t2_lit (c := 13) (by decide), if_neg (by omega), h, if_pos (by decide)]
  refine Ends.step rfl ?_
  rw [t2_not]
  refine Ends.step rfl ?_
  rw [look (by decide)]
  refine Ends.step rfl ?_
  rw [t2_notno]
  refine Ends.step rfl ?_
  rw [t2_jump3]
  refine Ends.step rfl ?_
  rw [t2_suc]
  exact t2_said
end
end Mine
end
/-! part R3 -/
section
open PySem PySem.W PyProof.Rows PySem.Calls PySem.Sre
set_option Elab.async false
set_option maxRecDepth 100000
namespace Mine
theorem kw46 : True := by
  w_top off
  k_with_none
  k_with "mine ne" => first | (with_reducible first | assumption | (refine Ne.symm ?_; assumption)) | (with_reducible ((repeat (first | (rename ((_ ≠ _ ∧ _) ∧ _) => hZk; obtain ⟨_, _⟩ := hZk) | (rename (_ ≠ _ ∧ _) => hZk; obtain ⟨_, _⟩ := hZk))); first | assumption | (refine Ne.symm ?_; assumption))) | ((repeat (refine Mine.aS ?_)); (first | refine Nat.ne_of_lt ?_ | refine Nat.ne_of_gt ?_); (repeat (first | exact Mine.lA _ | refine Mine.lB ?_)); done) | (with_reducible ((repeat (rename (@LT.lt _ _ _ _ ∧ _) => hZk; obtain ⟨_, _⟩ := hZk)); first | (refine Nat.ne_of_lt ?_; assumption) | (refine Nat.ne_of_gt ?_; assumption)))
  trivial
/-- the next row's end from s on -/
def next2 (text : Array Nat) : (fuel s : Nat) → Option (Nat × Nat)
  | 0, _ => none
  | fuel + 1, s => if text.getD s 0 = 10 then some (s, s + 1) else if text.getD s 0 = 13 then (if s + 1 < text.size ∧ text.getD (s + 1) 0 = 10 then some (s, s + 2) else some (s, s + 1)) else next2 text fuel (s + 1)
theorem set2 (c : Nat) (seen : Sre.Seen) : ∃ seen', inSet code2 c 36 5 true seen = .ok (c == 10 || c == 13, seen') := by
  have e : inSet code2 c 36 5 true seen = if c == 10 then .ok (true, seen.add 16) else if c == 13 then .ok (true, (seen.add 16).add 16) else .ok (false, ((seen.add 16).add 16).add 0) := rfl
  rw [e]
  cases c == 10 with
  | true => exact ⟨_, rfl⟩
  | false => cases c == 13 with
    | true => exact ⟨_, rfl⟩
    | false => exact ⟨_, rfl⟩
/-- the machine before its first attempt -/
abbrev F2 (text : Array Nat) (s0 : Nat) (mu : Bool) (seen : Sre.Seen) : M :=
  { code := code2, text, lim := text.size, start := s0, lastStart := text.size, mustAdvance := mu, pc := 10, pos := s0, handed := s0, marks := #[], seen }
theorem admitted2 (text : Array Nat) (s0 : Nat) (mu : Bool) (seen0 : Sre.Seen) : ∀ (fuel s : Nat), s + fuel = text.size → ∀ seen,
    (∃ a b seen', next2 text fuel s = some (a, b) ∧ a < text.size ∧ (text.getD a 0 = 10 ∧ b = a + 1 ∨ text.getD a 0 = 13 ∧ (a + 1 < text.size ∧ text.getD (a + 1) 0 = 10) ∧ b = a + 2 ∨ text.getD a 0 = 13 ∧ ¬ (a + 1 < text.size ∧ text.getD (a + 1) 0 = 10) ∧ b = a + 1) ∧ M.admitted (F2 text s0 mu seen0) (fuel + 1) s seen = .ok (some a, seen')) ∨
    (∃ seen', next2 text fuel s = none ∧ M.admitted (F2 text s0 mu seen0) (fuel + 1) s seen = .ok (none, seen'))
  | 0, s, hs, seen => .inr ⟨seen, rfl, by
      show (if s ≥ text.size then _ else _) = _
      rw [if_pos (by omega)]⟩
  | fuel + 1, s, hs, seen => by
    obtain ⟨seen', e⟩ := set2 (text.getD s 0) seen
    have e2 : M.admitted (F2 text s0 mu seen0) (fuel + 1 + 1) s seen = match inSet code2 (text.getD s 0) 36 5 true seen with
        | .ok (true, seen) => .ok (some s, seen)
        | .ok (false, seen) => M.admitted (F2 text s0 mu seen0) (fuel + 1) (s + 1) seen
        | .error why => .error why := by
      show (if s ≥ text.size then _ else _) = _
      rw [if_neg (by omega)]
      rfl
    rw [e2, e]
    by_cases h1 : text.getD s 0 = 10
    · refine .inl ⟨s, s + 1, seen', ?_, by omega, .inl ⟨h1, rfl⟩, ?_⟩
      · show (if text.getD s 0 = 10 then _ else _) = _
        rw [if_pos h1]
      · rw [h1]; rfl
    · by_cases h2 : text.getD s 0 = 13
      · have q : (text.getD s 0 == 10 || text.getD s 0 == 13) = true := by rw [h2]; rfl
        by_cases h3 : s + 1 < text.size ∧ text.getD (s + 1) 0 = 10
        · refine .inl ⟨s, s + 2, seen', ?_, by omega, .inr (.inl ⟨h2, h3, rfl⟩), by rw [q]⟩
          show (if text.getD s 0 = 10 then _ else if text.getD s 0 = 13 then (if _ ∧ _ then _ else _) else _) = _
          rw [if_neg h1, if_pos h2, if_pos h3]
        · refine .inl ⟨s, s + 1, seen', ?_, by omega, .inr (.inr ⟨h2, h3, rfl⟩), by rw [q]⟩
          show (if text.getD s 0 = 10 then _ else if text.getD s 0 = 13 then (if _ ∧ _ then _ else _) else _) = _
          rw [if_neg h1, if_pos h2, if_neg h3]
      · have q : (text.getD s 0 == 10 || text.getD s 0 == 13) = false := by rw [beq_eq_false_iff_ne.mpr h1, beq_eq_false_iff_ne.mpr h2]; rfl
        have n : next2 text (fuel + 1) s = next2 text fuel (s + 1) := by
          show (if text.getD s 0 = 10 then _ else if text.getD s 0 = 13 then (if _ ∧ _ then _ else _) else _) = _
          rw [if_neg h1, if_neg h2]
        rw [q, n]
        exact admitted2 text s0 mu seen0 fuel (s + 1) (by omega) seen'
theorem start2 (text : Array Nat) (s : Nat) (mu : Bool) (h : s < text.size) : Sre.forSearch code2 text 0 s text.size mu = match M.admitted (F2 text s mu (({} : Sre.Seen).add 14)) (text.size + 1 - s) s (({} : Sre.Seen).add 14) with
    | .ok (some a, seen) => T2 text text.size a 10 a a true [fr0 a] 1 seen
    | .ok (none, seen) => (F2 text s mu seen).say false
    | .error why => (F2 text s mu (({} : Sre.Seen).add 14)).stick why := by
  show (if (decide (s > text.size) || decide (text.size - s < 1)) = true then _ else _) = _
  rw [if_neg (by simp; omega)]
  rfl
theorem over2 (text : Array Nat) (s : Nat) (mu : Bool) (h : text.size ≤ s) : Ends (Sre.forSearch code2 text 0 s text.size mu) none 1 := by
  have e : Sre.forSearch code2 text 0 s text.size mu = ({ code := code2, text, lim := text.size, start := s, pc := 10, pos := s, handed := s, marks := #[], mustAdvance := mu, seen := ({} : Sre.Seen).add 14 } : M).say false := by
    show (if (decide (s > text.size) || decide (text.size - s < 1)) = true then _ else _) = _
    rw [if_pos (by simp; omega)]
    rfl
  rw [e]
  exact Ends.step rfl (Ends.now_no rfl)
theorem find2 (text : Array Nat) (s : Nat) (mu : Bool) (h : s ≤ text.size) : Ends (Sre.forSearch code2 text 0 s text.size mu) (next2 text (text.size - s) s) (8 * (text.size + 1) + 20) := by
  by_cases h1 : s < text.size
  · have ef : text.size + 1 - s = (text.size - s) + 1 := by omega
    rw [start2 text s mu h1, ef]
    rcases admitted2 text s mu (({} : Sre.Seen).add 14) (text.size - s) s (by omega) (({} : Sre.Seen).add 14) with ⟨a, b, seen', n, ha, hc, e⟩ | ⟨seen', n, e⟩
    · rw [e, n]
      rcases hc with ⟨c1, rfl⟩ | ⟨c1, ⟨c2, c3⟩, rfl⟩ | ⟨c1, c2, rfl⟩
      · exact (t2_feed ha c1).more (by omega)
      · exact (t2_both c2 c1 c3).more (by omega)
      · exact (t2_ret ha c1 (by
          by_cases q : a + 1 < text.size
          · exact .inr fun z => c2 ⟨q, z⟩
          · exact .inl (by omega))).more (by omega)
    · rw [e, n]
      exact (Ends.step rfl (Ends.now_no rfl)).more (n := 1) (by omega)
  · have e : text.size - s = 0 := by omega
    rw [e]
    exact (over2 text s mu (by omega)).more (by omega)
end Mine
end
/-! part R4 -/
section
open PySem PySem.W PyProof.Rows PySem.Calls PySem.Sre
open PySem.Builtin PySem.Builtin.Re
set_option Elab.async false
set_option maxRecDepth 100000
namespace Mine
theorem kw47 : True := by
  w_top off
  k_with_none
  k_with "mine ne" => first | (with_reducible first | assumption | (refine Ne.symm ?_; assumption)) | (with_reducible ((repeat (first | (rename ((_ ≠ _ ∧ _) ∧ _) => hZk; obtain ⟨_, _⟩ := hZk) | (rename (_ ≠ _ ∧ _) => hZk; obtain ⟨_, _⟩ := hZk))); first | assumption | (refine Ne.symm ?_; assumption))) | ((repeat (refine Mine.aS ?_)); (first | refine Nat.ne_of_lt ?_ | refine Nat.ne_of_gt ?_); (repeat (first | exact Mine.lA _ | refine Mine.lB ?_)); done) | (with_reducible ((repeat (rename (@LT.lt _ _ _ _ ∧ _) => hZk; obtain ⟨_, _⟩ := hZk)); first | (refine Nat.ne_of_lt ?_; assumption) | (refine Nat.ne_of_gt ?_; assumption)))
  trivial
theorem runFor_fix {m : M} (h : m.outcome.isSome = true) : ∀ n, M.runFor n m = m
  | 0 => rfl
  | n + 1 => by show (if m.outcome.isSome = true then m else _) = m; rw [if_pos h]
theorem runFor_add : ∀ (a b : Nat) (m : M), M.runFor (a + b) m = M.runFor b (M.runFor a m)
  | 0, b, m => by rw [Nat.zero_add]; rfl
  | a + 1, b, m => by
    rw [Nat.add_right_comm]
    show (if m.outcome.isSome = true then m else M.runFor (a + b) m.step) = M.runFor b (if m.outcome.isSome = true then m else M.runFor a m.step)
    by_cases h : m.outcome.isSome = true
    · rw [if_pos h, if_pos h, runFor_fix h]
    · rw [if_neg h, if_neg h, runFor_add a b]
section
variable {X : Model} {A : Around} {E : Value → Shared → Prop} {s : Shared}
theorem wp_drive {Q : M → Shared → Prop} : ∀ (turns k : Nat) (m : M), k ≤ 4 * turns → 0 < turns → (M.runFor k m).outcome.isSome = true → Q (M.runFor k m) s → wpAny X A (reDrive turns m) Q E s
  | 0, _, _, _, h0, _, _ => absurd h0 (Nat.lt_irrefl _)
  | turns + 1, k, m, hk, _, ho, h => by
    show wpAny X A (if (M.runFor 4 m).outcome.isSome = true then pure (M.runFor 4 m) else (do rule "sre.turn"; reDrive turns (M.runFor 4 m))) Q E s
    by_cases h4 : (M.runFor 4 m).outcome.isSome = true
    · rw [if_pos h4]
      have e : M.runFor 4 m = M.runFor k m := by
        by_cases hle : k ≤ 4
        · rw [show (4 : Nat) = k + (4 - k) from by omega, runFor_add, runFor_fix ho]
        · rw [show k = 4 + (k - 4) from by omega, runFor_add, runFor_fix h4]
      rw [e]; exact wpAny_pure h
    · rw [if_neg h4]
      have hk4 : 4 < k := by
        refine Nat.lt_of_not_le fun hle => h4 ?_
        rw [show (4 : Nat) = k + (4 - k) from by omega, runFor_add, runFor_fix ho]; exact ho
      have e : M.runFor k m = M.runFor (k - 4) (M.runFor 4 m) := by rw [← runFor_add, show 4 + (k - 4) = k from by omega]
      refine wpAny_bind (wpAny_rule (wp_drive turns (k - 4) _ (by omega) (by omega) (by rw [← e]; exact ho) (by rw [← e]; exact h)))
theorem wp_forRule {α : Type} {f : α → PUnit → Sem (ForInStep PUnit)} (hf : ∀ a u (Q : ForInStep PUnit → Shared → Prop), Q (.yield ⟨⟩) s → wpAny X A (f a u) Q E s) : ∀ (l : List α) (u : PUnit) {Q : PUnit → Shared → Prop}, Q ⟨⟩ s → wpAny X A (forIn l u f) Q E s
  | [], u, Q, h => by rw [List.forIn_nil]; exact wpAny_pure h
  | a :: l, u, Q, h => by
    rw [List.forIn_cons]
    exact wpAny_bind (hf a u _ (wp_forRule hf l ⟨⟩ h))
theorem wp_runToEnd {m : M} {r : Option (Nat × Nat)} {n : Nat} {Q : Option M → Shared → Prop} (hE : Ends m r n) (hn : n ≤ 2 ^ 60) (h : match r with
      | some (a, b) => ∀ m' : M, m'.start = a → m'.handed = b → Q (some m') s
      | none => Q none s) : wpAny X A (reRunToEnd m) Q E s := by
  obtain ⟨k, m', hk, e, q⟩ := hE
  have ho : m'.outcome.isSome = true := by
    cases r with
    | none => rw [q]; rfl
    | some ab => rw [q.1]; rfl
  unfold reRunToEnd
  refine wpAny_bind (wp_drive (2 ^ 64) k m (Nat.le_trans hk (Nat.le_trans hn (by decide))) (by decide) (by rw [e]; exact ho) ?_)
  rw [e]
  refine wpAny_bind (wp_forRule (fun a u Q hq => ?_) _ _ ?_)
  · skip
    split
    · exact wpAny_bind (wpAny_rule (wpAny_pure hq))
    · exact wpAny_bind (wpAny_pure (wpAny_pure hq))
  · cases r with
    | none => rw [q]; exact wpAny_pure h
    | some ab => rw [q.1]; exact wpAny_pure (h m' q.2.1 q.2.2)
end
end Mine
end
/-! part R5 -/
section
open PySem PySem.W PyProof.Rows PySem.Calls PySem.Sre
open PySem.Builtin PySem.Builtin.Re
set_option Elab.async false
set_option maxRecDepth 100000
namespace Mine
theorem kw48 : True := by
  w_top off
  k_with_none
  k_with "mine ne" => first | (with_reducible first | assumption | (refine Ne.symm ?_; assumption)) | (with_reducible ((repeat (first | (rename ((_ ≠ _ ∧ _) ∧ _) => hZk; obtain ⟨_, _⟩ := hZk) | (rename (_ ≠ _ ∧ _) => hZk; obtain ⟨_, _⟩ := hZk))); first | assumption | (refine Ne.symm ?_; assumption))) | ((repeat (refine Mine.aS ?_)); (first | refine Nat.ne_of_lt ?_ | refine Nat.ne_of_gt ?_); (repeat (first | exact Mine.lA _ | refine Mine.lB ?_)); done) | (with_reducible ((repeat (rename (@LT.lt _ _ _ _ ∧ _) => hZk; obtain ⟨_, _⟩ := hZk)); first | (refine Nat.ne_of_lt ?_; assumption) | (refine Nat.ne_of_gt ?_; assumption)))
  trivial
/-- a compiled pattern of no groups, for texts -/
structure PatAt (h : Heap) (pat cA : Addr) (code : Array Nat) : Prop where
  p : ∃ o v0 v1, h.get? pat = some o ∧ o.cls = .type "re.Pattern" ∧ o.data = .fields #[v0, v1, .int 0 0, .none, .none, .ref cA, .int 0 0]
  c : ∃ o items n, h.get? cA = some o ∧ o.data = .seq items n ∧ (items.map reRawOf).map (·.toNat) = code
theorem PatAt.keeps {h h' : Heap} {pat cA : Addr} {code : Array Nat} (x : PatAt h pat cA code) (k1 : ∀ o, h.get? pat = some o → h'.get? pat = some o) (k2 : ∀ o, h.get? cA = some o → h'.get? cA = some o) : PatAt h' pat cA code where
  p := let ⟨o, v0, v1, e, r⟩ := x.p; ⟨o, v0, v1, k1 _ e, r⟩
  c := let ⟨o, i, n, e, r⟩ := x.c; ⟨o, i, n, k2 _ e, r⟩
abbrev tgt (pat : Addr) (T : Str) (tt : Tok) (code : Array Nat) : ReTarget := { pattern := .ref pat, string := .str T tt, code, text := T.cps, kind := 0, groups := 0, pos := 0, lim := T.cps.size }
section
variable {X : Model} {A : Around} {E : Value → Shared → Prop} {s : Shared} {pat cA : Addr} {code : Array Nat} {T : Str} {tt : Tok}
theorem wp_target {Q : ReTarget → Shared → Prop} (hp : PatAt s.heap pat cA code) (h : Q (tgt pat T tt code) s) : wpAny X A (reWholeTarget (.ref pat) (.str T tt)) Q E s := by
  obtain ⟨o, v0, v1, e1, _, e2⟩ := hp.p
  obtain ⟨oc, items, n, c1, c2, c3⟩ := hp.c
  unfold reWholeTarget
  refine wpAny_bind (wpAny_fieldsOf e1 e2 ?_)
  show wpAny X A (reRawItems (.ref cA) >>= fun x => pure { pattern := .ref pat, string := .str T tt, code := x.map (·.toNat), text := T.cps, kind := 0, groups := 0, pos := 0, lim := T.cps.size }) Q E s
  refine wpAny_bind ?_
  unfold reRawItems
  refine wpAny_bind (wpAny_seqItems c1 c2 (wpAny_pure (wpAny_pure ?_)))
  show Q { pattern := .ref pat, string := .str T tt, code := (items.map reRawOf).map (·.toNat), text := T.cps, kind := 0, groups := 0, pos := 0, lim := T.cps.size } s
  rw [c3]; exact h
end
/-- what is put in the place of each match from s on -/
def outS (T : List Nat) (rp : List Nat) (nx : Nat → Option (Nat × Nat)) : (fuel s : Nat) → List Nat
  | 0, s => T.drop s
  | fuel + 1, s => match nx s with
    | none => T.drop s
    | some (a, b) => (T.drop s).take (a - s) ++ rp ++ outS T rp nx fuel b
theorem kind_sub_loop : plainId "re.Pattern.sub.loop" = true := by decide +kernel
theorem entry_sub_loop : entryFor table "re.Pattern.sub.loop" = some Builtin.«re.Pattern.sub.loop» := entryFor_of_fast (by kernel_rfl)

theorem strsAre_snoc : ∀ {vs : List Value} {ys : List Str} (_ : StrsAre vs ys) (y : Str) (t : Tok), StrsAre (vs ++ [.str y t]) (ys ++ [y])
  | _, _, .nil, y, t => .cons y t .nil
  | _, _, .cons y' t' r, y, t => .cons y' t' (strsAre_snoc r y t)
theorem strsAre_length : ∀ {vs : List Value} {ys : List Str} (_ : StrsAre vs ys), ys.length = vs.length
  | _, _, .nil => rfl
  | _, _, .cons _ _ r => congrArg (· + 1) (strsAre_length r)
theorem join_nil : ∀ ys : List Str, (Txt.join ⟨#[]⟩ ys).cps.toList = (ys.map (·.cps.toList)).flatten
  | [] => rfl
  | [x] => by simp [Txt.join, StrLaws.glued_eq_join, Str.join]
  | x :: y :: r => by
    have ih := join_nil (y :: r)
    simp only [Txt.join, StrLaws.glued_eq_join] at ih ⊢
    show ((x ++ ⟨#[]⟩ ++ Str.join ⟨#[]⟩ (y :: r) : Str)).cps.toList = _
    rw [Str.cps_append, Str.cps_append, Array.toList_append, Array.toList_append, ih]
    simp
theorem str_of {x : Str} {l : List Nat} (h : x.cps.toList = l) : x = ⟨l.toArray⟩ := by
  cases x; subst h; rfl
theorem extract_toList (a : Array Nat) (i j : Nat) : (a.extract i j).toList = (a.toList.drop i).take (j - i) := by
  rw [Array.toList_extract, List.extract_eq_drop_take]
section
variable {prog : Program} {w : World} {A : Around} {R : Result → Shared → Prop} {pat cA list : Addr} {code : Array Nat} {T Rp : Str} {tt tr : Tok} {nx : Nat → Option (Nat × Nat)}
theorem pushAt {X : Model} {A : Around} {E : Value → Shared → Prop} {s : Shared} {Q : Unit → Shared → Prop} {ps : List Value} {c : Nat} {v : Value} (hl : s.heap.get? list = some (listOf ps.toArray c)) (hz : ps.length ≤ 2 ^ 20)
    (h : ∀ h', (∀ b o, b ≠ list → s.heap.get? b = some o → h'.get? b = some o) → h'.get? list = some (listOf (ps ++ [v]).toArray (c + 1)) → Q () { s with heap := h' }) : wpAny X A (updateSeq list (·.push v)) Q E s := by
  refine wpAny_updateSeq hl rfl (h _ (fun b o hb e => (Heap.get?_update_other _ _ (Ne.symm hb)).trans e) ?_) (by rw [List.size_toArray]; exact Nat.le_trans hz (by decide)) (by simp; exact Nat.le_trans hz (by decide))
  have e : Obj.mapSeq (·.push v) (listOf ps.toArray c) = listOf (ps ++ [v]).toArray (c + 1) := by
    unfold Obj.mapSeq
    simp
  rw [← e]
  exact Heap.get?_update_self _ hl rfl
end
end Mine
end
/-! part R6 -/
section
open PySem PySem.W PyProof.Rows PySem.Calls PySem.Sre
open PySem.Builtin PySem.Builtin.Re
set_option Elab.async false
set_option maxRecDepth 100000
namespace Mine
theorem kw49 : True := by
  w_top off
  k_with_none
  k_with "mine ne" => first | (with_reducible first | assumption | (refine Ne.symm ?_; assumption)) | (with_reducible ((repeat (first | (rename ((_ ≠ _ ∧ _) ∧ _) => hZk; obtain ⟨_, _⟩ := hZk) | (rename (_ ≠ _ ∧ _) => hZk; obtain ⟨_, _⟩ := hZk))); first | assumption | (refine Ne.symm ?_; assumption))) | ((repeat (refine Mine.aS ?_)); (first | refine Nat.ne_of_lt ?_ | refine Nat.ne_of_gt ?_); (repeat (first | exact Mine.lA _ | refine Mine.lB ?_)); done) | (with_reducible ((repeat (rename (@LT.lt _ _ _ _ ∧ _) => hZk; obtain ⟨_, _⟩ := hZk)); first | (refine Nat.ne_of_lt ?_; assumption) | (refine Nat.ne_of_gt ?_; assumption)))
  trivial
/-- the loop's last part: the pieces are joined -/
def endJ (T : Str) (list : Addr) (_ : Unit) : Sem PySem.Fin := do
  let joiner ← reSlice T.cps 0 0 0
  let it ← seqItems? (.ref list)
  if (it.getD #[]).isEmpty = true then do
    let t ← pure joiner
    ret t
  else do
    let t ← call (.builtin "str.join") [joiner, .ref list]
    ret t
section
variable {prog : Program} {w : World} {A : Around} {R : Result → Shared → Prop} {pat cA list : Addr} {code : Array Nat} {T Rp : Str} {tt tr : Tok} {nx : Nat → Option (Nat × Nat)}
abbrev finR (prog : Program) (w : World) (A : Around) (R : Result → Shared → Prop) : PySem.Fin → Shared → Prop := fun fin s' => match fin with
  | .done f => R (.ok f) s'
  | .again c' => c'.quiet = true ∧ codeAny (model prog w) A c' R s'
theorem wp_endJ {sh : Shared} {ps : List Value} {ys : List Str} {c : Nat} {out : List Nat} (hl : sh.heap.get? list = some (listOf ps.toArray c)) (hi : StrsAre ps ys) (hy : (ys.map (·.length)).sum ≤ 16777216) (ho : (ys.map (·.cps.toList)).flatten = out)
    (hR : ∀ t' tk', R (.ok (.ret (.str ⟨out.toArray⟩ t'))) { sh with toks := tk' }) : wpAny (model prog w) A.in1 (endJ T list ()) (finR prog w A R) (fun e s' => R (.error e) s') sh := by
  unfold endJ
  have e0 : T.cps.extract 0 0 = #[] := by simp
  refine wpAny_bind ?_
  show wpAny _ _ (mkStr ⟨T.cps.extract 0 0⟩) _ _ _
  rw [e0]
  refine wpAny_mkStr (wpAny_bind (wpAny_seqItems hl rfl ?_)) (Nat.zero_le _)
  by_cases hps : ps = []
  · subst hps
    cases hi
    rw [if_pos (by rfl)]
    have : out = [] := ho.symm
    subst this
    exact wpAny_bind (wpAny_pure (wpAny_pure (hR _ _)))
  · rw [if_neg (by
      cases ps with
      | nil => exact absurd rfl hps
      | cons a l => simp)]
    refine wpAny_bind (join_list (ys := ys) ⟨_, hl, rfl, c, rfl⟩ hi (by show _ + ys.length * 0 ≤ _; rw [Nat.mul_zero]; exact hy) fun t' k => wpAny_pure ?_)
    have e : Txt.join ⟨#[]⟩ ys = ⟨out.toArray⟩ := str_of (by rw [join_nil, ho])
    rw [e]
    exact hR _ _
theorem wp_end {sh : Shared} {ps : List Value} {ys : List Str} {c s : Nat} (hsz : T.cps.size ≤ 16384) (hs : s ≤ T.cps.size) (hl : sh.heap.get? list = some (listOf ps.toArray c)) (hi : StrsAre ps ys) (hn : ps.length ≤ 2 * s) (hy : (ys.map (·.length)).sum ≤ 6 * s)
    (hR : ∀ t' h' tk', (∀ b o, b ≠ list → sh.heap.get? b = some o → h'.get? b = some o) → R (.ok (.ret (.str ⟨((ys.map (·.cps.toList)).flatten ++ T.cps.toList.drop s).toArray⟩ t'))) { sh with heap := h', toks := tk' }) :
    wpAny (model prog w) A.in1 (if s < T.cps.size then (do let x ← reSlice T.cps 0 s T.cps.size; let r ← updateSeq list (fun y => y.push x); endJ T list r) else endJ T list ()) (finR prog w A R) (fun e s' => R (.error e) s') sh := by
  have e24 : sizeLine = 16777216 := by decide
  have hT : T.cps.toList.length = T.cps.size := Array.length_toList
  by_cases h : s < T.cps.size
  · rw [if_pos h]
    refine wpAny_bind ?_
    show wpAny _ _ (mkStr ⟨T.cps.extract s T.cps.size⟩) _ _ _
    refine wpAny_mkStr ?_ (by show (T.cps.extract s T.cps.size).size ≤ _; rw [e24]; simp; omega)
    refine wpAny_bind (pushAt (s := { sh with toks := sh.toks + 1 }) hl (by omega) fun h' hk hl' => ?_)
    refine wp_endJ hl' (strsAre_snoc hi _ _) ?_ rfl fun t' tk' => ?_
    · simp only [List.map_append, List.sum_append, List.map_cons, List.map_nil, List.sum_cons, List.sum_nil]
      have : (⟨T.cps.extract s T.cps.size⟩ : Str).length ≤ T.cps.size := by show (T.cps.extract s T.cps.size).size ≤ _; simp
      omega
    · have e : ((ys ++ [(⟨T.cps.extract s T.cps.size⟩ : Str)]).map (·.cps.toList)).flatten = (ys.map (·.cps.toList)).flatten ++ T.cps.toList.drop s := by
        rw [List.map_append, List.flatten_append]
        simp only [List.map_cons, List.map_nil, List.flatten_cons, List.flatten_nil, List.append_nil]
        rw [extract_toList, List.take_of_length_le (by rw [List.length_drop]; omega)]
      rw [e]
      exact hR t' h' tk' hk
  · rw [if_neg h]
    refine wp_endJ hl hi (by omega) rfl fun t' tk' => ?_
    have := hR t' sh.heap tk' (fun _ _ _ e => e)
    rw [List.drop_of_length_le (by omega), List.append_nil] at this
    exact this
theorem subLoop (hnx : ∀ s mu, s ≤ T.cps.size → Ends (Sre.forSearch code T.cps 0 s T.cps.size mu) (nx s) (2 ^ 50)) (hin : ∀ s a b, nx s = some (a, b) → s ≤ a ∧ a < b ∧ b ≤ T.cps.size) (hsz : T.cps.size ≤ 16384) (hRp : Rp.cps.size ≤ 4) (hpl : pat ≠ list) (hcl : cA ≠ list) :
    ∀ (fuel s : Nat) (n : Int) (mu : Bool) (sh : Shared) (ps : List Value) (ys : List Str) (c : Nat), T.cps.size - s ≤ fuel → s ≤ T.cps.size → PatAt sh.heap pat cA code → sh.heap.get? list = some (listOf ps.toArray c) → StrsAre ps ys → ps.length ≤ 2 * s → (ys.map (·.length)).sum ≤ 6 * s →
    (∀ t' h' tk', (∀ b o, b ≠ list → sh.heap.get? b = some o → h'.get? b = some o) → R (.ok (.ret (.str ⟨((ys.map (·.cps.toList)).flatten ++ outS T.cps.toList Rp.cps.toList nx fuel s).toArray⟩ t'))) { sh with heap := h', toks := tk' }) →
    codeAny (model prog w) A (.builtin "re.Pattern.sub.loop" ⟨[.ref pat, .str T tt, .str Rp tr, rawInt 0, rawInt 0, rawInt n, rawInt s, rawInt s, .bool mu, .ref list, .bool false], []⟩) R sh := by
  have e24 : sizeLine = 16777216 := by decide
  have hT : T.cps.toList.length = T.cps.size := Array.length_toList
  intro fuel
  induction fuel with
  | zero =>
    intro s n mu sh ps ys c hf hs hp hl hi hn hy hR
    refine codeAny_builtin entry_sub_loop ?_
    rw [Around.under_plainId kind_sub_loop _]
    show wpAny _ A.in1 (reWholeTarget (.ref pat) (.str T tt) >>= _) _ _ sh
    refine wpAny_bind (wp_target hp ?_)
    show wpAny _ A.in1 (reRunToEnd (Sre.forSearch code T.cps 0 s T.cps.size mu) >>= _) _ _ sh
    refine wpAny_bind (wp_runToEnd (hnx s mu hs) (by decide) ?_)
    have hs' : s = T.cps.size := by omega
    have hnone : nx s = none := by
      cases q : nx s with
      | none => rfl
      | some ab => have := hin s ab.1 ab.2 q; omega
    rw [hnone]
    exact wp_end hsz hs hl hi hn hy hR
  | succ fuel ih =>
    intro s n mu sh ps ys c hf hs hp hl hi hn hy hR
    refine codeAny_builtin entry_sub_loop ?_
    rw [Around.under_plainId kind_sub_loop _]
    show wpAny _ A.in1 (reWholeTarget (.ref pat) (.str T tt) >>= _) _ _ sh
    refine wpAny_bind (wp_target hp ?_)
    show wpAny _ A.in1 (reRunToEnd (Sre.forSearch code T.cps 0 s T.cps.size mu) >>= _) _ _ sh
    refine wpAny_bind (wp_runToEnd (hnx s mu hs) (by decide) ?_)
    have ho : outS T.cps.toList Rp.cps.toList nx (fuel + 1) s = match nx s with | none => T.cps.toList.drop s | some (a, b) => (T.cps.toList.drop s).take (a - s) ++ Rp.cps.toList ++ outS T.cps.toList Rp.cps.toList nx fuel b := rfl
    rw [ho] at hR
    cases hx : nx s with
    | none => rw [hx] at hR; exact wp_end hsz hs hl hi hn hy hR
    | some ab =>
      obtain ⟨a, b⟩ := ab
      obtain ⟨ha, hab, hb⟩ := hin s a b hx
      rw [hx] at hR
      intro m' hm1 hm2
      have quiet : ∀ args, (Code.builtin "re.Pattern.sub.loop" args).quiet = true := fun args => plainId_quiet kind_sub_loop _
      have go : ∀ (z : Bool) (sh1 : Shared) (ps1 : List Value) (ys1 : List Str) (c1 : Nat), sh1.heap.get? list = some (listOf ps1.toArray c1) → StrsAre ps1 ys1 → ps1.length + 1 ≤ 2 * b → (ys1.map (·.length)).sum + 4 ≤ 6 * b → PatAt sh1.heap pat cA code →
          (∀ t' h' tk', (∀ b o, b ≠ list → sh1.heap.get? b = some o → h'.get? b = some o) → R (.ok (.ret (.str ⟨((ys1.map (·.cps.toList)).flatten ++ Rp.cps.toList ++ outS T.cps.toList Rp.cps.toList nx fuel b).toArray⟩ t'))) { sh1 with heap := h', toks := tk' }) →
          wpAny (model prog w) A.in1 (do
            let __r ← updateSeq list fun x => x.push (Value.str Rp tr)
            again (Code.builtin "re.Pattern.sub.loop" { pos := [Value.ref pat, Value.str T tt, Value.str Rp tr, rawInt 0, rawInt 0, rawInt (n + 1), rawInt ↑m'.handed, rawInt ↑m'.handed, Value.bool z, Value.ref list, Value.bool false] }))
            (finR prog w A R) (fun e s' => R (.error e) s') sh1 := by
        intro z sh1 ps1 ys1 c1 hl1 hi1 hn1 hy1 hp1 hR1
        refine wpAny_bind (pushAt hl1 (by omega) fun h' hk hl' => wpAny_pure ⟨quiet _, ?_⟩)
        rw [hm2]
        refine ih b (n + 1) _ { sh1 with heap := h' } _ _ _ (by omega) hb (hp1.keeps (fun o e => hk _ o hpl e) fun o e => hk _ o hcl e) hl' (strsAre_snoc hi1 Rp tr) (by simp; omega) (by
          simp only [List.map_append, List.sum_append, List.map_cons, List.map_nil, List.sum_cons, List.sum_nil]
          have : Rp.length ≤ 4 := hRp
          omega) fun t' h'' tk' hk' => ?_
        have e : ((ys1 ++ [Rp]).map (·.cps.toList)).flatten = (ys1.map (·.cps.toList)).flatten ++ Rp.cps.toList := by
          rw [List.map_append, List.flatten_append]; simp
        rw [e]
        exact hR1 t' h'' tk' fun b' o hb' e' => hk' b' o hb' (hk b' o hb' e')
      show wpAny _ _ (if s < m'.start then (do
          let x ← mkStr ⟨T.cps.extract s m'.start⟩
          let _ ← updateSeq list fun y => y.push x
          _) else _) _ _ _
      rw [hm1]
      by_cases hsa : s < a
      · rw [if_pos hsa]
        refine wpAny_bind (wpAny_mkStr ?_ (by show (T.cps.extract s a).size ≤ _; rw [e24]; simp; omega))
        refine wpAny_bind (pushAt (s := { sh with toks := sh.toks + 1 }) hl (by omega) fun h' hk hl' => ?_)
        refine go (m'.handed == a) { sh with heap := h', toks := sh.toks + 1 } _ _ _ hl' (strsAre_snoc hi _ _) (by simp; omega) ?_ (hp.keeps (fun o e => hk _ o hpl e) fun o e => hk _ o hcl e) fun t' h'' tk' hk' => ?_
        · simp only [List.map_append, List.sum_append, List.map_cons, List.map_nil, List.sum_cons, List.sum_nil]
          have : (⟨T.cps.extract s a⟩ : Str).length ≤ a - s := by show (T.cps.extract s a).size ≤ _; simp; omega
          omega
        · have e : ((ys ++ [(⟨T.cps.extract s a⟩ : Str)]).map (·.cps.toList)).flatten = (ys.map (·.cps.toList)).flatten ++ (T.cps.toList.drop s).take (a - s) := by
            rw [List.map_append, List.flatten_append]
            simp only [List.map_cons, List.map_nil, List.flatten_cons, List.flatten_nil, List.append_nil]
            rw [extract_toList]
          rw [e]
          have := hR t' h'' tk' fun b' o hb' e' => hk' b' o hb' (hk b' o hb' e')
          simp only [List.append_assoc] at this ⊢
          exact this
      · rw [if_neg hsa]
        have : a = s := by omega
        subst this
        refine go (m'.handed == a) sh ps ys c hl hi (by omega) (by omega) hp fun t' h'' tk' hk' => ?_
        have := hR t' h'' tk' hk'
        simp only [Nat.sub_self, List.take_zero, List.nil_append, List.append_assoc] at this ⊢
        exact this
end
end Mine
end
/-! part R7 -/
section
open PySem PySem.W PyProof.Rows PySem.Calls PySem.Sre
open PySem.Builtin PySem.Builtin.Re
set_option Elab.async false
set_option maxRecDepth 100000
namespace Mine
theorem kw50 : True := by
  w_top off
  k_with_none
  k_with "mine ne" => first | (with_reducible first | assumption | (refine Ne.symm ?_; assumption)) | (with_reducible ((repeat (first | (rename ((_ ≠ _ ∧ _) ∧ _) => hZk; obtain ⟨_, _⟩ := hZk) | (rename (_ ≠ _ ∧ _) => hZk; obtain ⟨_, _⟩ := hZk))); first | assumption | (refine Ne.symm ?_; assumption))) | ((repeat (refine Mine.aS ?_)); (first | refine Nat.ne_of_lt ?_ | refine Nat.ne_of_gt ?_); (repeat (first | exact Mine.lA _ | refine Mine.lB ?_)); done) | (with_reducible ((repeat (rename (@LT.lt _ _ _ _ ∧ _) => hZk; obtain ⟨_, _⟩ := hZk)); first | (refine Nat.ne_of_lt ?_; assumption) | (refine Nat.ne_of_gt ?_; assumption)))
  trivial
theorem plainAttrs_pat : PlainAttrs "re.Pattern" :=
  ⟨⟨"object.__getattribute__", by rw [typeLookup_type, builtinLookup_eq_fast]; kernel_rfl, by decide +kernel⟩, by rw [typeLookup_type, builtinLookup_eq_fast]; kernel_rfl⟩
theorem slot_pat_sub : Slot "re.Pattern" "sub" "re.Pattern.sub" :=
  .of (owner := "re.Pattern") (n := "sub") (by rw [typeLookup_type, builtinLookup_eq_fast]; kernel_rfl) (by decide +kernel) (by decide +kernel) (by decide +kernel)
    (by first | exact .inl (by decide +kernel) | exact .inr (by decide +kernel)) (by rw [isSubtype_type]; kernel_rfl)
theorem type_pat_sub : typeOf (.builtin "re.Pattern.sub") = pure (.type "method_descriptor") := by show builtinType _ = _; rw [builtinType_eq_fast]; kernel_rfl
theorem entry_pat_sub : entryFor table "re.Pattern.sub" = some Builtin.«re.Pattern.sub» := entryFor_of_tree (by kernel_rfl)
theorem args_pat_sub (a b c : Value) : argsOk "re.Pattern.sub" ⟨[a, b, c], []⟩ := by unfold argsOk; kernel_rfl
theorem named (r s : Value) : reNamed "re.Pattern.sub" "sub" ["repl", "string", "count"] 2 [r, s] [] = pure [some r, some s, none] := by kernel_rfl
theorem no_str_call : typeLookup (.type "str") "__call__" = pure none := by rw [typeLookup_type, builtinLookup_eq_fast]; kernel_rfl
section
variable {prog : Program} {w : World} {A : Around} {E : Value → Shared → Prop} {s : Shared} {Q : Value → Shared → Prop} {pat cA : Addr} {code : Array Nat} {T Rp : Str} {tt tr : Tok} {nx : Nat → Option (Nat × Nat)}
theorem PatAt.type (hp : PatAt s.heap pat cA code) : s.TypeIs (.ref pat) "re.Pattern" := let ⟨o, _, _, e, c, _⟩ := hp.p; ⟨o, e, c⟩
theorem method_sub {pl : Sem Bool} {Q : Value × List Value → Shared → Prop} (hp : PatAt s.heap pat cA code) (hd : ∃ o, s.heap.get? pat = some o ∧ o.dict = none) (h : Q (.builtin "re.Pattern.sub", [.ref pat]) s) :
    wpAny (model prog w) A (getMethod (.ref pat) "sub" pl) Q E s :=
  getMethod_builtin hp.type plainAttrs_pat slot_pat_sub type_pat_sub (fun a e => by cases e; exact hd) h
theorem call_sub (hp : PatAt s.heap pat cA code) (hlit : Rp.cps.contains 92 = false) (hnx : ∀ s mu, s ≤ T.cps.size → Ends (Sre.forSearch code T.cps 0 s T.cps.size mu) (nx s) (2 ^ 50))
    (hin : ∀ s a b, nx s = some (a, b) → s ≤ a ∧ a < b ∧ b ≤ T.cps.size) (hsz : T.cps.size ≤ 16384) (hRp : Rp.cps.size ≤ 4)
    (h : ∀ t' h' tk', Keep s.heap h' → Q (.str ⟨(outS T.cps.toList Rp.cps.toList nx T.cps.size 0).toArray⟩ t') { s with heap := h', toks := tk' }) :
    wpAny (model prog w) A (call (.builtin "re.Pattern.sub") [.ref pat, .str Rp tr, .str T tt]) Q E s := by
  refine wpAny_call (codeAny_call_builtin slot_pat_sub.plain entry_pat_sub (slot_pat_sub.check _ _ _ _ _ _ _ _ hp.type (args_pat_sub _ _ _) ?_))
  unfold Builtin.«re.Pattern.sub» reSubstitute
  refine wpAny_bind (wpAny_of_eq (named _ _) ?_)
  refine wpAny_bind (wpAny_pure ?_)
  refine wpAny_bind (wpAny_specialOf (typeIs_str s Rp tr) no_str_call ?_)
  refine wpAny_bind (wpAny_pure ?_)
  refine wpAny_bind (wpAny_pure ?_)
  rw [hlit]
  refine wpAny_bind (wpAny_pure ?_)
  refine wpAny_bind (wpAny_holding (wp_target hp ?_))
  show wpAny _ A.in1 (newList [] >>= _) _ _ s
  refine wpAny_bind (wpAny_newObj_type ?_)
  obtain ⟨o, v0, v1, p1, _⟩ := hp.p
  obtain ⟨oc, items, n, c1, _⟩ := hp.c
  refine wpAny_pure ⟨plainId_quiet kind_sub_loop _, ?_⟩
  refine subLoop (nx := nx) hnx hin hsz hRp (Nat.ne_of_lt (Heap.lt_size p1)) (Nat.ne_of_lt (Heap.lt_size c1)) T.cps.size 0 0 false _ [] [] 0 (Nat.le_refl _) (Nat.zero_le _)
    (hp.keeps (fun o e => Heap.get?_push_of_some _ e) fun o e => Heap.get?_push_of_some _ e) (Heap.get?_push_size _ rfl) .nil (Nat.zero_le _) (Nat.zero_le _) fun t' h' tk' hk => ?_
  exact h t' h' tk' fun b o e => hk b o (Nat.ne_of_lt (Heap.lt_size e)) (Heap.get?_push_of_some _ e)
end
end Mine
end
/-! part R8 -/
section
open PySem PySem.W PyProof.Rows PySem.Calls
set_option Elab.async false
set_option maxRecDepth 100000
set_option maxHeartbeats 8000000
set_option linter.unusedSimpArgs false
namespace Mine

theorem kw51 : True := by
  w_top off
  k_with_none
  k_with "mine ne" => first | (with_reducible first | assumption | (refine Ne.symm ?_; assumption)) | (with_reducible ((repeat (first | (rename ((_ ≠ _ ∧ _) ∧ _) => hZk; obtain ⟨_, _⟩ := hZk) | (rename (_ ≠ _ ∧ _) => hZk; obtain ⟨_, _⟩ := hZk))); first | assumption | (refine Ne.symm ?_; assumption))) | ((repeat (refine Mine.aS ?_)); (first | refine Nat.ne_of_lt ?_ | refine Nat.ne_of_gt ?_); (repeat (first | exact Mine.lA _ | refine Mine.lB ?_)); done) | (with_reducible ((repeat (rename (@LT.lt _ _ _ _ ∧ _) => hZk; obtain ⟨_, _⟩ := hZk)); first | (refine Nat.ne_of_lt ?_; assumption) | (refine Nat.ne_of_gt ?_; assumption)))
  k_with "mine enter" => (k_dflt (refine' enter ?k1Zk ?k8Zk ?k6Zk ?k7Zk ?k9Zk ?kBZk ?c5Zk ?c2Zk ?c3Zk ?c4Zk ?_; (case k1Zk => assumption); (case k6Zk => k_is); (case k7Zk => k_is); (case k8Zk => (dsimp only [Ar, recursionLimit]; first | with_reducible exact Mine.dU0 (by assumption) | with_reducible exact Mine.dU1 (by assumption) (by decide) | with_reducible exact Mine.dU2 (by assumption) (by decide) | omega)); (case k9Zk => exact BindsTo.of_eq rfl); (case c5Zk => decide); (case kBZk => exact locs rfl); (case c2Zk => exact rfl); (case c3Zk => exact rfl); (case c4Zk => exact rfl); k_whole; intro L'Zk h'Zk F'Zk N'Zk B'Zk X'Zk T'Zk; (try dsimp only); (try k_fold)))
  trivial
open PySem.Builtin PySem.Builtin.Re PySem.Sre
theorem next1_in (text : Array Nat) : ∀ (fuel s a b : Nat), s + fuel = text.size → next1 text fuel s = some (a, b) → s ≤ a ∧ a < b ∧ b ≤ text.size
  | 0, _, _, _, _, h => by cases h
  | fuel + 1, s, a, b, hs, h => by
    unfold next1 at h
    split at h
    · cases h; omega
    · have := next1_in text fuel (s + 1) a b (by omega) h; omega
theorem next2_in (text : Array Nat) : ∀ (fuel s a b : Nat), s + fuel = text.size → next2 text fuel s = some (a, b) → s ≤ a ∧ a < b ∧ b ≤ text.size
  | 0, _, _, _, _, h => by cases h
  | fuel + 1, s, a, b, hs, h => by
    unfold next2 at h
    split at h
    · cases h; omega
    · split at h
      · split at h
        · cases h; omega
        · cases h; omega
      · have := next2_in text fuel (s + 1) a b (by omega) h; omega
abbrev nx1 (T : Str) (s : Nat) : Option (Nat × Nat) := if s ≤ T.cps.size then next1 T.cps (T.cps.size - s) s else none
abbrev nx2 (T : Str) (s : Nat) : Option (Nat × Nat) := if s ≤ T.cps.size then next2 T.cps (T.cps.size - s) s else none
/-- the dots doubled; the rows' ends made one -/
def sub1 (T : Str) : Str := ⟨(outS T.cps.toList [46, 46] (nx1 T) T.cps.size 0).toArray⟩
def sub2 (T : Str) : Str := ⟨(outS T.cps.toList [13, 10] (nx2 T) T.cps.size 0).toArray⟩
theorem pat1 {P : Params} {h : Heap} (X : (hd.heap_39 P).In h) : PatAt h 99 98 code1 where
  p := ⟨_, _, _, X 99 _ rfl, rfl, rfl⟩
  c := ⟨_, _, _, X 98 _ rfl, rfl, by decide +kernel⟩
theorem pat2 {P : Params} {h : Heap} (X : (hd.heap_39 P).In h) : PatAt h 104 103 code2 where
  p := ⟨_, _, _, X 104 _ rfl, rfl, rfl⟩
  c := ⟨_, _, _, X 103 _ rfl, rfl, by decide +kernel⟩
section
variable {prog : Program} {w : World} {A : Around} {E : Value → Shared → Prop} {s : Shared} {Q : Value → Shared → Prop} {P : Params} {h₀ : Heap} {L : Addr} {m : Str → Option Value} {news : List (Addr × Obj)} {T : Str} {tt tr : Tok}
theorem meth1 {pl : Sem Bool} {Q : Value × List Value → Shared → Prop} (X : (hd.heap_39 P).In h₀) (F : Fr h₀ L s.heap m) (h : Q (.builtin "re.Pattern.sub", [.ref 99]) s) : wpAny (model prog w) A (getMethod (.ref 99) "sub" pl) Q E s :=
  method_sub (pat1 (X.keeps F.keep)) ⟨_, F.keep _ _ (X 99 _ rfl), rfl⟩ h
theorem meth2 {pl : Sem Bool} {Q : Value × List Value → Shared → Prop} (X : (hd.heap_39 P).In h₀) (F : Fr h₀ L s.heap m) (h : Q (.builtin "re.Pattern.sub", [.ref 104]) s) : wpAny (model prog w) A (getMethod (.ref 104) "sub" pl) Q E s :=
  method_sub (pat2 (X.keeps F.keep)) ⟨_, F.keep _ _ (X 104 _ rfl), rfl⟩ h
theorem csub1 (X : (hd.heap_39 P).In h₀) (F : Fr h₀ L s.heap m) (N : News h₀ L s.heap news) (hz : T.cps.size ≤ 16384) (h : ∀ t' h' tk', Fr h₀ L h' m → News h₀ L h' news → Q (.str (sub1 T) t') { s with heap := h', toks := tk' }) :
    wpAny (model prog w) A (call (.builtin "re.Pattern.sub") [.ref 99, .str (Str.ofString "..") tr, .str T tt]) Q E s := by
  have e : (Str.ofString "..").cps.toList = [46, 46] := by decide
  refine call_sub (nx := nx1 T) (pat1 (X.keeps F.keep)) (by decide +kernel) (fun s mu hs => ?_) (fun s a b hx => ?_) hz (by decide) fun t' h' tk' k => ?_
  · unfold nx1; rw [if_pos hs]; exact (find1 T.cps s mu hs).more (by omega)
  · unfold nx1 at hx
    split at hx
    · exact next1_in T.cps _ s a b (by omega) hx
    · cases hx
  · have := h t' h' tk' (frKept F k) (newsKept N k)
    rw [e]; exact this
theorem csub2 (X : (hd.heap_39 P).In h₀) (F : Fr h₀ L s.heap m) (N : News h₀ L s.heap news) (hz : T.cps.size ≤ 16384) (h : ∀ t' h' tk', Fr h₀ L h' m → News h₀ L h' news → Q (.str (sub2 T) t') { s with heap := h', toks := tk' }) :
    wpAny (model prog w) A (call (.builtin "re.Pattern.sub") [.ref 104, .str (Str.ofString "\x0d\n") tr, .str T tt]) Q E s := by
  have e : (Str.ofString "\x0d\n").cps.toList = [13, 10] := by decide
  refine call_sub (nx := nx2 T) (pat2 (X.keeps F.keep)) (by decide +kernel) (fun s mu hs => ?_) (fun s a b hx => ?_) hz (by decide) fun t' h' tk' k => ?_
  · unfold nx2; rw [if_pos hs]; exact (find2 T.cps s mu hs).more (by omega)
  · unfold nx2 at hx
    split at hx
    · exact next2_in T.cps _ s a b (by omega) hx
    · cases hx
  · have := h t' h' tk' (frKept F k) (newsKept N k)
    rw [e]; exact this
end
theorem kw52 : True := by
  k_with "getMethod ref" => (k_here; k_dflt (first | (refine' meth1 ?k1Zk ?k2Zk ?_; (case k1Zk => k_asm); (case k2Zk => k_asm)) | (refine' meth2 ?k1Zk ?k2Zk ?_; (case k1Zk => k_asm); (case k2Zk => k_asm))))
  k_with "call builtin:re.Pattern.sub" => (k_here; k_dflt (first | (refine' csub1 ?k1Zk ?k2Zk ?k3Zk ?k4Zk ?_; (case k1Zk => k_asm); (case k2Zk => k_asm); (case k3Zk => k_asm); (case k4Zk => assumption); k_whole) | (refine' csub2 ?k1Zk ?k2Zk ?k3Zk ?k4Zk ?_; (case k1Zk => k_asm); (case k2Zk => k_asm); (case k3Zk => k_asm); (case k4Zk => assumption); k_whole)); intro t'Zk h'Zk tk'Zk F'Zk N'Zk; (try k_sweep); (try dsimp only))
  trivial
theorem quote (T : Str) (t : Tok) (hz : T.cps.size ≤ 16384) (hz2 : (sub2 T).cps.size ≤ 16384) : Spec hd.heap_39 111 1 20 [.str T t] (fun _ => True) (fun v new => ∃ t, v = .str (sub1 (sub2 T)) t ∧ new = []) := by
  intro prog w dp un gd base outer p loose mean mg mb s G hd hu hpre
  walk_at "mine enter"
  k_steps
  all_goals (exact back0 (by assumption) ⟨_, rfl, rfl⟩)
end Mine
end
/-! part P4 -/
section
open PySem PySem.W PyProof.Rows PySem.Calls
set_option Elab.async false
set_option maxRecDepth 100000
set_option linter.unusedSimpArgs false
namespace Mine
theorem kw53 : True := by
  w_top off
  k_with_none
  k_with "mine ne" => first | (with_reducible first | assumption | (refine Ne.symm ?_; assumption)) | (with_reducible ((repeat (first | (rename ((_ ≠ _ ∧ _) ∧ _) => hZk; obtain ⟨_, _⟩ := hZk) | (rename (_ ≠ _ ∧ _) => hZk; obtain ⟨_, _⟩ := hZk))); first | assumption | (refine Ne.symm ?_; assumption))) | ((repeat (refine Mine.aS ?_)); (first | refine Nat.ne_of_lt ?_ | refine Nat.ne_of_gt ?_); (repeat (first | exact Mine.lA _ | refine Mine.lB ?_)); done) | (with_reducible ((repeat (rename (@LT.lt _ _ _ _ ∧ _) => hZk; obtain ⟨_, _⟩ := hZk)); first | (refine Nat.ne_of_lt ?_; assumption) | (refine Nat.ne_of_gt ?_; assumption)))
  trivial
theorem sub_step {x s : Nat} (h : s + 1 ≤ x) : x - s = (x - (s + 1)) + 1 := by omega
theorem fuelL {n s y f : Nat} (hf : n - s ≤ f + 1) (h : s < y) : n - y ≤ f := by omega
/-- the rows' ends made one, sign by sign -/
def out2 : List Nat → List Nat
  | [] => []
  | [c] => if c = 10 ∨ c = 13 then [13, 10] else [c]
  | c :: d :: r => if c = 10 then 13 :: 10 :: out2 (d :: r) else if c = 13 then (if d = 10 then 13 :: 10 :: out2 r else 13 :: 10 :: out2 (d :: r)) else c :: out2 (d :: r)
/-- the dots at a row's begin doubled -/
def out1 : Nat → List Nat → List Nat
  | _, [] => []
  | p, c :: r => if p = 10 ∧ c = 46 then 46 :: 46 :: out1 46 r else c :: out1 c r
theorem drop_cons {T : List Nat} {s : Nat} (h : s < T.length) : T.drop s = T.getD s 0 :: T.drop (s + 1) := by
  rw [List.drop_eq_getElem_cons h, List.getD_eq_getElem?_getD, List.getElem?_eq_getElem h]; rfl
theorem getD_arr (a : Array Nat) (s : Nat) : a.getD s 0 = a.toList.getD s 0 := by
  rw [Array.getD_eq_getD_getElem?, List.getD_eq_getElem?_getD, Array.getElem?_toList]
section
variable (a : Array Nat)
theorem next2_out : ∀ (k s : Nat), s + k = a.size → match next2 a k s with
    | none => out2 (a.toList.drop s) = a.toList.drop s
    | some (x, y) => out2 (a.toList.drop s) = (a.toList.drop s).take (x - s) ++ [13, 10] ++ out2 (a.toList.drop y)
  | 0, s, hs => by
    have : a.toList.drop s = [] := List.drop_of_length_le (by rw [Array.length_toList]; omega)
    show out2 (a.toList.drop s) = a.toList.drop s
    rw [this]; rfl
  | k + 1, s, hs => by
    have hl : s < a.toList.length := by rw [Array.length_toList]; omega
    have hd := drop_cons hl
    have hg := getD_arr a s
    unfold next2
    rw [hg]
    generalize a.toList.getD s 0 = c at *
    by_cases h1 : c = 10
    · subst h1
      simp only [if_true]
      rw [hd, Nat.sub_self, List.take_zero, List.nil_append]
      cases a.toList.drop (s + 1) with
      | nil => rfl
      | cons d r => simp [out2]
    · by_cases h2 : c = 13
      · subst h2
        simp only [if_neg h1, if_true]
        by_cases h3 : s + 1 < a.size ∧ a.getD (s + 1) 0 = 10
        · rw [if_pos h3]
          have hl2 : s + 1 < a.toList.length := by rw [Array.length_toList]; exact h3.1
          have hd2 := drop_cons hl2
          rw [← getD_arr, h3.2] at hd2
          simp only
          rw [hd, hd2, Nat.sub_self, List.take_zero, List.nil_append]
          simp [out2]
        · rw [if_neg h3]
          simp only
          rw [hd, Nat.sub_self, List.take_zero, List.nil_append]
          by_cases h4 : s + 1 < a.size
          · have hl2 : s + 1 < a.toList.length := by rw [Array.length_toList]; exact h4
            have hd2 := drop_cons hl2
            rw [← getD_arr] at hd2
            have h5 : a.getD (s + 1) 0 ≠ 10 := fun q => h3 ⟨h4, q⟩
            rw [hd2]
            generalize a.getD (s + 1) 0 = d at *
            simp [out2, h5]
          · rw [List.drop_of_length_le (by rw [Array.length_toList]; omega)]
            rfl
      · simp only [if_neg h1, if_neg h2]
        have ih := next2_out k (s + 1) (by omega)
        have step : out2 (a.toList.drop s) = c :: out2 (a.toList.drop (s + 1)) := by
          rw [hd]
          cases a.toList.drop (s + 1) with
          | nil => simp [out2, h1, h2]
          | cons d r => simp [out2, h1, h2]
        cases hx : next2 a k (s + 1) with
        | none =>
          rw [hx] at ih
          simp only at ih ⊢
          rw [step, ih, hd]
        | some xy =>
          obtain ⟨x, y⟩ := xy
          rw [hx] at ih
          have hin := next2_in a k (s + 1) x y (by omega) hx
          simp only at ih ⊢
          rw [step, ih, hd, sub_step hin.1, List.take_succ_cons]
          rfl
theorem next1_out : ∀ (k s p : Nat), s + k = a.size → (p = 10 ↔ (s = 0 ∨ a.getD (s - 1) 0 = 10)) → match next1 a k s with
    | none => out1 p (a.toList.drop s) = a.toList.drop s
    | some (x, y) => y = x + 1 ∧ a.getD x 0 = 46 ∧ out1 p (a.toList.drop s) = (a.toList.drop s).take (x - s) ++ [46, 46] ++ out1 46 (a.toList.drop y)
  | 0, s, p, hs, _ => by
    have : a.toList.drop s = [] := List.drop_of_length_le (by rw [Array.length_toList]; omega)
    show out1 p (a.toList.drop s) = a.toList.drop s
    rw [this]; rfl
  | k + 1, s, p, hs, hp => by
    have hl : s < a.toList.length := by rw [Array.length_toList]; omega
    have hd := drop_cons hl
    rw [← getD_arr] at hd
    unfold next1
    by_cases h : hit1 a s = true
    · rw [if_pos h]
      unfold hit1 at h
      simp only [Bool.and_eq_true, Bool.or_eq_true, beq_iff_eq] at h
      have hp10 := hp.mpr h.1
      refine ⟨rfl, h.2, ?_⟩
      rw [hd, h.2, hp10, Nat.sub_self, List.take_zero, List.nil_append]
      rfl
    · rw [if_neg h]
      have hno : ¬ (p = 10 ∧ a.getD s 0 = 46) := fun q => h (by
        unfold hit1
        simp only [Bool.and_eq_true, Bool.or_eq_true, beq_iff_eq]
        exact ⟨hp.mp q.1, q.2⟩)
      have step : out1 p (a.toList.drop s) = a.getD s 0 :: out1 (a.getD s 0) (a.toList.drop (s + 1)) := by
        rw [hd]
        show (if p = 10 ∧ a.getD s 0 = 46 then _ else _) = _
        rw [if_neg hno]
      have ih := next1_out k (s + 1) (a.getD s 0) (by omega) ⟨fun q => .inr q, fun q => by
        rcases q with q | q
        · omega
        · exact q⟩
      cases hx : next1 a k (s + 1) with
      | none =>
        rw [hx] at ih
        simp only at ih ⊢
        rw [step, ih, hd]
      | some xy =>
        obtain ⟨x, y⟩ := xy
        rw [hx] at ih
        have hin := next1_in a k (s + 1) x y (by omega) hx
        obtain ⟨e1, e2, e3⟩ := ih
        refine ⟨e1, e2, ?_⟩
        rw [step, e3, hd, sub_step hin.1, List.take_succ_cons]
        rfl
end
theorem sub2_eq (T : Str) : ∀ (fuel s : Nat), T.cps.size - s ≤ fuel → s ≤ T.cps.size → outS T.cps.toList [13, 10] (nx2 T) fuel s = out2 (T.cps.toList.drop s)
  | 0, s, hf, hs => by
    have : T.cps.toList.drop s = [] := List.drop_of_length_le (by rw [Array.length_toList]; omega)
    show T.cps.toList.drop s = _
    rw [this]; rfl
  | fuel + 1, s, hf, hs => by
    have h := next2_out T.cps (T.cps.size - s) s (Nat.add_sub_of_le hs)
    unfold outS
    have e : nx2 T s = next2 T.cps (T.cps.size - s) s := if_pos hs
    rw [e]
    cases hx : next2 T.cps (T.cps.size - s) s with
    | none => rw [hx] at h; exact h.symm
    | some xy =>
      obtain ⟨x, y⟩ := xy
      rw [hx] at h
      have hin := next2_in T.cps _ s x y (Nat.add_sub_of_le hs) hx
      show _ ++ _ ++ outS T.cps.toList [13, 10] (nx2 T) fuel y = _
      rw [sub2_eq T fuel y (fuelL hf (Nat.lt_of_le_of_lt hin.1 hin.2.1)) hin.2.2]
      exact h.symm
theorem sub1_eq (T : Str) : ∀ (fuel s p : Nat), T.cps.size - s ≤ fuel → s ≤ T.cps.size → (p = 10 ↔ (s = 0 ∨ T.cps.getD (s - 1) 0 = 10)) → outS T.cps.toList [46, 46] (nx1 T) fuel s = out1 p (T.cps.toList.drop s)
  | 0, s, p, hf, hs, _ => by
    have : T.cps.toList.drop s = [] := List.drop_of_length_le (by rw [Array.length_toList]; omega)
    show T.cps.toList.drop s = _
    rw [this]; rfl
  | fuel + 1, s, p, hf, hs, hp => by
    have h := next1_out T.cps (T.cps.size - s) s p (Nat.add_sub_of_le hs) hp
    unfold outS
    have e : nx1 T s = next1 T.cps (T.cps.size - s) s := if_pos hs
    rw [e]
    cases hx : next1 T.cps (T.cps.size - s) s with
    | none => rw [hx] at h; exact h.symm
    | some xy =>
      obtain ⟨x, y⟩ := xy
      rw [hx] at h
      have hin := next1_in T.cps _ s x y (Nat.add_sub_of_le hs) hx
      obtain ⟨e1, e2, e3⟩ := h
      show _ ++ _ ++ outS T.cps.toList [46, 46] (nx1 T) fuel y = _
      rw [sub1_eq T fuel y 46 (fuelL hf (Nat.lt_of_le_of_lt hin.1 hin.2.1)) hin.2.2 ⟨fun q => by omega, fun q => by
        subst e1
        rcases q with q | q
        · omega
        · rw [Nat.add_sub_cancel, e2] at q; omega⟩]
      exact e3.symm
theorem sub2_is (l : List Nat) : sub2 ⟨l.toArray⟩ = ⟨(out2 l).toArray⟩ := by
  unfold sub2
  rw [sub2_eq _ _ 0 (by omega) (Nat.zero_le _)]
  simp
theorem sub1_is (l : List Nat) : sub1 ⟨l.toArray⟩ = ⟨(out1 10 l).toArray⟩ := by
  unfold sub1
  rw [sub1_eq _ _ 0 10 (by omega) (Nat.zero_le _) ⟨fun _ => .inl rfl, fun _ => rfl⟩]
  simp
end Mine
end
/-! part M2 -/
section
open PySem PySem.W PyProof.Rows PySem.Calls
set_option Elab.async false
set_option maxRecDepth 100000
set_option maxHeartbeats 1000000
set_option linter.unusedSimpArgs false
namespace Mine

theorem kw54 : True := by
  w_top off
  k_with_none
  k_with "mine ne" => first | (with_reducible first | assumption | (refine Ne.symm ?_; assumption)) | (with_reducible ((repeat (first | (rename ((_ ≠ _ ∧ _) ∧ _) => hZk; obtain ⟨_, _⟩ := hZk) | (rename (_ ≠ _ ∧ _) => hZk; obtain ⟨_, _⟩ := hZk))); first | assumption | (refine Ne.symm ?_; assumption))) | ((repeat (refine Mine.aS ?_)); (first | refine Nat.ne_of_lt ?_ | refine Nat.ne_of_gt ?_); (repeat (first | exact Mine.lA _ | refine Mine.lB ?_)); done) | (with_reducible ((repeat (rename (@LT.lt _ _ _ _ ∧ _) => hZk; obtain ⟨_, _⟩ := hZk)); first | (refine Nat.ne_of_lt ?_; assumption) | (refine Nat.ne_of_gt ?_; assumption)))
  k_with "mine enter" => (k_dflt (refine' enter ?k1Zk ?k8Zk ?k6Zk ?k7Zk ?k9Zk ?kBZk ?c5Zk ?c2Zk ?c3Zk ?c4Zk ?_; (case k1Zk => assumption); (case k6Zk => k_is); (case k7Zk => k_is); (case k8Zk => (dsimp only [Ar, recursionLimit]; first | with_reducible exact Mine.dU0 (by assumption) | with_reducible exact Mine.dU1 (by assumption) (by decide) | with_reducible exact Mine.dU2 (by assumption) (by decide) | omega)); (case k9Zk => exact BindsTo.of_eq rfl); (case c5Zk => decide); (case kBZk => exact locs rfl); (case c2Zk => exact rfl); (case c3Zk => exact rfl); (case c4Zk => exact rfl); k_whole; intro L'Zk h'Zk F'Zk N'Zk B'Zk X'Zk T'Zk; (try dsimp only); (try k_fold)))
  k_with "ite" => first | refine ite_eq (by omega) ?_ | refine ite_ne (by omega) ?_
  trivial
open PySem.Spec
def qIter (T : Str) : Nat → Str
  | 0 => T
  | n + 1 => sub1 (sub2 (qIter T n))

theorem kw55 : True := by
  k_with "call ref" => ((with_reducible show wpAny _ _ (call (Value.ref 111) _) _ _ _); k_dflt (refine' use (quote _ _ ?wqZk ?wrZk) ?uBZk ?uFZk ?uNZk ?uXZk ?uTZk ?uAZk ?ufZk ?ukZk ?udZk ?uuZk ?upZk ?_; (case uBZk => k_asm); (case uFZk => k_asm); (case uNZk => k_asm); (case uXZk => k_asm); (case uTZk => k_asm); (case uAZk => exact rfl); (case ufZk => exact rfl); (case ukZk => exact rfl); (case udZk => (dsimp only; first | with_reducible exact Mine.dU0 (by assumption) | with_reducible exact Mine.dU1 (by assumption) (by decide) | with_reducible exact Mine.dU2 (by assumption) (by decide) | omega)); (case uuZk => (dsimp only; first | with_reducible exact Mine.dU0 (by assumption) | with_reducible exact Mine.dU1 (by assumption) (by decide) | with_reducible exact Mine.dU2 (by assumption) (by decide) | omega)); (case wqZk => assumption); (case wrZk => assumption); (case upZk => trivial); k_whole; intro v'Zk h'Zk tk'Zk new'Zk F'Zk N'Zk ap'Zk P'Zk; obtain ⟨t'Zk, e1'Zk, e2'Zk⟩ := P'Zk; subst e1'Zk; subst e2'Zk; clear ap'Zk; dsimp only [List.cons_append, List.nil_append] at N'Zk; (try k_sweep); (try dsimp only)))
  k_with "exec For Name Call cons nil" => (k_here; k_dflt (refine' For_turns ?kFZk ?_; (case kFZk => k_asm); k_whole))
  k_with "eval Name" => (k_here; k_dflt (refine' ld ?k1Zk ?k2Zk ?_; (case k1Zk => k_asm); (case k2Zk => with_unfolding_all assumption); k_whole))
  trivial
structure StJ (T : Str) (i : Nat) (m : Str → Option Value) (news : List (Addr × Obj)) : Prop where
  text : ∃ t, m (Str.ofString "text") = some (.str (qIter T i) t)
  led : ∃ a vs nn, m (Str.ofString "stages") = some (.ref a) ∧ news = [(a, PySem.W.listOf vs.toArray nn)] ∧ Rows (fun j v _ => ∃ t, v = .str (qIter T j) t) (i + 1) vs news
theorem kw56 : True := by
  k_with "call builtin:list.append" => (k_here; k_dflt (refine' append1 ?aFZk ?aNZk ?arZk ?azZk ?_; (case aFZk => k_asm); (case aNZk => k_asm); (case arZk => assumption); (case azZk => assumption); k_whole); intro h'Zk F'Zk N'Zk; (try k_sweep))
  trivial
theorem rangeS : ∀ n : Nat, n ≤ 100 → Builtin.Range.small 0 (n : Int) 1 = true ∧ Builtin.Range.rangeSize 0 (n : Int) 1 = ((n : Nat) : Int) := by decide +kernel
theorem stages_spec (T : Str) (t tn : Tok) (n : Nat) (hn : n ≤ 100) (hq : ∀ i, i < n → (qIter T i).cps.size ≤ 16384 ∧ (sub2 (qIter T i)).cps.size ≤ 16384) : Spec hd.heap_39 165 3 60 [.str T t, .int n tn]
    (fun _ => True) (fun v new => ∃ a vs nn, v = .ref a ∧ new = [(a, PySem.W.listOf vs.toArray nn)] ∧ Rows (fun j v _ => ∃ t, v = .str (qIter T j) t) (n + 1) vs []) := by
  intro prog w dp un gd base outer p loose mean mg mb s G hd hu hpre
  walk_at "mine enter"
  k_steps
  (k_dflt (refine' range_for (n := n) (StJ T) ?uh (by assumption) ?usm ?un ?uF ?uN ?u0 ?ut ?ud))
  (case uh => rfl)
  (case usm => exact (rangeS n hn).1)
  (case un => exact (rangeS n hn).2)
  (case uF => k_asm)
  (case uN => k_asm)
  (case u0 => exact ⟨⟨_, rfl⟩, _, [.str T t], _, rfl, rfl, Rows.one ⟨_, rfl⟩⟩)
  (case ut =>
    intro i t' m₁ news₁ own h tk hi hJ F N o1
    obtain ⟨⟨tt, ht⟩, a, vs, nn, hs, rfl, hR⟩ := hJ
    obtain ⟨z1, z2⟩ := hq i hi
    have hlen : vs.length ≤ 1000 := by rw [hR.len]; omega
    simp only [List.cons_append, List.nil_append] at N
    replace o1 : ∀ q ∈ own, a ≠ q.1 := fun q hq => o1 q hq _ (.head _)
    k_steps
    exact ⟨_, _, _, _, rfl, by k_asm, by k_asm, fun p hp => .inr fun q hq => (List.mem_singleton.mp hp) ▸ o1 q hq, ⟨⟨_, rfl⟩, _, _, _, (by with_unfolding_all assumption), rfl, hR.snoc (fun _ _ y => y) ⟨_, rfl⟩⟩⟩)
  intro h tk m' news' hJ F N
  obtain ⟨_, a, vs, nn, hs, rfl, hR⟩ := hJ
  k_steps
  all_goals (exact back (by assumption) (by assumption) ⟨_, _, _, rfl, rfl, hR.mono fun _ _ y => y⟩)
end Mine
end
/-! part D5 -/
section
open PySem PySem.W PyProof.Rows PySem.Calls
set_option Elab.async false
set_option maxRecDepth 100000
set_option maxHeartbeats 8000000
set_option linter.unusedSimpArgs false
namespace Mine

theorem kw57 : True := by
  w_top off
  k_with_none
  k_with "mine ne" => first | (with_reducible first | assumption | (refine Ne.symm ?_; assumption)) | (with_reducible ((repeat (first | (rename ((_ ≠ _ ∧ _) ∧ _) => hZk; obtain ⟨_, _⟩ := hZk) | (rename (_ ≠ _ ∧ _) => hZk; obtain ⟨_, _⟩ := hZk))); first | assumption | (refine Ne.symm ?_; assumption))) | ((repeat (refine Mine.aS ?_)); (first | refine Nat.ne_of_lt ?_ | refine Nat.ne_of_gt ?_); (repeat (first | exact Mine.lA _ | refine Mine.lB ?_)); done) | (with_reducible ((repeat (rename (@LT.lt _ _ _ _ ∧ _) => hZk; obtain ⟨_, _⟩ := hZk)); first | (refine Nat.ne_of_lt ?_; assumption) | (refine Nat.ne_of_gt ?_; assumption)))
  k_with "mine enter" => (k_dflt (refine' enter ?k1Zk ?k8Zk ?k6Zk ?k7Zk ?k9Zk ?kBZk ?c5Zk ?c2Zk ?c3Zk ?c4Zk ?_; (case k1Zk => assumption); (case k6Zk => k_is); (case k7Zk => k_is); (case k8Zk => (dsimp only [Ar, recursionLimit]; first | with_reducible exact Mine.dU0 (by assumption) | with_reducible exact Mine.dU1 (by assumption) (by decide) | with_reducible exact Mine.dU2 (by assumption) (by decide) | omega)); (case k9Zk => exact BindsTo.of_eq rfl); (case c5Zk => decide); (case kBZk => exact locs rfl); (case c2Zk => exact rfl); (case c3Zk => exact rfl); (case c4Zk => exact rfl); k_whole; intro L'Zk h'Zk F'Zk N'Zk B'Zk X'Zk T'Zk; (try dsimp only); (try k_fold)))
  k_with "ite" => first | refine ite_eq (by omega) ?_ | refine ite_ne (by omega) ?_
  k_with "mine enterT" => (k_dflt (refine' enterC (as := [54]) (led := [(54, tabObj #[])]) ?k1Zk ?klZk ?k8Zk ?k6Zk ?k7Zk ?k9Zk ?kBZk ?kDZk ?c2Zk ?c3Zk ?c4Zk ?_; (case k1Zk => assumption); (case klZk => assumption); (case k6Zk => k_is); (case k7Zk => k_is); (case k8Zk => (dsimp only [Ar, recursionLimit]; first | with_reducible exact Mine.dU0 (by assumption) | with_reducible exact Mine.dU1 (by assumption) (by decide) | with_reducible exact Mine.dU2 (by assumption) (by decide) | omega)); (case k9Zk => exact BindsTo.of_eq rfl); (case kBZk => exact rfl); (case kDZk => decide +kernel); (case c2Zk => exact rfl); (case c3Zk => exact rfl); (case c4Zk => exact rfl); k_whole; intro L'Zk h'Zk tk'Zk cells'Zk F'Zk N'Zk Y'Zk B'Zk X'Zk T'Zk l1Zk; (try k_lt l1Zk); k_cells Y'Zk; (try simp only [List.cons_append, List.nil_append, List.append_nil] at N'Zk); (try dsimp only); (try k_fold)))
  k_with "exec FunctionDef" => (k_here; k_dflt (refine' nestDef_K ?d0Zk ?k0Zk ?a0Zk ?_; (case d0Zk => exact rfl); (case k0Zk => exact rfl); (case a0Zk => exact rfl)); k_dflt (refine' nest_K ?FZk ?NZk ?TZk ?CZk ?cdZk ?UZk ?tZk ?nZk ?clZk ?_; (case FZk => k_asm); (case NZk => k_asm); (case TZk => k_asm); (case cdZk => exact rfl); (case CZk => assumption); (case UZk => k_updF); (case tZk => exact True.intro); (case nZk => exact rfl); (case clZk => exact rfl); k_whole); intro f'Zk c'Zk oc'Zk vs'Zk t'Zk ct'Zk dc'Zk h'Zk tk'Zk F'Zk N'Zk d1'Zk d2'Zk l1Zk l2Zk; (try dsimp only at N'Zk); (try k_lt l1Zk); (try k_lt2 l2Zk))
  trivial
/-- a table is laid aside: what a def that fills it hands back -/
def BackT (s : Shared) (P : Addr) (line col : Nat) (qual : Str) (Post : Value → List (Addr × Obj) → Prop) (v : Value) (s' : Shared) : Prop :=
  ∃ h' tk' c' oc vs t new, s' = { s with heap := h', toks := tk' } ∧ Keep (hideAll s.heap [P]) h' ∧ h'.get? P = some (tabObj #[rawInt line, rawInt col, .ref c']) ∧ oc.data = .fields vs ∧ vs[1]? = some (.str qual t) ∧
    Fresh (hideAll s.heap [P]) h' ((c', oc) :: new) ∧ (∀ q ∈ (c', oc) :: new, q.1 ≠ P) ∧ Post v new
theorem backT {s : Shared} {P c' : Addr} {oc : Obj} {vs : Array Value} {t : Tok} {line col : Nat} {qual : Str} {L : Addr} {m : Str → Option Value} {h' : Heap} {tk' : Nat} {Post : Value → List (Addr × Obj) → Prop} {v : Value} {news new : List (Addr × Obj)}
    (F : Fr (hideAll s.heap [P]) L h' m) (N : News (hideAll s.heap [P]) L h' news) (hP : (P, tabObj #[rawInt line, rawInt col, .ref c']) ∈ news) (hc : (c', oc) ∈ news) (hcP : c' ≠ P) (hd : oc.data = .fields vs) (hv : vs[1]? = some (.str qual t)) (hn : ∀ q ∈ new, q ∈ news ∧ q.1 ≠ P) (hp : Post v new) :
    BackT s P line col qual Post v { s with heap := h', toks := tk' } := by
  have up : ∀ q ∈ (c', oc) :: new, q ∈ news ∧ q.1 ≠ P := fun q hq => by
    rcases List.mem_cons.mp hq with rfl | hq
    · exact ⟨hc, hcP⟩
    · exact hn q hq
  exact ⟨h', tk', c', oc, vs, t, new, rfl, F.keep, (N _ hP).1, hd, hv, fun q hq => ⟨(N _ (up q hq).1).1, (N _ (up q hq).1).2.2⟩, fun q hq => (up q hq).2, hp⟩
theorem DPre.of2 {P : Params} {qual : Str} {cl : List (Str × Addr)} {f l c1 c2 c3 c' : Addr} {ds : List Value} {n : Int} {g h : Heap} {L : Addr} {news : List (Addr × Obj)} {o1 o2 o3 : Obj} {doc pm ctv : Value} {t : Tok} (N : News g L h news) (k : Keep g h)
    (hcr : h.CodeRec (.ref c') qual) (hl : g.IsList l ds.toArray) (mf : (f, fnMade (dInn P).name qual (dInn P).params (dInn P).body (dInn P).scope cl doc pm c' ctv) ∈ news)
    (k1 : cl.lookup (Str.ofString "digits") = some c1) (m1 : (c1, o1) ∈ news) (e1 : o1.data = .cell (some (.ref l)))
    (k2 : cl.lookup (Str.ofString "n") = some c2) (m2 : (c2, o2) ∈ news) (e2 : o2.data = .cell (some (.int n t)))
    (k3 : cl.lookup (Str.ofString "inner") = some c3) (m3 : (c3, o3) ∈ news) (e3 : o3.data = .cell (some (.ref f))) : DPre P qual cl f l ds n h where
  inn := ⟨_, _, _, _, N.get mf, hcr⟩
  digits := ⟨c1, k1, o1, N.get m1, e1⟩
  num := ⟨c2, t, k2, o2, N.get m2, e2⟩
  inner := ⟨c3, k3, o3, N.get m3, e3⟩
  list := isList_keeps hl k
/-- the first call of _digits2int -/
theorem d2i3F (P : Params) (l : Addr) (n d0 d1 d2 : Int) (t0 t1 t2 tn : Tok) (hn0 : 0 ≤ n) (hn9 : n ≤ 1000) (hb : d2.natAbs < 2 ^ 1000) (hb2 : (d2 * 2 ^ n.toNat + d1).natAbs < 2 ^ 1000)
    (prog : Program) (w : World) (dp un : Nat) (gd : Option (List Code)) (base : Heap) (outer : List Env) (p : Program) (loose : List Str) (mean : ExcName → Option Value) (mg mb : Str → Option Value) (s : Shared)
    (G : Gd (hd.heap_39 w.params) (Ar dp un gd outer) base outer p loose mean mg mb (hideAll s.heap [54])) (hd : dp + 5 < 1000) (hu : un + 50 < 9900) (h54 : s.heap.get? 54 = some (tabObj #[])) (hl : (hideAll s.heap [54]).IsList l #[.int d0 t0, .int d1 t1, .int d2 t2]) :
    wpAny (model prog w) (Ar dp un gd outer) (call (.ref 59) [.ref l, .int n tn]) (BackT s 54 (dInn P).pos.line (dInn P).pos.col dQual (fun v new => ∃ t, v = .int ((d2 * 2 ^ n.toNat + d1) * 2 ^ n.toNat + d0) t ∧ new = [])) (fun _ _ => False) s := by
  have hC : CodeHd (hideAll s.heap [54]) 58 54 := codeHd_of_K G.k (by kernel_rfl)
  have hled : ∀ q ∈ ([(54, tabObj #[])] : List (Addr × Obj)), s.heap.get? q.1 = some q.2 ∧ q.1 ∈ ([54] : List Addr) := fun q hq => by
    rw [List.mem_singleton.mp hq]; exact ⟨h54, List.mem_singleton.mpr rfl⟩
  walk_at "mine enterT"
  k_steps
  k_dflt (refine' use (dInn3 P _ _ _ l _ n _ d0 d1 d2 _ _ t0 t1 t2 ?wij ?wD0 ?wD1 ?wD2 ?wn0 ?wn9 ?wb ?wb2) ?uB ?uF ?uN ?uX ?uT ?uA ?uf ?uk ?ud ?uu ?up ?_)
  (case uB => k_asm)
  (case uF => k_asm)
  (case uN => k_asm)
  (case uX => k_asm)
  (case uT => k_asm)
  (case uA => exact rfl)
  (case uf => exact rfl)
  (case uk => exact rfl)
  (case ud => (dsimp only; first | with_reducible exact Mine.dU0 (by assumption) | with_reducible exact Mine.dU1 (by assumption) (by decide) | with_reducible exact Mine.dU2 (by assumption) (by decide) | omega))
  (case uu => (dsimp only; first | with_reducible exact Mine.dU0 (by assumption) | with_reducible exact Mine.dU1 (by assumption) (by decide) | with_reducible exact Mine.dU2 (by assumption) (by decide) | omega))
  (case up => (refine' DPre.of2 (P := P) ?uaN ?uak ?uacr ?ual ?uaf ?uk1 ?um1 ?ue1 ?uk2 ?um2 ?ue2 ?uk3 ?um3 ?ue3; (case uaN => k_asm); (case uak => exact Fr.keep (by assumption)); (case uaf => with_unfolding_all k_mem); (case uacr => exact codeRec_news (by k_asm) (by k_mem) (by assumption) (by assumption)); (case ual => assumption); (case uk1 => rfl); (case um1 => k_mem); (case ue1 => assumption); (case uk2 => rfl); (case um2 => k_mem); (case ue2 => assumption); (case uk3 => rfl); (case um3 => k_mem); (case ue3 => assumption)))
  (case wij => decide)
  (case wD0 => exact .zero)
  (case wD1 => exact .succ .zero)
  (case wD2 => exact .succ (.succ .zero))
  (case wn0 => assumption)
  (case wn9 => assumption)
  (case wb => assumption)
  (case wb2 => assumption)
  intro v' h' tk' new' F' N' ap' P'
  obtain ⟨t', rfl, rfl⟩ := P'
  simp only [List.nil_append] at N'
  exact backT (new := []) F' N' (by with_unfolding_all k_mem) (by k_mem) (by k_ne) (by assumption) (by assumption) (fun _ h => nomatch h) ⟨_, rfl, rfl⟩
end Mine
end
/-! part E4 -/
section
open PySem PySem.W PyProof.Rows PySem.Calls
set_option Elab.async false
set_option maxRecDepth 100000
set_option maxHeartbeats 8000000
set_option linter.unusedSimpArgs false
namespace Mine
theorem kw58 : True := by
  w_top off
  k_with_none
  k_with "mine ne" => first | (with_reducible first | assumption | (refine Ne.symm ?_; assumption)) | (with_reducible ((repeat (first | (rename ((_ ≠ _ ∧ _) ∧ _) => hZk; obtain ⟨_, _⟩ := hZk) | (rename (_ ≠ _ ∧ _) => hZk; obtain ⟨_, _⟩ := hZk))); first | assumption | (refine Ne.symm ?_; assumption))) | ((repeat (refine Mine.aS ?_)); (first | refine Nat.ne_of_lt ?_ | refine Nat.ne_of_gt ?_); (repeat (first | exact Mine.lA _ | refine Mine.lB ?_)); done) | (with_reducible ((repeat (rename (@LT.lt _ _ _ _ ∧ _) => hZk; obtain ⟨_, _⟩ := hZk)); first | (refine Nat.ne_of_lt ?_; assumption) | (refine Nat.ne_of_gt ?_; assumption)))
  k_with "mine enter" => (k_dflt (refine' enter ?k1Zk ?k8Zk ?k6Zk ?k7Zk ?k9Zk ?kBZk ?c5Zk ?c2Zk ?c3Zk ?c4Zk ?_; (case k1Zk => assumption); (case k6Zk => k_is); (case k7Zk => k_is); (case k8Zk => (dsimp only [Ar, recursionLimit]; first | with_reducible exact Mine.dU0 (by assumption) | with_reducible exact Mine.dU1 (by assumption) (by decide) | with_reducible exact Mine.dU2 (by assumption) (by decide) | omega)); (case k9Zk => exact BindsTo.of_eq rfl); (case c5Zk => decide); (case kBZk => exact locs rfl); (case c2Zk => exact rfl); (case c3Zk => exact rfl); (case c4Zk => exact rfl); k_whole; intro L'Zk h'Zk F'Zk N'Zk B'Zk X'Zk T'Zk; (try dsimp only); (try k_fold)))
  k_with "ite" => first | refine ite_eq (by omega) ?_ | refine ite_ne (by omega) ?_
  k_with "mine enterT" => (k_dflt (refine' enterC (as := [47]) (led := [(47, tabObj #[])]) ?k1Zk ?klZk ?k8Zk ?k6Zk ?k7Zk ?k9Zk ?kBZk ?kDZk ?c2Zk ?c3Zk ?c4Zk ?_; (case k1Zk => assumption); (case klZk => assumption); (case k6Zk => k_is); (case k7Zk => k_is); (case k8Zk => (dsimp only [Ar, recursionLimit]; first | with_reducible exact Mine.dU0 (by assumption) | with_reducible exact Mine.dU1 (by assumption) (by decide) | with_reducible exact Mine.dU2 (by assumption) (by decide) | omega)); (case k9Zk => exact BindsTo.of_eq rfl); (case kBZk => exact rfl); (case kDZk => decide +kernel); (case c2Zk => exact rfl); (case c3Zk => exact rfl); (case c4Zk => exact rfl); k_whole; intro L'Zk h'Zk tk'Zk cells'Zk F'Zk N'Zk Y'Zk B'Zk X'Zk T'Zk l1Zk; (try k_lt l1Zk); k_cells Y'Zk; (try simp only [List.cons_append, List.nil_append, List.append_nil] at N'Zk); (try dsimp only); (try k_fold)))
  k_with "exec FunctionDef" => (k_here; k_dflt (refine' nestDef_K ?d0Zk ?k0Zk ?a0Zk ?_; (case d0Zk => exact rfl); (case k0Zk => exact rfl); (case a0Zk => exact rfl)); k_dflt (refine' nest_K ?FZk ?NZk ?TZk ?CZk ?cdZk ?UZk ?tZk ?nZk ?clZk ?_; (case FZk => k_asm); (case NZk => k_asm); (case TZk => k_asm); (case cdZk => exact rfl); (case CZk => assumption); (case UZk => k_updF); (case tZk => exact True.intro); (case nZk => exact rfl); (case clZk => exact rfl); k_whole); intro f'Zk c'Zk oc'Zk vs'Zk t'Zk ct'Zk dc'Zk h'Zk tk'Zk F'Zk N'Zk d1'Zk d2'Zk l1Zk l2Zk; (try dsimp only at N'Zk); (try k_lt l1Zk); (try k_lt2 l2Zk))
  k_with "binaryOp Mult ref int" => (k_dflt (refine' mulList ?mFZk ?mNZk ?mmZk ?meZk ?mkZk ?mvZk ?_; (case mFZk => k_asm); (case mNZk => k_asm); (case mmZk => k_mem); (case meZk => assumption); (case mkZk => decide); (case mvZk => exact rfl); k_whole); intro a'Zk h'Zk F'Zk N'Zk l1Zk; (try k_lt l1Zk); (try k_sweep))
  trivial
theorem IPre.of2 {P : Params} {qual : Str} {cl : List (Str × Addr)} {f l c1 c2 c3 c' : Addr} {n : Int} {g h : Heap} {L : Addr} {news : List (Addr × Obj)} {o1 o2 o3 : Obj} {doc pm ctv : Value} {t : Tok} (N : News g L h news)
    (hcr : h.CodeRec (.ref c') qual) (mf : (f, fnMade (iInn P).name qual (iInn P).params (iInn P).body (iInn P).scope cl doc pm c' ctv) ∈ news)
    (k1 : cl.lookup (Str.ofString "a_digits") = some c1) (m1 : (c1, o1) ∈ news) (e1 : o1.data = .cell (some (.ref l)))
    (k2 : cl.lookup (Str.ofString "n") = some c2) (m2 : (c2, o2) ∈ news) (e2 : o2.data = .cell (some (.int n t)))
    (k3 : cl.lookup (Str.ofString "inner") = some c3) (m3 : (c3, o3) ∈ news) (e3 : o3.data = .cell (some (.ref f))) : IPre P qual cl f l n h where
  inn := ⟨_, _, _, _, N.get mf, hcr⟩
  digits := ⟨c1, k1, o1, N.get m1, e1⟩
  num := ⟨c2, t, k2, o2, N.get m2, e2⟩
  inner := ⟨c3, k3, o3, N.get m3, e3⟩
theorem useL2 {f : Addr} {args : List Value} {Kp : Params → Frag} {d u dp un nn : Nat} {gd : Option (List Code)} {ds : List Value} {Pre : Heap → Prop} {Post : List Value → Prop} {A A₀ : Around} {base g : Heap} {outer : List Env} {p : Program} {loose : List Str} {mean : ExcName → Option Value} {mg mb : Str → Option Value} {prog : Program} {w : World} {s : Shared} {E Q : Value → Shared → Prop} {L l : Addr} {m : Str → Option Value} {e e2 : Addr × Obj} {rest : List (Addr × Obj)} {env : Env}
    (sp : SpecL Kp f d u args l nn ds Pre Post) (B : Below A₀ base outer g) (F : Fr g L s.heap m) (N : News g L s.heap (e :: e2 :: (l, listOf ds.toArray nn) :: rest)) (hr : ∀ q ∈ e :: e2 :: rest, q.1 ≠ l) (X : (Kp w.params).In g) (T : Top p loose mean mg mb g)
    (hA : A = Ar dp un gd (env :: outer)) (hf : env.frame = some L) (hk : env.scope.kind = .function) (hd : dp + d < 1000) (hu : un + u < 9900) (hpre : g.StaysIn (hideAll s.heap [l]) → News g L (hideAll s.heap [l]) (e :: e2 :: rest) → Pre (hideAll s.heap [l]))
    (h : ∀ h' tk' ds', Fr g L h' m → News g L h' (e :: e2 :: (l, listOf ds'.toArray nn) :: rest) → Post ds' → Q .none { s with heap := h', toks := tk' }) :
    wpAny (model prog w) A (call (.ref f) args) Q E s := by
  have sw : ∀ {h : Heap} {o : Obj}, News g L h (e :: e2 :: (l, o) :: rest) ↔ News g L h ((l, o) :: e :: e2 :: rest) := fun {h o} =>
    ⟨fun N q hq => N q (by simp only [List.mem_cons] at hq ⊢; rcases hq with h | h | h | h <;> simp [h]), fun N q hq => N q (by simp only [List.mem_cons] at hq ⊢; rcases hq with h | h | h | h <;> simp [h])⟩
  exact useL sp B F (sw.mp N) hr X T hA hf hk hd hu hpre fun h' tk' ds' F' N' hp => h h' tk' ds' F' (sw.mpr N') hp
theorem backT1 {s : Shared} {P c' : Addr} {oc : Obj} {vs : Array Value} {t : Tok} {line col : Nat} {qual : Str} {L : Addr} {m : Str → Option Value} {h' : Heap} {tk' : Nat} {Post : Value → List (Addr × Obj) → Prop} {v : Value} {news : List (Addr × Obj)} {e : Addr × Obj}
    (F : Fr (hideAll s.heap [P]) L h' m) (N : News (hideAll s.heap [P]) L h' news) (hm : e ∈ news) (hne : e.1 ≠ P) (hP : (P, tabObj #[rawInt line, rawInt col, .ref c']) ∈ news) (hc : (c', oc) ∈ news) (hcP : c' ≠ P) (hd : oc.data = .fields vs) (hv : vs[1]? = some (.str qual t)) (hp : Post v [e]) :
    BackT s P line col qual Post v { s with heap := h', toks := tk' } := backT F N hP hc hcP hd hv (fun q h => by rw [List.mem_singleton.mp h]; exact ⟨hm, hne⟩) hp
/-- the first call of _int2digits -/
theorem i2d3F (P : Params) (n x : Int) (tx tn : Tok) (hn0 : 0 < n) (hn9 : n ≤ 1000) (hx0 : 0 < x) (hx9 : x < 2 ^ 1000) (hk : ((Builtin.Int.intBits x : Int) + n - 1).fdiv n = ((3 : Nat) : Int))
    (prog : Program) (w : World) (dp un : Nat) (gd : Option (List Code)) (base : Heap) (outer : List Env) (p : Program) (loose : List Str) (mean : ExcName → Option Value) (mg mb : Str → Option Value) (s : Shared)
    (G : Gd (hd.heap_39 w.params) (Ar dp un gd outer) base outer p loose mean mg mb (hideAll s.heap [47])) (hd : dp + 5 < 1000) (hu : un + 50 < 9900) (h47 : s.heap.get? 47 = some (tabObj #[])) :
    wpAny (model prog w) (Ar dp un gd outer) (call (.ref 52) [.int x tx, .int n tn]) (BackT s 47 (iInn P).pos.line (iInn P).pos.col iQual (fun v new => ∃ a t0 t1 t2, v = .ref a ∧ new = [(a, listOf #[.int (x % 2 ^ n.toNat) t0, .int (x / 2 ^ n.toNat % 2 ^ n.toNat) t1, .int (x / 2 ^ n.toNat / 2 ^ n.toNat) t2] 0)])) (fun _ _ => False) s := by
  have hx0' : 0 ≤ x := by omega
  have hC : CodeHd (hideAll s.heap [47]) 51 47 := codeHd_of_K G.k (by kernel_rfl)
  have hled : ∀ q ∈ ([(47, tabObj #[])] : List (Addr × Obj)), s.heap.get? q.1 = some q.2 ∧ q.1 ∈ ([47] : List Addr) := fun q hq => by
    rw [List.mem_singleton.mp hq]; exact ⟨h47, List.mem_singleton.mpr rfl⟩
  walk_at "mine enterT"
  k_steps
  rotate_right
  · exfalso; omega
  k_dflt (refine' useL2 (iInn3 P _ _ _ _ _ _ [0, 0, 0] n x _ _ _ _ ?wij ?wi ?wl ?wn0 ?wn9 ?wx0 ?wx9) ?uB ?uF ?uN ?ur ?uX ?uT ?uA ?uf ?uk ?ud ?uu ?up ?_)
  (case uB => k_asm)
  (case uF => k_asm)
  (case uN => k_asm)
  (case ur => k_all)
  (case uX => k_asm)
  (case uT => k_asm)
  (case uA => exact rfl)
  (case uf => exact rfl)
  (case uk => exact rfl)
  (case ud => (dsimp only; first | with_reducible exact Mine.dU0 (by assumption) | with_reducible exact Mine.dU1 (by assumption) (by decide) | with_reducible exact Mine.dU2 (by assumption) (by decide) | omega))
  (case uu => (dsimp only; first | with_reducible exact Mine.dU0 (by assumption) | with_reducible exact Mine.dU1 (by assumption) (by decide) | with_reducible exact Mine.dU2 (by assumption) (by decide) | omega))
  (case up => (intro st' n'; refine' IPre.of2 (P := P) n' ?uacr ?uaf ?uk1 ?um1 ?ue1 ?uk2 ?um2 ?ue2 ?uk3 ?um3 ?ue3; (case uaf => with_unfolding_all k_mem); (case uacr => exact codeRec_news n' (by k_mem) (by assumption) (by assumption)); (case uk1 => rfl); (case um1 => k_mem); (case ue1 => assumption); (case uk2 => rfl); (case um2 => k_mem); (case ue2 => assumption); (case uk3 => rfl); (case um3 => k_mem); (case ue3 => assumption)))
  (case wij => decide)
  (case wi => exact .cons _ _ (.cons _ _ (.cons _ _ (.nil))))
  (case wl => decide)
  (case wn0 => omega)
  (case wn9 => assumption)
  (case wx0 => assumption)
  (case wx9 => assumption)
  intro h' tk' ds' F' N' P'
  obtain ⟨ta', tb', tc', rfl⟩ := P'
  (try k_sweep)
  k_steps
  all_goals (exact backT1 (by assumption) (by assumption) (by k_mem) (by k_ne) (by with_unfolding_all k_mem) (by k_mem) (by k_ne) (by assumption) (by assumption) ⟨_, _, _, _, rfl, rfl⟩)
end Mine
end
/-! part Z3 -/
section
open PySem PySem.W PyProof.Rows PySem.Calls PySem.Spec
set_option Elab.async false
set_option maxRecDepth 100000
namespace Mine
theorem kw59 : True := by
  w_top off
  k_with_none
  k_with "mine ne" => first | (with_reducible first | assumption | (refine Ne.symm ?_; assumption)) | (with_reducible ((repeat (first | (rename ((_ ≠ _ ∧ _) ∧ _) => hZk; obtain ⟨_, _⟩ := hZk) | (rename (_ ≠ _ ∧ _) => hZk; obtain ⟨_, _⟩ := hZk))); first | assumption | (refine Ne.symm ?_; assumption))) | ((repeat (refine Mine.aS ?_)); (first | refine Nat.ne_of_lt ?_ | refine Nat.ne_of_gt ?_); (repeat (first | exact Mine.lA _ | refine Mine.lB ?_)); done) | (with_reducible ((repeat (rename (@LT.lt _ _ _ _ ∧ _) => hZk; obtain ⟨_, _⟩ := hZk)); first | (refine Nat.ne_of_lt ?_; assumption) | (refine Nat.ne_of_gt ?_; assumption)))
  trivial
open LCg
/-! zip of three lists: iterators at b, b + 1, b + 2, their tuple at b + 3, the kept tuple at b + 4, the zip at b + 5 -/
abbrev Trip (h : Heap) (T : Addr) (x y z : Value) : Prop := h.get? T = some { cls := .type "tuple", data := .seq #[x, y, z] }
structure Zip3At (h : Heap) (b l1 l2 l3 : Addr) (k : Nat) (f0 : Value) (xs ys zs : Array Value) : Prop where
  z : IsZip h (b + 5) (b + 3) (b + 4) f0
  ti : Trip h (b + 3) (.ref b) (.ref (b + 1)) (.ref (b + 2))
  tto : ∃ u v w, Trip h (b + 4) u v w
  i1 : h.IsListIter b l1 k
  i2 : h.IsListIter (b + 1) l2 k
  i3 : h.IsListIter (b + 2) l3 k
  a1 : h.IsList l1 xs
  a2 : h.IsList l2 ys
  a3 : h.IsList l3 zs
section
variable {prog : Program} {w : World} {A : Around} {E : Value → Shared → Prop} {s : Shared}
theorem upd_trip {T : Addr} {a b c x : Value} {k : Nat} {Q : Unit → Shared → Prop} (hT : Trip s.heap T a b c)
    (h : ∀ h', h'.get? T = some { cls := .type "tuple", data := .seq ((#[a, b, c] : Array Value).setIfInBounds k x) } → Heap.SameBut T s.heap h' → Q () { s with heap := h' }) :
    wpAny (model prog w) A (updateSeq T (·.setIfInBounds k x)) Q E s := by
  refine wpAny_updateSeq hT rfl (h _ ?_ (Heap.SameBut.update ..))
  rw [Heap.get?_update_self _ hT rfl]
  simp [Obj.mapSeq]
theorem zip3_item {b l1 l2 l3 : Addr} {k : Nat} {xs ys zs : Array Value} {x y z : Value} {Q : Value → Shared → Prop} (hl1 : l1 < b) (hl2 : l2 < b) (hl3 : l3 < b)
    (Z : Zip3At s.heap b l1 l2 l3 k .none xs ys zs) (hx : xs[k]? = some x) (hy : ys[k]? = some y) (hz : zs[k]? = some z)
    (hQ : ∀ h', Zip3At h' b l1 l2 l3 (k + 1) (rawInt s.heap.objs.size) xs ys zs → Trip h' s.heap.objs.size x y z →
      (∀ c o, c ≠ b + 5 → c ≠ b + 4 → c ≠ b → c ≠ b + 1 → c ≠ b + 2 → s.heap.get? c = some o → h'.get? c = some o) → Q (.ref s.heap.objs.size) { s with heap := h' }) :
    wpAny (model prog w) A (Builtin.«zip.__next__» ⟨[.ref (b + 5)], []⟩) (fun fin s' => ∃ v, fin = .done (.ret v) ∧ Q v s') E s := by
  obtain ⟨zz, ti, ⟨u, v, ww, tto⟩, i1, i2, i3, a1, a2, a3⟩ := Z
  show wpAny _ _ (field (.ref (b + 5)) 2 >>= _) _ _ _
  refine wpAny_bind (wpAny_field zz rfl (x := .bool false) rfl ?_)
  show wpAny _ _ (field (.ref (b + 5)) 3 >>= _) _ _ _
  refine wpAny_bind (wpAny_field zz rfl (x := .ref (b + 3)) rfl ?_)
  refine wpAny_bind (wpAny_seqItems ti rfl ?_)
  show wpAny _ _ (Builtin.SmallTypes.ownedTupleIsFree (.ref (b + 5)) >>= _) _ _ _
  refine wpAny_bind ?_
  unfold Builtin.SmallTypes.ownedTupleIsFree
  refine wpAny_bind (wpAny_field zz rfl (x := .none) rfl (wpAny_pure ?_))
  simp only [if_true]
  refine wpAny_bind (wpAny_rule ?_)
  refine wpAny_bind (wpAny_field zz rfl (x := .ref (b + 4)) rfl ?_)
  refine wpAny_bind (wpAny_setField_rec zz (by simp) fun h₁ hz₁ hs₁ => ?_)
  replace hz₁ : IsZip h₁ (b + 5) (b + 3) (b + 4) .ellipsis := hz₁
  have n45 : @Ne Addr (b + 4) (b + 5) := neA (by omega)
  have n05 : @Ne Addr b (b + 5) := neA (by omega)
  have n15 : @Ne Addr (b + 1) (b + 5) := neA (by omega)
  have n25 : @Ne Addr (b + 2) (b + 5) := neA (by omega)
  have n35 : @Ne Addr (b + 3) (b + 5) := neA (by omega)
  have n04 : @Ne Addr b (b + 4) := neA (by omega)
  have n14 : @Ne Addr (b + 1) (b + 4) := neA (by omega)
  have n24 : @Ne Addr (b + 2) (b + 4) := neA (by omega)
  have n34 : @Ne Addr (b + 3) (b + 4) := neA (by omega)
  have n10 : @Ne Addr (b + 1) b := neA (by omega)
  have n20 : @Ne Addr (b + 2) b := neA (by omega)
  have n21 : @Ne Addr (b + 2) (b + 1) := neA (by omega)
  have n30 : @Ne Addr (b + 3) b := neA (by omega)
  have n31 : @Ne Addr (b + 3) (b + 1) := neA (by omega)
  have n32 : @Ne Addr (b + 3) (b + 2) := neA (by omega)
  have ll : ∀ l : Nat, l < b → @Ne Addr l b ∧ @Ne Addr l (b + 1) ∧ @Ne Addr l (b + 2) ∧ @Ne Addr l (b + 4) ∧ @Ne Addr l (b + 5) := fun l hl => ⟨neA (by omega), neA (by omega), neA (by omega), neA (by omega), neA (by omega)⟩
  obtain ⟨p10, p11, p12, p14, p15⟩ := ll l1 hl1
  obtain ⟨p20, p21, p22, p24, p25⟩ := ll l2 hl2
  obtain ⟨p30, p31, p32, p34, p35⟩ := ll l3 hl3
  refine wpAny_bind ?_
  simp only [List.zipIdx_cons, List.zipIdx_nil, List.forIn_cons, List.forIn_nil]
  refine wpAny_bind (wpAny_bind (wpAny_onRaise ?_))
  show wpAny _ _ (Builtin.SmallTypes.nextOf (.ref b) >>= _) _ _ _
  refine wpAny_bind (wpAny_nextOf_list_item (i1.extBut hs₁.extBut n05) (a1.extBut hs₁.extBut p15) hx fun h₂ j1 hs₂ => wpAny_pure ?_)
  have t2 : Trip h₂ (b + 4) u v ww := hs₂.extBut _ _ n04.symm (hs₁.extBut _ _ n45 tto)
  refine wpAny_bind (wpAny_seqItems t2 rfl ?_)
  refine wpAny_bind (upd_trip t2 fun h₃ t3 hs₃ => ?_)
  replace t3 : Trip h₃ (b + 4) x v ww := t3
  refine wpAny_bind (wpAny_letGo (wpAny_pure ?_))
  refine wpAny_bind (wpAny_bind (wpAny_onRaise ?_))
  show wpAny _ _ (Builtin.SmallTypes.nextOf (.ref (b + 1)) >>= _) _ _ _
  refine wpAny_bind (wpAny_nextOf_list_item (((i2.extBut hs₁.extBut n15).extBut hs₂.extBut n10).extBut hs₃.extBut n14)
    (((a2.extBut hs₁.extBut p25).extBut hs₂.extBut p20).extBut hs₃.extBut p24) hy fun h₄ j2 hs₄ => wpAny_pure ?_)
  have t4 : Trip h₄ (b + 4) x v ww := hs₄.extBut _ _ n14.symm t3
  refine wpAny_bind (wpAny_seqItems t4 rfl ?_)
  refine wpAny_bind (upd_trip t4 fun h₅ t5 hs₅ => ?_)
  replace t5 : Trip h₅ (b + 4) x y ww := t5
  refine wpAny_bind (wpAny_letGo (wpAny_pure ?_))
  refine wpAny_bind (wpAny_bind (wpAny_onRaise ?_))
  show wpAny _ _ (Builtin.SmallTypes.nextOf (.ref (b + 2)) >>= _) _ _ _
  refine wpAny_bind (wpAny_nextOf_list_item (((((i3.extBut hs₁.extBut n25).extBut hs₂.extBut n20).extBut hs₃.extBut n24).extBut hs₄.extBut n21).extBut hs₅.extBut n24)
    (((((a3.extBut hs₁.extBut p35).extBut hs₂.extBut p30).extBut hs₃.extBut p34).extBut hs₄.extBut p31).extBut hs₅.extBut p34) hz fun h₆ j3 hs₆ => wpAny_pure ?_)
  have t6 : Trip h₆ (b + 4) x y ww := hs₆.extBut _ _ n24.symm t5
  refine wpAny_bind (wpAny_seqItems t6 rfl ?_)
  refine wpAny_bind (upd_trip t6 fun h₇ t7 hs₇ => ?_)
  replace t7 : Trip h₇ (b + 4) x y z := t7
  refine wpAny_bind (wpAny_letGo (wpAny_pure (wpAny_pure ?_)))
  refine wpAny_bind (wpAny_seqItems t7 rfl ?_)
  refine wpAny_bind (wpAny_newTuple ?_)
  have hsz : h₇.objs.size = s.heap.objs.size := by rw [hs₇.1, hs₆.1, hs₅.1, hs₄.1, hs₃.1, hs₂.1, hs₁.1]
  have kz : ∀ c o, c ≠ b + 4 → c ≠ b → c ≠ b + 1 → c ≠ b + 2 → h₁.get? c = some o → h₇.get? c = some o := fun c o c2 c3 c4 c5 e =>
    hs₇.extBut _ _ c2 (hs₆.extBut _ _ c5 (hs₅.extBut _ _ c2 (hs₄.extBut _ _ c4 (hs₃.extBut _ _ c2 (hs₂.extBut _ _ c3 e)))))
  have kk : ∀ c o, c ≠ b + 5 → c ≠ b + 4 → c ≠ b → c ≠ b + 1 → c ≠ b + 2 → s.heap.get? c = some o → h₇.get? c = some o := fun c o c1 c2 c3 c4 c5 e =>
    kz c o c2 c3 c4 c5 (hs₁.extBut _ _ c1 e)
  have hz7 : IsZip h₇ (b + 5) (b + 3) (b + 4) .ellipsis := kz _ _ n45.symm n05.symm n15.symm n25.symm hz₁
  have q1 : h₇.IsListIter b l1 (k + 1) := ((((j1.extBut hs₃.extBut n04).extBut hs₄.extBut n10.symm).extBut hs₅.extBut n04).extBut hs₆.extBut n20.symm).extBut hs₇.extBut n04
  have q2 : h₇.IsListIter (b + 1) l2 (k + 1) := ((j2.extBut hs₅.extBut n14).extBut hs₆.extBut n21.symm).extBut hs₇.extBut n14
  have q3 : h₇.IsListIter (b + 2) l3 (k + 1) := j3.extBut hs₇.extBut n24
  have zlt : b + 5 < h₇.objs.size := Heap.lt_size hz7
  show wpAny _ _ (Builtin.SmallTypes.ownedTupleHandOut (.ref (b + 5)) (.ref h₇.objs.size) >>= _) _ _ _
  refine wpAny_bind ?_
  unfold Builtin.SmallTypes.ownedTupleHandOut
  have hz8 : IsZip (h₇.push { cls := .type "tuple", data := .seq #[x, y, z] }) (b + 5) (b + 3) (b + 4) .ellipsis := Heap.get?_push_of_some _ hz7
  refine wpAny_bind (wpAny_setField_rec hz8 (by simp) fun h₈ hz₈ hs₈ => ?_)
  replace hz₈ : IsZip h₈ (b + 5) (b + 3) (b + 4) (rawInt h₇.objs.size) := hz₈
  refine wpAny_setField_rec hz₈ (by simp) fun h₉ hz₉ hs₉ => ?_
  replace hz₉ : IsZip h₉ (b + 5) (b + 3) (b + 4) (rawInt h₇.objs.size) := hz₉
  have up : ∀ c o, c ≠ b + 5 → h₇.get? c = some o → h₉.get? c = some o := fun c o c1 e => hs₉.extBut _ _ c1 (hs₈.extBut _ _ c1 (Heap.get?_push_of_some _ e))
  have hT9 : Trip h₉ h₇.objs.size x y z := hs₉.extBut _ _ (Nat.ne_of_gt zlt) (hs₈.extBut _ _ (Nat.ne_of_gt zlt) (Heap.get?_push_size _ rfl))
  rw [hsz] at hz₉ hT9
  refine wpAny_pure ⟨_, rfl, ?_⟩
  show Q (.ref h₇.objs.size) _
  rw [hsz]
  refine hQ h₉ ⟨hz₉, up _ _ n35 (kk _ _ n35 n34 n30 n31 n32 ti), ⟨_, _, _, up _ _ n45 t7⟩, q1.at fun o e => up _ o n05 e, q2.at fun o e => up _ o n15 e, q3.at fun o e => up _ o n25 e,
    a1.at fun o e => up _ o p15 (kk _ o p15 p14 p10 p11 p12 e), a2.at fun o e => up _ o p25 (kk _ o p25 p24 p20 p21 p22 e), a3.at fun o e => up _ o p35 (kk _ o p35 p34 p30 p31 p32 e)⟩ hT9
    fun c o c1 c2 c3 c4 c5 e => up c o c1 (kk c o c1 c2 c3 c4 c5 e)
/-- three lists of one length: the first ends the zip -/
theorem zip3_end {b l1 l2 l3 : Addr} {k : Nat} {xs ys zs : Array Value} {Q : Fin → Shared → Prop} (hh : A.handled = none) (hl1 : l1 < b)
    (Z : Zip3At s.heap b l1 l2 l3 k .none xs ys zs) (hx : xs[k]? = none)
    (hE : ∀ h' e, (∀ c o, c ≠ b + 5 → c ≠ b → s.heap.get? c = some o → h'.get? c = some o) → (∃ o, h'.get? e = some o ∧ o.cls = .type "StopIteration") → E (.ref e) { s with heap := h' }) :
    wpAny (model prog w) A (Builtin.«zip.__next__» ⟨[.ref (b + 5)], []⟩) Q E s := by
  obtain ⟨zz, ti, ⟨u, v, ww, tto⟩, i1, i2, i3, a1, a2, a3⟩ := Z
  show wpAny _ _ (field (.ref (b + 5)) 2 >>= _) _ _ _
  refine wpAny_bind (wpAny_field zz rfl (x := .bool false) rfl ?_)
  show wpAny _ _ (field (.ref (b + 5)) 3 >>= _) _ _ _
  refine wpAny_bind (wpAny_field zz rfl (x := .ref (b + 3)) rfl ?_)
  refine wpAny_bind (wpAny_seqItems ti rfl ?_)
  show wpAny _ _ (Builtin.SmallTypes.ownedTupleIsFree (.ref (b + 5)) >>= _) _ _ _
  refine wpAny_bind ?_
  unfold Builtin.SmallTypes.ownedTupleIsFree
  refine wpAny_bind (wpAny_field zz rfl (x := .none) rfl (wpAny_pure ?_))
  simp only [if_true]
  refine wpAny_bind (wpAny_rule ?_)
  refine wpAny_bind (wpAny_field zz rfl (x := .ref (b + 4)) rfl ?_)
  refine wpAny_bind (wpAny_setField_rec zz (by simp) fun h₁ hz₁ hs₁ => ?_)
  replace hz₁ : IsZip h₁ (b + 5) (b + 3) (b + 4) .ellipsis := hz₁
  have n05 : @Ne Addr b (b + 5) := neA (by omega)
  have p15 : @Ne Addr l1 (b + 5) := neA (Nat.ne_of_lt (Nat.lt_of_lt_of_le hl1 (Nat.le_add_right _ _)))
  refine wpAny_bind ?_
  simp only [List.zipIdx_cons, List.zipIdx_nil, List.forIn_cons, List.forIn_nil]
  refine wpAny_bind (wpAny_bind (wpAny_onRaise ?_))
  show wpAny _ _ (Builtin.SmallTypes.nextOf (.ref b) >>= _) _ _ _
  refine wpAny_bind (wpAny_nextOf_list_end hh (i1.extBut hs₁.extBut n05) (a1.extBut hs₁.extBut p15) hx fun h₂ e hs₂ he => ?_)
  obtain ⟨oe, hoe, hce⟩ := he
  have hz₂ : IsZip h₂ (b + 5) (b + 3) (b + 4) .ellipsis := hs₂ _ _ n05.symm hz₁
  have hez : e ≠ b + 5 := fun x => by subst x; rw [hz₂] at hoe; cases hoe; simp at hce
  refine wpAny_setField_rec hz₂ (by simp) fun h₃ _ hs₃ => hE h₃ e (fun c o c1 c3 x => hs₃.extBut _ _ c1 (hs₂ _ _ c3 (hs₁.extBut _ _ c1 x))) ⟨oe, hs₃.extBut _ _ hez hoe, hce⟩
theorem next_zip3 {b l1 l2 l3 : Addr} {k : Nat} {xs ys zs : Array Value} {x y z : Value} {Q : Option Value → Shared → Prop} (hl1 : l1 < b) (hl2 : l2 < b) (hl3 : l3 < b)
    (Z : Zip3At s.heap b l1 l2 l3 k .none xs ys zs) (hx : xs[k]? = some x) (hy : ys[k]? = some y) (hz : zs[k]? = some z)
    (hQ : ∀ h', Zip3At h' b l1 l2 l3 (k + 1) (rawInt s.heap.objs.size) xs ys zs → Trip h' s.heap.objs.size x y z →
      (∀ c o, c ≠ b + 5 → c ≠ b + 4 → c ≠ b → c ≠ b + 1 → c ≠ b + 2 → s.heap.get? c = some o → h'.get? c = some o) → Q (some (.ref s.heap.objs.size)) { s with heap := h' }) :
    wpAny (model prog w) A (pyNext (.ref (b + 5))) Q E s := by
  have hT : s.TypeIs (.ref (b + 5)) "zip" := ⟨_, Z.z, rfl⟩
  unfold pyNext
  exact wpAny_bind (wpAny_attempt (wpAny_callSpecial?_slot (name := Str.ofString "__next__") hT F.slot_zip_next
    (wpAny_call_entry F.slot_zip_next hT F.entry_zip_next (zip3_item hl1 hl2 hl3 Z hx hy hz fun h' a1 a2 a3 => wpAny_pure (hQ h' a1 a2 a3)) (F.args_zip_next_1 _))))
theorem end_zip3 {b l1 l2 l3 : Addr} {k : Nat} {xs ys zs : Array Value} {Q : Option Value → Shared → Prop} (hh : A.handled = none) (hl1 : l1 < b)
    (Z : Zip3At s.heap b l1 l2 l3 k .none xs ys zs) (hx : xs[k]? = none)
    (hQ : ∀ h', (∀ c o, c ≠ b + 5 → c ≠ b → s.heap.get? c = some o → h'.get? c = some o) → Q none { s with heap := h' }) : wpAny (model prog w) A (pyNext (.ref (b + 5))) Q E s := by
  have hT : s.TypeIs (.ref (b + 5)) "zip" := ⟨_, Z.z, rfl⟩
  unfold pyNext
  refine wpAny_bind (wpAny_attempt (wpAny_callSpecial?_slot (name := Str.ofString "__next__") hT F.slot_zip_next
    (wpAny_call_entry F.slot_zip_next hT F.entry_zip_next (zip3_end hh hl1 Z hx fun h' e hk he => ?_) (F.args_zip_next_1 _))))
  obtain ⟨o, ho, hc⟩ := he
  refine wpAny_bind (wpAny_isInstance (T := "StopIteration") (b := true) ⟨o, ho, hc⟩ isSubtype_stop ?_)
  exact wpAny_pure (hQ _ hk)
end
theorem typeCall_zip_3 (a b c : Value) : checkTypeCall "zip" ⟨[a, b, c], []⟩ = pure () := by kernel_rfl
theorem newCall_zip_3 (a b c : Value) : checkBuiltinCall "zip.__new__" ⟨[.type "zip", a, b, c], []⟩ = pure () := by kernel_rfl
theorem args_object_init_4 (a b c d : Value) : argsOk "object.__init__" ⟨[a, b, c, d], []⟩ := by
  unfold argsOk; rw [signature?_of (id := "object.__init__") (n := ['_', '_', 't', 'i', 'n', 'i', '_', '_']) (o := ['t', 'c', 'e', 'j', 'b', 'o']) (by kernel_rfl) F.owner_object]; kernel_rfl
abbrev z1 (h : Heap) (l1 : Addr) : Heap := h.push { cls := .type "list_iterator", data := .fields #[.ref l1, .int 0 0] }
abbrev z2 (h : Heap) (l1 l2 : Addr) : Heap := (z1 h l1).push { cls := .type "list_iterator", data := .fields #[.ref l2, .int 0 0] }
abbrev z3 (h : Heap) (l1 l2 l3 : Addr) : Heap := (z2 h l1 l2).push { cls := .type "list_iterator", data := .fields #[.ref l3, .int 0 0] }
abbrev z4 (h : Heap) (l1 l2 l3 : Addr) : Heap := (z3 h l1 l2 l3).push { cls := .type "tuple", data := .seq #[.ref h.objs.size, .ref (z1 h l1).objs.size, .ref (z2 h l1 l2).objs.size] }
abbrev z5 (h : Heap) (l1 l2 l3 : Addr) : Heap := (z4 h l1 l2 l3).push { cls := .type "tuple", data := .seq #[.none, .none, .none] }
abbrev z6 (h : Heap) (l1 l2 l3 : Addr) : Heap := (z5 h l1 l2 l3).push { cls := .type "zip", data := .fields #[.none, .bool false, .bool false, .ref (z3 h l1 l2 l3).objs.size, .ref (z4 h l1 l2 l3).objs.size] }
set_option maxHeartbeats 4000000 in
theorem meets_zip3 (l1 l2 l3 : Addr) (xs ys zs : Array Value) :
    Meets (Builtin.«zip.__new__» ⟨[.type "zip", .ref l1, .ref l2, .ref l3], []⟩) (fun _ R s => s.heap.IsList l1 xs ∧ s.heap.IsList l2 ys ∧ s.heap.IsList l3 zs ∧
      R (.ok (.ret (.ref (z5 s.heap l1 l2 l3).objs.size))) { s with heap := z6 s.heap l1 l2 l3 }) :=
  .of_wp fun prog w A R s h => by
    obtain ⟨hp, g, d, tk, os⟩ := s; obtain ⟨hl1, hl2, hl3, h⟩ := h
    have hsub := sub_zip
    have hL1 : Heap.IsList (Shared.heap ⟨hp, g, d, tk, os⟩) l1 xs := hl1
    have hL2 : Heap.IsList (Shared.heap ⟨hp.push { cls := .type "list_iterator", data := .fields #[.ref l1, .int 0 0] }, g, d, tk, os⟩) l2 ys := Heap.IsList.push hl2 _
    have hL3 : Heap.IsList (Shared.heap ⟨(hp.push { cls := .type "list_iterator", data := .fields #[.ref l1, .int 0 0] }).push { cls := .type "list_iterator", data := .fields #[.ref l2, .int 0 0] }, g, d, tk, os⟩) l3 zs := Heap.IsList.push (Heap.IsList.push hl3 _) _
    wp_walk using wpAny_pyIter_list hL1, wpAny_pyIter_list hL2, wpAny_pyIter_list hL3
    exact ⟨_, rfl, h⟩
section
variable {prog : Program} {w : World} {A : Around} {E : Value → Shared → Prop} {s : Shared}
theorem call_zip_3 {l1 l2 l3 : Addr} {xs ys zs : Array Value} {Q : Value → Shared → Prop} (hl1 : s.heap.IsList l1 xs) (hl2 : s.heap.IsList l2 ys) (hl3 : s.heap.IsList l3 zs)
    (h : ∀ h', Zip3At h' s.heap.objs.size l1 l2 l3 0 .none xs ys zs → h'.objs.size = s.heap.objs.size + 6 →
      (∀ c o, s.heap.get? c = some o → h'.get? c = some o) → Q (.ref (s.heap.objs.size + 5)) { s with heap := h' }) :
    wpAny (model prog w) A (call (.type "zip") [.ref l1, .ref l2, .ref l3]) Q E s := by
  refine callType_new F.called_zip (by decide) (typeCall_zip_3 _ _ _) (newCall_zip_3 _ _ _) (fun obj => args_object_init_4 obj _ _ _) F.entry_zip_new
    (meets_zip3 l1 l2 l3 xs ys zs) ⟨hl1, hl2, hl3, ?_⟩
  have e1 : (z1 s.heap l1).objs.size = s.heap.objs.size + 1 := Heap.size_push ..
  have e2 : (z2 s.heap l1 l2).objs.size = s.heap.objs.size + 2 := by rw [Heap.size_push, e1]
  have e3 : (z3 s.heap l1 l2 l3).objs.size = s.heap.objs.size + 3 := by rw [Heap.size_push, e2]
  have e4 : (z4 s.heap l1 l2 l3).objs.size = s.heap.objs.size + 4 := by rw [Heap.size_push, e3]
  have e5 : (z5 s.heap l1 l2 l3).objs.size = s.heap.objs.size + 5 := by rw [Heap.size_push, e4]
  have e6 : (z6 s.heap l1 l2 l3).objs.size = s.heap.objs.size + 6 := by rw [Heap.size_push, e5]
  have kk : ∀ c o, s.heap.get? c = some o → (z6 s.heap l1 l2 l3).get? c = some o := fun c o x => Heap.get?_push_of_some _ (Heap.get?_push_of_some _ (Heap.get?_push_of_some _ (Heap.get?_push_of_some _ (Heap.get?_push_of_some _ (Heap.get?_push_of_some _ x)))))
  have g6 : (z6 s.heap l1 l2 l3).get? (z5 s.heap l1 l2 l3).objs.size = some _ := Heap.get?_push_size _ rfl
  have g5 : (z6 s.heap l1 l2 l3).get? (z4 s.heap l1 l2 l3).objs.size = some _ := Heap.get?_push_of_some _ (Heap.get?_push_size _ rfl)
  have g4 : (z6 s.heap l1 l2 l3).get? (z3 s.heap l1 l2 l3).objs.size = some _ := Heap.get?_push_of_some _ (Heap.get?_push_of_some _ (Heap.get?_push_size _ rfl))
  have g3 : (z6 s.heap l1 l2 l3).get? (z2 s.heap l1 l2).objs.size = some _ := Heap.get?_push_of_some _ (Heap.get?_push_of_some _ (Heap.get?_push_of_some _ (Heap.get?_push_size _ rfl)))
  have g2 : (z6 s.heap l1 l2 l3).get? (z1 s.heap l1).objs.size = some _ := Heap.get?_push_of_some _ (Heap.get?_push_of_some _ (Heap.get?_push_of_some _ (Heap.get?_push_of_some _ (Heap.get?_push_size _ rfl))))
  have g1 : (z6 s.heap l1 l2 l3).get? s.heap.objs.size = some _ := Heap.get?_push_of_some _ (Heap.get?_push_of_some _ (Heap.get?_push_of_some _ (Heap.get?_push_of_some _ (Heap.get?_push_of_some _ (Heap.get?_push_size _ rfl)))))
  show _ ∧ _
  rw [e3, e4, e5] at g6
  rw [e1, e2, e3] at g4
  rw [e4] at g5
  rw [e2] at g3
  rw [e1] at g2
  rw [e5]
  exact ⟨⟨_, g6, rfl⟩, h _ ⟨g6, g4, ⟨_, _, _, g5⟩, ⟨_, g1, rfl, rfl⟩, ⟨_, g2, rfl, rfl⟩, ⟨_, g3, rfl, rfl⟩, hl1.at fun o e => kk _ o e, hl2.at fun o e => kk _ o e, hl3.at fun o e => kk _ o e⟩ e6 kk⟩
end
end Mine
end
/-! part Z4 -/
section
open PySem PySem.W PyProof.Rows PySem.Calls PySem.Spec
set_option Elab.async false
set_option maxRecDepth 100000
namespace Mine
theorem kw60 : True := by
  w_top off
  k_with_none
  k_with "mine ne" => first | (with_reducible first | assumption | (refine Ne.symm ?_; assumption)) | (with_reducible ((repeat (first | (rename ((_ ≠ _ ∧ _) ∧ _) => hZk; obtain ⟨_, _⟩ := hZk) | (rename (_ ≠ _ ∧ _) => hZk; obtain ⟨_, _⟩ := hZk))); first | assumption | (refine Ne.symm ?_; assumption))) | ((repeat (refine Mine.aS ?_)); (first | refine Nat.ne_of_lt ?_ | refine Nat.ne_of_gt ?_); (repeat (first | exact Mine.lA _ | refine Mine.lB ?_)); done) | (with_reducible ((repeat (rename (@LT.lt _ _ _ _ ∧ _) => hZk; obtain ⟨_, _⟩ := hZk)); first | (refine Nat.ne_of_lt ?_; assumption) | (refine Nat.ne_of_gt ?_; assumption)))
  trivial
open LCg
section
variable {prog : Program} {w : World} {A : Around} {E : Value → Shared → Prop} {s : Shared}
theorem Zip3At.keeps {h h' : Heap} {b l1 l2 l3 : Addr} {k : Nat} {f0 : Value} {xs ys zs : Array Value} (Z : Zip3At h b l1 l2 l3 k f0 xs ys zs)
    (hk : ∀ c ∈ [b + 5, b + 3, b + 4, b, b + 1, b + 2, l1, l2, l3], ∀ o, h.get? c = some o → h'.get? c = some o) : Zip3At h' b l1 l2 l3 k f0 xs ys zs where
  z := hk _ (by simp) _ Z.z
  ti := hk _ (by simp) _ Z.ti
  tto := let ⟨u, v, w, e⟩ := Z.tto; ⟨u, v, w, hk _ (by simp) _ e⟩
  i1 := Z.i1.at fun o e => hk _ (by simp) o e
  i2 := Z.i2.at fun o e => hk _ (by simp) o e
  i3 := Z.i3.at fun o e => hk _ (by simp) o e
  a1 := Z.a1.at fun o e => hk _ (by simp) o e
  a2 := Z.a2.at fun o e => hk _ (by simp) o e
  a3 := Z.a3.at fun o e => hk _ (by simp) o e
theorem walks_zip3 (hh : A.handled = none) {b l1 l2 l3 : Addr} (hl1 : l1 < b) (hl2 : l2 < b) (hl3 : l3 < b) {xs ys zs : Array Value} {n : Nat} (n1 : xs.size = n) (n2 : ys.size = n) (n3 : zs.size = n) :
    WalksU prog w A (b + 5) [b + 5, b + 3, b + 4, b, b + 1, b + 2, l1, l2, l3] [b + 5, b + 4, b, b + 1, b + 2] n
      (fun i vals => ∃ x y z, xs[i]? = some x ∧ ys[i]? = some y ∧ zs[i]? = some z ∧ vals = #[x, y, z])
      (fun i h => Zip3At h b l1 l2 l3 i .none xs ys zs)
      (fun i T h => Zip3At h b l1 l2 l3 (i + 1) (rawInt T) xs ys zs ∧ T ∉ [b + 5, b + 4, b, b + 1, b + 2]) where
  sub := fun c hc => by simp at hc ⊢; rcases hc with rfl | rfl | rfl | rfl | rfl <;> simp
  frame := fun i h h' hst hk => hst.keeps hk
  item := fun i s Q E hi hst hQ => by
    have e1 : xs[i]? = some xs[i] := Array.getElem?_eq_getElem (by omega)
    have e2 : ys[i]? = some ys[i] := Array.getElem?_eq_getElem (by omega)
    have e3 : zs[i]? = some zs[i] := Array.getElem?_eq_getElem (by omega)
    refine next_zip3 hl1 hl2 hl3 hst e1 e2 e3 fun h' a1 a2 hk => ?_
    refine hQ s.heap.objs.size #[xs[i], ys[i], zs[i]] h' s.toks ⟨_, _, _, e1, e2, e3, rfl⟩ ⟨_, a2, rfl, _, rfl⟩ ⟨a1, fun hm => ?_⟩ fun c o hc e => ?_
    · have g1 : b + 5 < s.heap.objs.size := Heap.lt_size hst.z
      have hm' : s.heap.objs.size = b + 5 ∨ s.heap.objs.size = b + 4 ∨ s.heap.objs.size = b ∨ s.heap.objs.size = b + 1 ∨ s.heap.objs.size = b + 2 := by simpa using hm
      have g1' : @LT.lt Nat _ (b + 5) s.heap.objs.size := g1
      generalize s.heap.objs.size = z at *
      rcases hm' with e | e | e | e | e <;> (have e' : @Eq Nat z _ := e; omega)
    · exact hk c o (fun x => hc (by simp [x])) (fun x => hc (by simp [x])) (fun x => hc (by simp [x])) (fun x => hc (by simp [x])) (fun x => hc (by simp [x])) e
  go := fun elts k pos i T s Q E hm hQ => by
    obtain ⟨Z, hT⟩ := hm
    refine wpAny_letOwnedTupleGo_zip Z.z fun h' hz' hs' => hQ h' ?_ fun c o hc e => hs'.extBut _ _ (fun x => hc (by simp [x])) e
    have n45 : @Ne Addr (b + 4) (b + 5) := neA (by omega)
    have n05 : @Ne Addr b (b + 5) := neA (by omega)
    have n15 : @Ne Addr (b + 1) (b + 5) := neA (by omega)
    have n25 : @Ne Addr (b + 2) (b + 5) := neA (by omega)
    have n35 : @Ne Addr (b + 3) (b + 5) := neA (by omega)
    have ll : ∀ l : Nat, l < b → @Ne Addr l (b + 5) := fun l hl => neA (by omega)
    exact ⟨hz', hs'.extBut _ _ n35 Z.ti, let ⟨u, v, w, e⟩ := Z.tto; ⟨u, v, w, hs'.extBut _ _ n45 e⟩, Z.i1.extBut hs'.extBut n05, Z.i2.extBut hs'.extBut n15, Z.i3.extBut hs'.extBut n25, Z.a1.extBut hs'.extBut (ll _ hl1), Z.a2.extBut hs'.extBut (ll _ hl2), Z.a3.extBut hs'.extBut (ll _ hl3)⟩
  apart := fun i T h hm hT => hm.2 hT
  done := fun s Q E hst hQ => end_zip3 hh hl1 hst (Array.getElem?_eq_none (by omega)) fun h' hk => hQ h' s.toks fun c o hc e => hk c o (fun x => hc (by simp [x])) (fun x => hc (by simp [x])) e
  self := fun i s Q E hst hQ => wpAny_pyIter_zip hst.z hQ

variable {h₀ : Heap} {L : Addr} {m : Str → Option Value} {env : Env} {scope : Scope} {cl : List (Str × Addr)}
variable {elt : Expr} {news : List (Addr × Obj)} {FF : Shared → List Value → List (Addr × Obj) → Prop}
/-- zip of three made lists as a comprehension's source -/
theorem zip3_src {l1 l2 l3 : Addr} {o1 o2 o3 : Obj} {v1 v2 v3 : List Value} {n1 n2 n3 n : Nat} {x₁ x₂ x₃ : Str} {p₁ p₂ p₃ tp : Pos} {k : Nat} (J : Nat → List Value → List (Addr × Obj) → Prop) (hh : A.handled = none) (F : Fr h₀ L s.heap m) (N : News h₀ L s.heap news)
    (m1 : (l1, o1) ∈ news) (c1 : o1.cls = .type "list") (d1 : o1.data = .seq v1.toArray n1) (m2 : (l2, o2) ∈ news) (c2 : o2.cls = .type "list") (d2 : o2.data = .seq v2.toArray n2) (m3 : (l3, o3) ∈ news) (c3 : o3.cls = .type "list") (d3 : o3.data = .seq v3.toArray n3)
    (e1 : v1.length = n) (e2 : v2.length = n) (e3 : v3.length = n) (hsz : n ≤ sizeLine) (hkind : scope.kind = .function)
    (h1 : scope.names.lookup x₁ = some .local) (h2 : scope.names.lookup x₂ = some .local) (h3 : scope.names.lookup x₃ = some .local) (h12 : x₁ ≠ x₂) (h13 : x₁ ≠ x₃) (h23 : x₂ ≠ x₃) (h0 : J 0 [] news)
    (step : KStep prog w A h₀ L m env elt scope cl s n (fun i m₂ => ∃ x y z, v1[i]? = some x ∧ v2[i]? = some y ∧ v3[i]? = some z ∧ m₂ x₁ = some x ∧ m₂ x₂ = some y ∧ m₂ x₃ = some z) J)
    (fin : ∀ h' ys news', J n ys news' → FF { s with heap := h' } ys news') :
    wpAny (model prog w) A (call (.type "zip") [.ref l1, .ref l2, .ref l3]) (fun xv s₁ => wpAny (model prog w) A (pyIter xv) (KSrc prog w A h₀ L m env elt [.Name x₁ p₁, .Name x₂ p₂, .Name x₃ p₃] k tp scope cl FF) E s₁) E s := by
  have b1 := N _ m1
  have b2 := N _ m2
  have b3 := N _ m3
  have q1 : s.heap.IsList l1 v1.toArray := ⟨o1, b1.1, c1, n1, d1⟩
  have q2 : s.heap.IsList l2 v2.toArray := ⟨o2, b2.1, c2, n2, d2⟩
  have q3 : s.heap.IsList l3 v3.toArray := ⟨o3, b3.1, c3, n3, d3⟩
  have t1 : l1 < s.heap.objs.size := Heap.lt_size b1.1
  have t2 : l2 < s.heap.objs.size := Heap.lt_size b2.1
  have t3 : l3 < s.heap.objs.size := Heap.lt_size b3.1
  have hLs : L < s.heap.objs.size := F.ns.lt
  refine call_zip_3 q1 q2 q3 fun h' Z hsz' hk => ?_
  refine wpAny_pyIter_zip Z.z ?_
  have wr0 : ∀ b ∈ [s.heap.objs.size + 5, s.heap.objs.size + 4, s.heap.objs.size, s.heap.objs.size + 1, s.heap.objs.size + 2], s.heap.objs.size ≤ b := fun b hb => by
    have hb' : b = s.heap.objs.size + 5 ∨ b = s.heap.objs.size + 4 ∨ b = s.heap.objs.size ∨ b = s.heap.objs.size + 1 ∨ b = s.heap.objs.size + 2 := by simpa using hb
    rcases hb' with rfl | rfl | rfl | rfl | rfl
    · exact Nat.le_add_right _ _
    · exact Nat.le_add_right _ _
    · exact Nat.le_refl _
    · exact Nat.le_add_right _ _
    · exact Nat.le_add_right _ _
  refine ⟨_, _, _, n, _, _, _, _, J, news, rfl, walks_zip3 hh t1 t2 t3 (by simpa using e1) (by simpa using e2) (by simpa using e3), hsz, ?_, Z, ?_, F.keeps hk, N.grown hk, ?_, ?_, ?_, h0, ?_, step, fin h'⟩
  · rintro i h Z b hb
    have hb' : b = s.heap.objs.size + 5 ∨ b = s.heap.objs.size + 4 ∨ b = s.heap.objs.size ∨ b = s.heap.objs.size + 1 ∨ b = s.heap.objs.size + 2 := by simpa using hb
    rcases hb' with rfl | rfl | rfl | rfl | rfl
    · exact ⟨_, Z.z⟩
    · obtain ⟨_, _, _, e⟩ := Z.tto; exact ⟨_, e⟩
    · obtain ⟨o, e, _⟩ := Z.i1; exact ⟨o, e⟩
    · obtain ⟨o, e, _⟩ := Z.i2; exact ⟨o, e⟩
    · obtain ⟨o, e, _⟩ := Z.i3; exact ⟨o, e⟩
  · intro b hb
    show b < h'.objs.size
    rw [hsz']
    have hb' : b = s.heap.objs.size + 5 ∨ b = s.heap.objs.size + 3 ∨ b = s.heap.objs.size + 4 ∨ b = s.heap.objs.size ∨ b = s.heap.objs.size + 1 ∨ b = s.heap.objs.size + 2 ∨ b = l1 ∨ b = l2 ∨ b = l3 := by simpa using hb
    have lt : ∀ l : Nat, l < s.heap.objs.size → l < s.heap.objs.size + 6 := fun l hl => by omega
    have le : ∀ j : Nat, j < 6 → s.heap.objs.size + j < s.heap.objs.size + 6 := fun j hj => by omega
    rcases hb' with rfl | rfl | rfl | rfl | rfl | rfl | rfl | rfl | rfl
    · exact le 5 (by decide)
    · exact le 3 (by decide)
    · exact le 4 (by decide)
    · exact le 0 (by decide)
    · exact le 1 (by decide)
    · exact le 2 (by decide)
    · exact lt _ t1
    · exact lt _ t2
    · exact lt _ t3
  · intro hI'
    have hb' : L = s.heap.objs.size + 5 ∨ L = s.heap.objs.size + 3 ∨ L = s.heap.objs.size + 4 ∨ L = s.heap.objs.size ∨ L = s.heap.objs.size + 1 ∨ L = s.heap.objs.size + 2 ∨ L = l1 ∨ L = l2 ∨ L = l3 := by simpa using hI'
    have ge : ∀ j : Nat, L ≠ s.heap.objs.size + j := fun j e => absurd (show s.heap.objs.size + j < s.heap.objs.size from e ▸ hLs) (Nat.not_lt.mpr (Nat.le_add_right _ _))
    rcases hb' with e | e | e | e | e | e | e | e | e
    · exact ge 5 e
    · exact ge 3 e
    · exact ge 4 e
    · exact ge 0 e
    · exact ge 1 e
    · exact ge 2 e
    · exact b1.2.1 e.symm
    · exact b2.2.1 e.symm
    · exact b3.2.1 e.symm
  · exact fun b hb => ktu_new F (wr0 b hb)
  · exact fun p hp hI' => absurd (Heap.lt_size (N p hp).1) (Nat.not_lt.mpr (wr0 _ hI'))
  · rintro i T vals C s' Q' E' m' ⟨x, y, z, hx, hy, hz, rfl⟩ hT hn hQ
    exact asg3 hh hkind h1 h2 h3 h12 h13 h23 hT hn fun h' tk m'' a b c c' d => hQ h' tk m'' a ⟨x, y, z, by simpa using hx, by simpa using hy, by simpa using hz, b, c, c'⟩ d
end
end Mine
end
/-! part L0 -/
section
open PySem PySem.W PyProof.Rows PySem.Calls
set_option Elab.async false
set_option maxRecDepth 100000
set_option linter.unusedSimpArgs false
namespace Mine
theorem kw61 : True := by
  w_top off
  k_with_none
  k_with "mine ne" => first | (with_reducible first | assumption | (refine Ne.symm ?_; assumption)) | (with_reducible ((repeat (first | (rename ((_ ≠ _ ∧ _) ∧ _) => hZk; obtain ⟨_, _⟩ := hZk) | (rename (_ ≠ _ ∧ _) => hZk; obtain ⟨_, _⟩ := hZk))); first | assumption | (refine Ne.symm ?_; assumption))) | ((repeat (refine Mine.aS ?_)); (first | refine Nat.ne_of_lt ?_ | refine Nat.ne_of_gt ?_); (repeat (first | exact Mine.lA _ | refine Mine.lB ?_)); done) | (with_reducible ((repeat (rename (@LT.lt _ _ _ _ ∧ _) => hZk; obtain ⟨_, _⟩ := hZk)); first | (refine Nat.ne_of_lt ?_; assumption) | (refine Nat.ne_of_gt ?_; assumption)))
  trivial
/-! the law's parts, read off the written heap -/
noncomputable def lawScope (P : Params) : Scope := by
  refine Subtype.val (p := fun S => (fdAt (hd.heap_39 P) 170).scope = S) ⟨?d, ?h⟩
  case h =>
    conv => lhs; whnf
noncomputable def lawS4 (P : Params) : Stmt := by
  refine Subtype.val (p := fun S => (bodyOf (fdAt (hd.heap_39 P) 170)).getD 4 default = S) ⟨?d, ?h⟩
  case h =>
    conv => lhs; whnf
noncomputable def lawS5 (P : Params) : Stmt := by
  refine Subtype.val (p := fun S => (bodyOf (fdAt (hd.heap_39 P) 170)).getD 5 default = S) ⟨?d, ?h⟩
  case h =>
    conv => lhs; whnf
noncomputable def lawS6 (P : Params) : Stmt := by
  refine Subtype.val (p := fun S => (bodyOf (fdAt (hd.heap_39 P) 170)).getD 6 default = S) ⟨?d, ?h⟩
  case h =>
    conv => lhs; whnf
noncomputable def lawS7 (P : Params) : Stmt := by
  refine Subtype.val (p := fun S => (bodyOf (fdAt (hd.heap_39 P) 170)).getD 7 default = S) ⟨?d, ?h⟩
  case h =>
    conv => lhs; whnf
noncomputable def lawS8 (P : Params) : Stmt := by
  refine Subtype.val (p := fun S => (bodyOf (fdAt (hd.heap_39 P) 170)).getD 8 default = S) ⟨?d, ?h⟩
  case h =>
    conv => lhs; whnf
noncomputable def lawS9 (P : Params) : Stmt := by
  refine Subtype.val (p := fun S => (bodyOf (fdAt (hd.heap_39 P) 170)).getD 9 default = S) ⟨?d, ?h⟩
  case h =>
    conv => lhs; whnf
noncomputable def lawS10 (P : Params) : Stmt := by
  refine Subtype.val (p := fun S => (bodyOf (fdAt (hd.heap_39 P) 170)).getD 10 default = S) ⟨?d, ?h⟩
  case h =>
    conv => lhs; whnf
noncomputable def lawS11 (P : Params) : Stmt := by
  refine Subtype.val (p := fun S => (bodyOf (fdAt (hd.heap_39 P) 170)).getD 11 default = S) ⟨?d, ?h⟩
  case h =>
    conv => lhs; whnf
/-! the colours of a number -/
def c0 (x : Int) : Int := x % 3 + (1 + x / 27 % 4)
def c1 (x : Int) : Int := x / 3 % 3 + (1 + x / 27 % 4)
def c2 (x : Int) : Int := x / 9 % 3 + (1 + x / 27 % 4)
/-- its whole number, to the base 2 ^ n; the divisor -/
def whl (n x : Int) : Int := (c2 x * 2 ^ n.toNat + c1 x) * 2 ^ n.toNat + c0 x
def dvs (n : Int) : Int := (1 * 2 ^ n.toNat + 1) * 2 ^ n.toNat + 1
theorem tnM (y : Int) (k : Nat) (h : 0 < k) : ((y % (k : Int)).toNat : Int) = y % (k : Int) ∧ (y % (k : Int)).toNat < k := by
  have a := Int.emod_nonneg y (b := (k : Int)) (by omega)
  have b := Int.emod_lt_of_pos y (b := (k : Int)) (by omega)
  exact ⟨Int.toNat_of_nonneg a, by omega⟩
theorem tnC (a b : Nat) (u v : Int) (h : (a : Int) = u) (k : (b : Int) = v) : u + (1 + v) = Int.ofNat (a + b + 1) := by
  subst h k
  simp only [Int.ofNat_eq_natCast]
  omega
theorem col (x : Int) : Col (c0 x) (c1 x) (c2 x) :=
  ⟨(x / 27 % 4).toNat, (x % 3).toNat, (x / 3 % 3).toNat, (x / 9 % 3).toNat, (tnM _ 4 (by decide)).2, (tnM _ 3 (by decide)).2, (tnM _ 3 (by decide)).2, (tnM _ 3 (by decide)).2,
    tnC _ _ _ _ (tnM _ 3 (by decide)).1 (tnM _ 4 (by decide)).1, tnC _ _ _ _ (tnM _ 3 (by decide)).1 (tnM _ 4 (by decide)).1, tnC _ _ _ _ (tnM _ 3 (by decide)).1 (tnM _ 4 (by decide)).1⟩
theorem c_le (x : Int) : (1 ≤ c0 x ∧ c0 x ≤ 6) ∧ (1 ≤ c1 x ∧ c1 x ≤ 6) ∧ (1 ≤ c2 x ∧ c2 x ≤ 6) := ⟨(col x).le.1, (col x).le.2.1, (col x).le.2.2.1⟩
end Mine
end
/-! part P6 -/
section
open PySem PySem.W PyProof.Rows PySem.Calls
set_option Elab.async false
set_option maxRecDepth 100000
namespace Mine
theorem kw62 : True := by
  w_top off
  k_with_none
  k_with "mine ne" => first | (with_reducible first | assumption | (refine Ne.symm ?_; assumption)) | (with_reducible ((repeat (first | (rename ((_ ≠ _ ∧ _) ∧ _) => hZk; obtain ⟨_, _⟩ := hZk) | (rename (_ ≠ _ ∧ _) => hZk; obtain ⟨_, _⟩ := hZk))); first | assumption | (refine Ne.symm ?_; assumption))) | ((repeat (refine Mine.aS ?_)); (first | refine Nat.ne_of_lt ?_ | refine Nat.ne_of_gt ?_); (repeat (first | exact Mine.lA _ | refine Mine.lB ?_)); done) | (with_reducible ((repeat (rename (@LT.lt _ _ _ _ ∧ _) => hZk; obtain ⟨_, _⟩ := hZk)); first | (refine Nat.ne_of_lt ?_; assumption) | (refine Nat.ne_of_gt ?_; assumption)))
  trivial
/-! a number's figures by the divisor -/
/-- what is left of a number beside so many divisors as its third figure says -/
def eps (n x : Int) : Int := (c1 x - c2 x) * 2 ^ n.toNat + (c0 x - c2 x)
theorem dvs_eq (n : Int) : dvs n = 2 ^ n.toNat * 2 ^ n.toNat + 2 ^ n.toNat + 1 := by
  unfold dvs
  rw [Int.one_mul, Int.add_mul, Int.one_mul]
theorem whl_eq (n x : Int) : whl n x = c2 x * dvs n + eps n x := by
  rw [dvs_eq]
  unfold whl eps
  rw [Int.add_mul, Int.mul_assoc, Int.mul_add, Int.mul_add, Int.mul_one, Int.sub_mul]
  omega
theorem bb {n : Int} (h6 : 6 ≤ n) : 64 ≤ (2 : Int) ^ n.toNat := by
  have e : 6 ≤ n.toNat := by omega
  have := Nat.pow_le_pow_right (n := 2) (by decide) e
  have e2 : ((2 ^ n.toNat : Nat) : Int) = (2 : Int) ^ n.toNat := by simp
  have e3 : (2 : Nat) ^ 6 = 64 := by decide
  omega
theorem dvs_big {n : Int} (h6 : 6 ≤ n) : 64 * 2 ^ n.toNat + 2 ^ n.toNat + 1 ≤ dvs n ∧ 64 ≤ (2 : Int) ^ n.toNat := by
  have h := bb h6
  have h2 : 64 * (2 : Int) ^ n.toNat ≤ 2 ^ n.toNat * 2 ^ n.toNat := Int.mul_le_mul_of_nonneg_right h (by omega)
  rw [dvs_eq]
  exact ⟨by omega, h⟩
theorem mulB {d B : Int} (hd : -4 ≤ d ∧ d ≤ 4) (hB : 0 ≤ B) : d * B ≤ 4 * B ∧ -(4 * B) ≤ d * B := by
  obtain ⟨h1, h2⟩ := hd
  exact ⟨Int.mul_le_mul_of_nonneg_right h2 hB, Int.neg_mul 4 B ▸ Int.mul_le_mul_of_nonneg_right h1 hB⟩
theorem epsL {B d r D : Int} (hB : 64 ≤ B) (hD : 64 * B + B + 1 ≤ D) (hd : -4 ≤ d ∧ d ≤ 4) (hr : -4 ≤ r ∧ r ≤ 4) : -D < d * B + r ∧ d * B + r < D ∧ (d * B + r = 0 → d = 0 ∧ r = 0) := by
  obtain ⟨k1, k2⟩ := mulB hd (by omega : 0 ≤ B)
  refine ⟨by omega, by omega, fun h => ?_⟩
  have hz : d = 0 := by
    rcases Int.lt_trichotomy d 0 with q | q | q
    · have := Int.mul_le_mul_of_nonneg_right (show d ≤ -1 by omega) (by omega : 0 ≤ B)
      omega
    · exact q
    · have := Int.mul_le_mul_of_nonneg_right (show 1 ≤ d by omega) (by omega : 0 ≤ B)
      omega
  subst hz
  exact ⟨rfl, by omega⟩
theorem eps_lt {n : Int} (h6 : 6 ≤ n) (x : Int) : -dvs n < eps n x ∧ eps n x < dvs n := by
  obtain ⟨h1, h2⟩ := dvs_big h6
  obtain ⟨_, _, _, e1, e2, e3, e4, _⟩ := (col x).le
  have := epsL h2 h1 (d := c1 x - c2 x) (r := c0 x - c2 x) ⟨by omega, by omega⟩ ⟨by omega, by omega⟩
  exact ⟨this.1, this.2.1⟩
theorem asac (a b c d : Int) : a + b - (c + d) = a - c + (b - d) := by omega
theorem eps_sub {n : Int} (h6 : 6 ≤ n) (x y : Int) : -dvs n < eps n y - eps n x ∧ eps n y - eps n x < dvs n ∧ (eps n y = eps n x ↔ (c0 x - c2 x = c0 y - c2 y ∧ c1 x - c2 x = c1 y - c2 y)) := by
  obtain ⟨h1, h2⟩ := dvs_big h6
  obtain ⟨_, _, _, e1, e2, e3, e4, _⟩ := (col x).le
  obtain ⟨_, _, _, g1, g2, g3, g4, _⟩ := (col y).le
  have e : eps n y - eps n x = ((c1 y - c2 y) - (c1 x - c2 x)) * 2 ^ n.toNat + ((c0 y - c2 y) - (c0 x - c2 x)) := by
    unfold eps
    rw [Int.sub_mul (c1 y - c2 y)]
    exact asac _ _ _ _
  obtain ⟨k1, k2, k3⟩ := epsL h2 h1 (d := (c1 y - c2 y) - (c1 x - c2 x)) (r := (c0 y - c2 y) - (c0 x - c2 x)) ⟨by omega, by omega⟩ ⟨by omega, by omega⟩
  rw [← e] at k1 k2 k3
  refine ⟨k1, k2, fun h => ?_, fun h => by unfold eps; rw [h.1, h.2]⟩
  obtain ⟨q1, q2⟩ := k3 (by rw [h, Int.sub_self])
  exact ⟨(Int.sub_eq_zero.mp q2).symm, (Int.sub_eq_zero.mp q1).symm⟩
/-- the quotient and the rest -/
theorem quo {D c e : Int} (hD : 0 < D) (h1 : -D < e) (h2 : e < D) : (c * D + e) / D = (if 0 ≤ e then c else c - 1) ∧ (c * D + e) % D = (if 0 ≤ e then e else e + D) := by
  by_cases h : 0 ≤ e
  · rw [if_pos h, if_pos h, Int.add_comm, Int.add_mul_ediv_right _ _ (by omega), Int.add_mul_emod_self_right, Int.ediv_eq_zero_of_lt h h2, Int.emod_eq_of_lt h h2, Int.zero_add]
    exact ⟨rfl, rfl⟩
  · have e1 : c * D + e = (e + D) + (c - 1) * D := by rw [Int.sub_mul, Int.one_mul]; omega
    rw [if_neg h, if_neg h, e1, Int.add_mul_ediv_right _ _ (by omega), Int.add_mul_emod_self_right, Int.ediv_eq_zero_of_lt (by omega) (by omega), Int.emod_eq_of_lt (by omega) (by omega), Int.zero_add]
    exact ⟨rfl, rfl⟩
theorem dvs_pos {n : Int} (h6 : 6 ≤ n) : 0 < dvs n := by
  obtain ⟨h1, h2⟩ := dvs_big h6
  omega
def quoN (n x : Int) : Int := whl n x / dvs n
def rstN (n x : Int) : Int := whl n x % dvs n
theorem quoN_eq {n : Int} (h6 : 6 ≤ n) (x : Int) : quoN n x = (if 0 ≤ eps n x then c2 x else c2 x - 1) ∧ rstN n x = (if 0 ≤ eps n x then eps n x else eps n x + dvs n) := by
  unfold quoN rstN
  rw [whl_eq]
  exact quo (dvs_pos h6) (eps_lt h6 x).1 (eps_lt h6 x).2
theorem quoN_le {n : Int} (h6 : 6 ≤ n) (x : Int) : 0 ≤ quoN n x ∧ quoN n x ≤ 6 := by
  obtain ⟨k0, k1, k2⟩ := c_le x
  rw [(quoN_eq h6 x).1]
  split <;> omega
abbrev Alike (x y : Int) : Prop := c0 x - c2 x = c0 y - c2 y ∧ c1 x - c2 x = c1 y - c2 y
theorem rst_iff {n : Int} (h6 : 6 ≤ n) (x y : Int) : rstN n x = rstN n y ↔ Alike x y := by
  obtain ⟨s1, s2, s3⟩ := eps_sub h6 x y
  obtain ⟨a1, a2⟩ := eps_lt h6 x
  obtain ⟨b1, b2⟩ := eps_lt h6 y
  rw [(quoN_eq h6 x).2, (quoN_eq h6 y).2]
  constructor
  · intro h
    refine s3.mp ?_
    split at h <;> split at h <;> omega
  · intro h
    have := s3.mpr h
    rw [this]
/-- alike: the quotients part as the third figures do -/
theorem quo_alike {n : Int} (h6 : 6 ≤ n) {x y : Int} (h : Alike x y) : quoN n y - quoN n x = c2 y - c2 x := by
  obtain ⟨s1, s2, s3⟩ := eps_sub h6 x y
  have e := s3.mpr h
  rw [(quoN_eq h6 x).1, (quoN_eq h6 y).1, e]
  split <;> omega
/-- the difference by the divisor -/
theorem dif_eq {n : Int} (h6 : 6 ≤ n) (x y : Int) : ((whl n y - whl n x) % dvs n = 0 ↔ Alike x y) ∧ (Alike x y → (whl n y - whl n x) / dvs n = quoN n y - quoN n x) := by
  obtain ⟨s1, s2, s3⟩ := eps_sub h6 x y
  have e : whl n y - whl n x = (c2 y - c2 x) * dvs n + (eps n y - eps n x) := by
    rw [whl_eq, whl_eq n x, Int.sub_mul]; omega
  obtain ⟨q1, q2⟩ := quo (c := c2 y - c2 x) (dvs_pos h6) s1 s2
  rw [e, q1, q2]
  constructor
  · constructor
    · intro h
      refine s3.mp ?_
      split at h <;> omega
    · intro h
      have := s3.mpr h
      rw [this, Int.sub_self, if_pos (by decide)]
  · intro h
    have := s3.mpr h
    rw [this, Int.sub_self, if_pos (by decide), quo_alike h6 h]
/-! the sizes -/
theorem whl_le {n : Int} (h6 : 6 ≤ n) (x : Int) : 0 < whl n x ∧ whl n x ≤ 7 * dvs n := by
  obtain ⟨k0, k1, k2⟩ := c_le x
  obtain ⟨a1, a2⟩ := eps_lt h6 x
  obtain ⟨d1, d2⟩ := dvs_big h6
  have hD := dvs_pos h6
  have e1 : c2 x * dvs n ≤ 6 * dvs n := Int.mul_le_mul_of_nonneg_right k2.2 (by omega)
  have e2 : 1 * dvs n ≤ c2 x * dvs n := Int.mul_le_mul_of_nonneg_right k2.1 (by omega)
  rw [whl_eq]
  omega
theorem lt_bits {D : Int} (h : 0 < D) : D < 2 ^ Builtin.Int.intBits D := by
  unfold Builtin.Int.intBits
  rw [if_neg (by simp; omega)]
  have := @Nat.lt_log2_self D.natAbs
  have e2 : ((2 ^ (D.natAbs.log2 + 1) : Nat) : Int) = (2 : Int) ^ (D.natAbs.log2 + 1) := by simp
  omega
theorem sq_ok {D a : Int} (h : 14 ≤ D) (ha : -(14 * D) < a ∧ a < 14 * D) : -2 ^ (2 * Builtin.Int.intBits D) ≤ a ∧ a < 2 ^ (2 * Builtin.Int.intBits D) := by
  have h1 := lt_bits (D := D) (by omega)
  have h2 : D * D ≤ 2 ^ Builtin.Int.intBits D * 2 ^ Builtin.Int.intBits D := Int.mul_le_mul (Int.le_of_lt h1) (Int.le_of_lt h1) (by omega) (by omega)
  have h3 : 14 * D ≤ D * D := Int.mul_le_mul_of_nonneg_right h (by omega)
  have e : (2 : Int) ^ (2 * Builtin.Int.intBits D) = 2 ^ Builtin.Int.intBits D * 2 ^ Builtin.Int.intBits D := by rw [Nat.two_mul, Int.pow_add]
  rw [e]
  omega
theorem dvs_lt {n : Int} (h6 : 6 ≤ n) (h37 : n ≤ 37) : 14 ≤ dvs n ∧ dvs n < 2 ^ 400 := by
  obtain ⟨d1, d2⟩ := dvs_big h6
  have hB : (2 : Int) ^ n.toNat ≤ 137438953472 := by
    have e : n.toNat ≤ 37 := by omega
    have := Nat.pow_le_pow_right (n := 2) (by decide) e
    have e2 : ((2 ^ n.toNat : Nat) : Int) = (2 : Int) ^ n.toNat := by simp
    have e3 : (2 : Nat) ^ 37 = 137438953472 := by decide
    omega
  have h2 : (2 : Int) ^ n.toNat * 2 ^ n.toNat ≤ 137438953472 * 137438953472 := Int.mul_le_mul hB hB (by omega) (by decide)
  have h3 : (137438953472 * 137438953472 + 137438953472 + 1 : Int) < 2 ^ 400 := by decide +kernel
  refine ⟨by omega, ?_⟩
  rw [dvs_eq]
  omega
end Mine
end
/-! part P5 -/
section
open PySem PySem.W PyProof.Rows PySem.Calls
set_option Elab.async false
set_option maxRecDepth 100000
set_option linter.unusedSimpArgs false
namespace Mine
theorem kw63 : True := by
  w_top off
  k_with_none
  k_with "mine ne" => first | (with_reducible first | assumption | (refine Ne.symm ?_; assumption)) | (with_reducible ((repeat (first | (rename ((_ ≠ _ ∧ _) ∧ _) => hZk; obtain ⟨_, _⟩ := hZk) | (rename (_ ≠ _ ∧ _) => hZk; obtain ⟨_, _⟩ := hZk))); first | assumption | (refine Ne.symm ?_; assumption))) | ((repeat (refine Mine.aS ?_)); (first | refine Nat.ne_of_lt ?_ | refine Nat.ne_of_gt ?_); (repeat (first | exact Mine.lA _ | refine Mine.lB ?_)); done) | (with_reducible ((repeat (rename (@LT.lt _ _ _ _ ∧ _) => hZk; obtain ⟨_, _⟩ := hZk)); first | (refine Nat.ne_of_lt ?_; assumption) | (refine Nat.ne_of_gt ?_; assumption)))
  trivial
/-- a mail's signs -/
def mailC (a b c : Nat) (e0 e1 e2 e3 : List Nat) : List Nat := 97 :: (e0 ++ (List.replicate a 46 ++ 97 :: (e1 ++ (List.replicate b 46 ++ 97 :: (e2 ++ (List.replicate c 46 ++ 97 :: e3))))))
abbrev C2 : List Nat := [13, 10]
def IsEnd (e : List Nat) : Prop := e = [10] ∨ e = [13] ∨ e = [13, 10]
theorem out2_cons {c : Nat} (h1 : c ≠ 10) (h2 : c ≠ 13) (l : List Nat) : out2 (c :: l) = c :: out2 l := by
  cases l with
  | nil => simp [out2, h1, h2]
  | cons d r => simp [out2, h1, h2]
theorem out2_dots (a : Nat) (l : List Nat) : out2 (List.replicate a 46 ++ l) = List.replicate a 46 ++ out2 l := by
  induction a with
  | zero => simp
  | succ a ih => rw [List.replicate_succ, List.cons_append, out2_cons (by decide) (by decide), ih]; rfl
theorem out2_end {e : List Nat} (he : IsEnd e) {l : List Nat} (hl : l = [] ∨ ∃ c r, l = c :: r ∧ c ≠ 10) : out2 (e ++ l) = C2 ++ out2 l := by
  rcases he with rfl | rfl | rfl
  · rcases hl with rfl | ⟨c, r, rfl, hc⟩
    · simp [out2]
    · simp [out2]
  · rcases hl with rfl | ⟨c, r, rfl, hc⟩
    · simp [out2]
    · simp [out2, hc]
  · rcases hl with rfl | ⟨c, r, rfl, hc⟩
    · simp [out2]
    · simp [out2]
theorem begins (a : Nat) (l : List Nat) : ∃ c r, List.replicate a 46 ++ 97 :: l = c :: r ∧ c ≠ 10 := by
  cases a with
  | zero => exact ⟨97, l, by simp, by decide⟩
  | succ a => exact ⟨46, List.replicate a 46 ++ 97 :: l, by rw [List.replicate_succ, List.cons_append], by decide⟩
theorem out2_mail {a b c : Nat} {e0 e1 e2 e3 : List Nat} (h0 : IsEnd e0) (h1 : IsEnd e1) (h2 : IsEnd e2) (h3 : IsEnd e3) : out2 (mailC a b c e0 e1 e2 e3) = mailC a b c C2 C2 C2 C2 := by
  unfold mailC
  have h3' := out2_end h3 (l := []) (.inl rfl)
  rw [List.append_nil] at h3'
  rw [out2_cons (by decide) (by decide), out2_end h0 (.inr (begins _ _)), out2_dots, out2_cons (by decide) (by decide), out2_end h1 (.inr (begins _ _)), out2_dots, out2_cons (by decide) (by decide), out2_end h2 (.inr (begins _ _)), out2_dots,
    out2_cons (by decide) (by decide), h3']
  simp [out2]
theorem out1_dots : ∀ (a p : Nat) (l : List Nat), p ≠ 10 → out1 p (List.replicate a 46 ++ 97 :: l) = List.replicate a 46 ++ 97 :: out1 97 l
  | 0, p, l, hp => by simp [out1]
  | a + 1, p, l, hp => by
    rw [List.replicate_succ, List.cons_append]
    show (if p = 10 ∧ 46 = 46 then _ else _) = _
    rw [if_neg (fun q => hp q.1), out1_dots a 46 l (by decide)]
    rfl
theorem out1_row (a : Nat) (l : List Nat) : out1 97 (C2 ++ (List.replicate (a + 1) 46 ++ 97 :: l)) = C2 ++ (List.replicate (a + 2) 46 ++ 97 :: out1 97 l) := by
  have h : out1 10 (List.replicate (a + 1) 46 ++ 97 :: l) = List.replicate (a + 2) 46 ++ 97 :: out1 97 l := by
    rw [List.replicate_succ, List.cons_append]
    show (if 10 = 10 ∧ 46 = 46 then 46 :: 46 :: out1 46 _ else _) = _
    rw [if_pos ⟨rfl, rfl⟩, out1_dots a 46 l (by decide)]
    rfl
  show (if 97 = 10 ∧ 13 = 46 then _ else 13 :: (if 13 = 10 ∧ 10 = 46 then _ else 10 :: out1 10 _)) = _
  rw [if_neg (by decide), if_neg (by decide)]
  exact congrArg (fun z => 13 :: 10 :: z) h
theorem out1_mail (a b c : Nat) : out1 10 (mailC (a + 1) (b + 1) (c + 1) C2 C2 C2 C2) = mailC (a + 2) (b + 2) (c + 2) C2 C2 C2 C2 := by
  unfold mailC
  show (if 10 = 10 ∧ 97 = 46 then _ else 97 :: out1 97 _) = _
  rw [if_neg (by decide), out1_row, out1_row, out1_row]
  rfl
theorem quote_mail {a b c : Nat} {e0 e1 e2 e3 : List Nat} (h0 : IsEnd e0) (h1 : IsEnd e1) (h2 : IsEnd e2) (h3 : IsEnd e3) :
    sub2 ⟨(mailC (a + 1) (b + 1) (c + 1) e0 e1 e2 e3).toArray⟩ = ⟨(mailC (a + 1) (b + 1) (c + 1) C2 C2 C2 C2).toArray⟩ ∧ sub1 (sub2 ⟨(mailC (a + 1) (b + 1) (c + 1) e0 e1 e2 e3).toArray⟩) = ⟨(mailC (a + 2) (b + 2) (c + 2) C2 C2 C2 C2).toArray⟩ := by
  have e : sub2 ⟨(mailC (a + 1) (b + 1) (c + 1) e0 e1 e2 e3).toArray⟩ = ⟨(mailC (a + 1) (b + 1) (c + 1) C2 C2 C2 C2).toArray⟩ := by rw [sub2_is, out2_mail h0 h1 h2 h3]
  exact ⟨e, by rw [e, sub1_is, out1_mail]⟩
theorem IsEnd.c2 : IsEnd C2 := .inr (.inr rfl)
theorem quotes {a b c : Nat} {e0 e1 e2 e3 : List Nat} (h0 : IsEnd e0) (h1 : IsEnd e1) (h2 : IsEnd e2) (h3 : IsEnd e3) : ∀ i : Nat,
    (i = 0 ∧ qIter ⟨(mailC (a + 1) (b + 1) (c + 1) e0 e1 e2 e3).toArray⟩ i = ⟨(mailC (a + 1) (b + 1) (c + 1) e0 e1 e2 e3).toArray⟩) ∨
    (0 < i ∧ qIter ⟨(mailC (a + 1) (b + 1) (c + 1) e0 e1 e2 e3).toArray⟩ i = ⟨(mailC (a + i + 1) (b + i + 1) (c + i + 1) C2 C2 C2 C2).toArray⟩)
  | 0 => .inl ⟨rfl, rfl⟩
  | i + 1 => .inr ⟨Nat.succ_pos i, by
    show sub1 (sub2 (qIter _ i)) = _
    rcases quotes h0 h1 h2 h3 i with ⟨rfl, e⟩ | ⟨_, e⟩
    · rw [e, (quote_mail h0 h1 h2 h3).2]
    · rw [e, (quote_mail .c2 .c2 .c2 .c2).2]; rfl⟩
theorem mailC_len (a b c : Nat) {e0 e1 e2 e3 : List Nat} (h0 : IsEnd e0) (h1 : IsEnd e1) (h2 : IsEnd e2) (h3 : IsEnd e3) : (mailC a b c e0 e1 e2 e3).length ≤ a + b + c + 12 := by
  have l : ∀ {e : List Nat}, IsEnd e → e.length ≤ 2 := fun {e} h => by rcases h with rfl | rfl | rfl <;> decide
  have := l h0
  have := l h1
  have := l h2
  have := l h3
  simp only [mailC, List.length_cons, List.length_append, List.length_replicate]
  omega
theorem dots_inj : ∀ (a b : Nat) (l r : List Nat), List.replicate a 46 ++ 97 :: l = List.replicate b 46 ++ 97 :: r → a = b ∧ l = r
  | 0, 0, l, r, h => ⟨rfl, by simpa using h⟩
  | 0, b + 1, l, r, h => by simp [List.replicate_succ] at h
  | a + 1, 0, l, r, h => by simp [List.replicate_succ] at h
  | a + 1, b + 1, l, r, h => by
    rw [List.replicate_succ, List.replicate_succ, List.cons_append, List.cons_append] at h
    have := dots_inj a b l r (List.cons.inj h).2
    exact ⟨by omega, this.2⟩
theorem mailC_inj {a b c a' b' c' : Nat} (h : mailC a b c C2 C2 C2 C2 = mailC a' b' c' C2 C2 C2 C2) : a = a' ∧ b = b' ∧ c = c' := by
  unfold mailC at h
  have h1 := List.append_cancel_left (List.cons.inj h).2
  obtain ⟨e1, h2⟩ := dots_inj _ _ _ _ h1
  obtain ⟨e2, h3⟩ := dots_inj _ _ _ _ (List.append_cancel_left h2)
  obtain ⟨e3, _⟩ := dots_inj _ _ _ _ (List.append_cancel_left h3)
  exact ⟨e1, e2, e3⟩
/-! the mail that the walk writes has these signs -/
theorem mul_signs : ∀ k : Nat, k ≤ 20 → (Txt.mul (Str.ofString ".") (k : Int)).cps.toList = List.replicate k 46 := by decide +kernel
theorem str_eq {x : Str} {l : List Nat} (h : x.cps.toList = l) : x = ⟨l.toArray⟩ := by
  subst h
  cases x
  simp
theorem join4 (t0 t1 t2 t3 : Str) : (Txt.join (Str.ofString "") [t0, t1, t2, t3]).cps.toList = t0.cps.toList ++ (t1.cps.toList ++ (t2.cps.toList ++ t3.cps.toList)) := by
  have z : (Str.ofString "").cps = #[] := by decide
  show ((⟨([t1, t2, t3] : List Str).foldl (fun acc p => acc ++ (Str.ofString "").cps ++ p.cps) t0.cps⟩ : Str)).cps.toList = _
  rw [z]
  simp
theorem mailT_signs {p0 p1 p2 x : Int} {n : Nat} {Es : Nat → Str} (h0 : 1 ≤ p0 ∧ p0 ≤ 20) (h1 : 1 ≤ p1 ∧ p1 ≤ 20) (h2 : 1 ≤ p2 ∧ p2 ≤ 20) :
    mailT p0 p1 p2 x n Es = ⟨(mailC p0.toNat p1.toNat p2.toNat (Es ((x + 0) % (n : Int)).toNat).cps.toList (Es ((x + 1) % (n : Int)).toNat).cps.toList (Es ((x + 2) % (n : Int)).toNat).cps.toList (Es ((x + 3) % (n : Int)).toNat).cps.toList).toArray⟩ := by
  have hp : ∀ p : Int, 1 ≤ p ∧ p ≤ 20 → (Txt.mul (Str.ofString ".") p).cps.toList = List.replicate p.toNat 46 := fun p h => by
    obtain ⟨k, rfl⟩ := Int.eq_ofNat_of_zero_le (show 0 ≤ p by omega)
    exact mul_signs k (by omega)
  have ea : (Str.ofString "a").cps.toList = [97] := by decide
  refine str_eq ?_
  show (Txt.join (Str.ofString "") [rowT p0 p1 p2 0 ++ Es ((x + ((0 : Nat) : Int)) % (n : Int)).toNat, rowT p0 p1 p2 1 ++ Es ((x + ((1 : Nat) : Int)) % (n : Int)).toNat, rowT p0 p1 p2 2 ++ Es ((x + ((2 : Nat) : Int)) % (n : Int)).toNat, rowT p0 p1 p2 3 ++ Es ((x + ((3 : Nat) : Int)) % (n : Int)).toNat]).cps.toList = _
  rw [join4]
  simp only [rowT, PySem.Str.cps_append, Array.toList_append, ea, hp p0 h0, hp p1 h1, hp p2 h2, mailC, List.append_assoc, List.singleton_append, List.cons_append, List.nil_append, Int.natCast_zero, Int.natCast_one]
  rfl
end Mine
end
/-! part P7 -/
section
open PySem PySem.W PyProof.Rows PySem.Calls
set_option Elab.async false
set_option maxRecDepth 100000
namespace Mine
theorem kw64 : True := by
  w_top off
  k_with_none
  k_with "mine ne" => first | (with_reducible first | assumption | (refine Ne.symm ?_; assumption)) | (with_reducible ((repeat (first | (rename ((_ ≠ _ ∧ _) ∧ _) => hZk; obtain ⟨_, _⟩ := hZk) | (rename (_ ≠ _ ∧ _) => hZk; obtain ⟨_, _⟩ := hZk))); first | assumption | (refine Ne.symm ?_; assumption))) | ((repeat (refine Mine.aS ?_)); (first | refine Nat.ne_of_lt ?_ | refine Nat.ne_of_gt ?_); (repeat (first | exact Mine.lA _ | refine Mine.lB ?_)); done) | (with_reducible ((repeat (rename (@LT.lt _ _ _ _ ∧ _) => hZk; obtain ⟨_, _⟩ := hZk)); first | (refine Nat.ne_of_lt ?_; assumption) | (refine Nat.ne_of_gt ?_; assumption)))
  trivial
/-! the mails of a number -/
def E3 : Nat → Str
  | 0 => Str.ofString "\n"
  | 1 => Str.ofString "\x0d"
  | _ => Str.ofString "\x0d\n"
def E1 (_ : Nat) : Str := Str.ofString "\x0d\n"
def mailA (x : Int) : Str := mailT (c0 x) (c1 x) (c2 x) x 3 E3
def mailB (y : Int) : Str := mailT (c0 y) (c1 y) (c2 y) 0 1 E1
theorem e3_end (k : Nat) : IsEnd (E3 k).cps.toList := by
  match k with
  | 0 => exact .inl (by decide)
  | 1 => exact .inr (.inl (by decide))
  | k + 2 => exact .inr (.inr (by show (Str.ofString "\x0d\n").cps.toList = _; decide))
theorem e1_end (k : Nat) : (E1 k).cps.toList = C2 := by
  show (Str.ofString "\x0d\n").cps.toList = _
  decide
theorem e3_len (k : Nat) : (E3 k).length ≤ 2 := by
  match k with
  | 0 => decide
  | 1 => decide
  | k + 2 => show (Str.ofString "\x0d\n").length ≤ 2; decide
theorem e1_len (k : Nat) : (E1 k).length ≤ 2 := by
  show (Str.ofString "\x0d\n").length ≤ 2
  decide
theorem tn6 {v : Int} (h : 1 ≤ v ∧ v ≤ 6) : 1 ≤ v.toNat ∧ v.toNat ≤ 6 := by omega
theorem le6 {v : Int} (h : 1 ≤ v ∧ v ≤ 6) : 1 ≤ v ∧ v ≤ 20 := ⟨h.1, Int.le_trans h.2 (by decide)⟩
theorem sa1 {a : Nat} (h : 1 ≤ a) (d : Nat) : a - 1 + d + 1 = a + d := by omega
theorem szA {a b c : Nat} (ha : a ≤ 6) (hb : b ≤ 6) (hc : c ≤ 6) : a - 1 + 1 + (b - 1 + 1) + (c - 1 + 1) + 12 ≤ 16384 := by omega
theorem szB {a b c d : Nat} (ha : a ≤ 6) (hb : b ≤ 6) (hc : c ≤ 6) (hd : d ≤ 100) : a + d + (b + d) + (c + d) + 12 ≤ 16384 := by omega
theorem sbT {a c a' c' : Int} {q : Nat} (ha : 1 ≤ a) (hc : 1 ≤ c) (ha' : 1 ≤ a') (hc' : 1 ≤ c') (e1 : a.toNat + q = a'.toNat) (e2 : c.toNat + q = c'.toNat) : a - c = a' - c' := by omega
theorem adT {a a' q : Int} (ha : 1 ≤ a) (hq : 0 < q) (h : a' = a + q) : a.toNat + q.toNat = a'.toNat := by omega
theorem mailA_signs (x : Int) : ∃ e0 e1 e2 e3, IsEnd e0 ∧ IsEnd e1 ∧ IsEnd e2 ∧ IsEnd e3 ∧ mailA x = ⟨(mailC ((c0 x).toNat - 1 + 1) ((c1 x).toNat - 1 + 1) ((c2 x).toNat - 1 + 1) e0 e1 e2 e3).toArray⟩ := by
  obtain ⟨k0, k1, k2⟩ := c_le x
  refine ⟨_, _, _, _, e3_end ((x + 0) % ((3 : Nat) : Int)).toNat, e3_end ((x + 1) % ((3 : Nat) : Int)).toNat, e3_end ((x + 2) % ((3 : Nat) : Int)).toNat, e3_end ((x + 3) % ((3 : Nat) : Int)).toNat, ?_⟩
  unfold mailA
  rw [mailT_signs (le6 k0) (le6 k1) (le6 k2), Nat.sub_add_cancel (tn6 k0).1, Nat.sub_add_cancel (tn6 k1).1, Nat.sub_add_cancel (tn6 k2).1]
theorem mailB_signs (y : Int) : mailB y = ⟨(mailC (c0 y).toNat (c1 y).toNat (c2 y).toNat C2 C2 C2 C2).toArray⟩ := by
  obtain ⟨k0, k1, k2⟩ := c_le y
  unfold mailB
  rw [mailT_signs (le6 k0) (le6 k1) (le6 k2), e1_end, e1_end, e1_end, e1_end]
theorem stage_signs (x : Int) (d : Nat) (hd : 0 < d) : qIter (mailA x) d = ⟨(mailC ((c0 x).toNat + d) ((c1 x).toNat + d) ((c2 x).toNat + d) C2 C2 C2 C2).toArray⟩ := by
  obtain ⟨k0, k1, k2⟩ := c_le x
  obtain ⟨e0, e1, e2, e3, h0, h1, h2, h3, e⟩ := mailA_signs x
  rw [e]
  rcases quotes (a := (c0 x).toNat - 1) (b := (c1 x).toNat - 1) (c := (c2 x).toNat - 1) h0 h1 h2 h3 d with ⟨h, _⟩ | ⟨_, h⟩
  · clear k0 k1 k2
    omega
  · rw [h, sa1 (tn6 k0).1, sa1 (tn6 k1).1, sa1 (tn6 k2).1]
theorem stage_size (x : Int) (d : Nat) (hd : d ≤ 100) : (qIter (mailA x) d).cps.size ≤ 16384 ∧ (sub2 (qIter (mailA x) d)).cps.size ≤ 16384 := by
  obtain ⟨k0, k1, k2⟩ := c_le x
  by_cases h : d = 0
  · subst h
    obtain ⟨e0, e1, e2, e3, h0, h1, h2, h3, e⟩ := mailA_signs x
    show (mailA x).cps.size ≤ _ ∧ (sub2 (mailA x)).cps.size ≤ _
    rw [e, (quote_mail h0 h1 h2 h3).1]
    have l1 := mailC_len ((c0 x).toNat - 1 + 1) ((c1 x).toNat - 1 + 1) ((c2 x).toNat - 1 + 1) h0 h1 h2 h3
    have l2 := mailC_len ((c0 x).toNat - 1 + 1) ((c1 x).toNat - 1 + 1) ((c2 x).toNat - 1 + 1) .c2 .c2 .c2 .c2
    have z := szA (tn6 k0).2 (tn6 k1).2 (tn6 k2).2
    exact ⟨Nat.le_trans l1 z, Nat.le_trans l2 z⟩
  · rw [stage_signs x d (Nat.pos_of_ne_zero h)]
    have l2 := mailC_len ((c0 x).toNat + d) ((c1 x).toNat + d) ((c2 x).toNat + d) .c2 .c2 .c2 .c2
    have e : sub2 ⟨(mailC ((c0 x).toNat + d) ((c1 x).toNat + d) ((c2 x).toNat + d) C2 C2 C2 C2).toArray⟩ = ⟨(mailC ((c0 x).toNat + d) ((c1 x).toNat + d) ((c2 x).toNat + d) C2 C2 C2 C2).toArray⟩ := by
      rw [sub2_is, out2_mail .c2 .c2 .c2 .c2]
    rw [e]
    have z := Nat.le_trans l2 (szB (tn6 k0).2 (tn6 k1).2 (tn6 k2).2 hd)
    exact ⟨z, z⟩
/-- a stage is the other's mail just where the two are alike -/
theorem stage_iff {n : Int} (h6 : 6 ≤ n) (x y : Int) (hd : 0 < quoN n y - quoN n x) : qIter (mailA x) (quoN n y - quoN n x).toNat = mailB y ↔ Alike x y := by
  obtain ⟨k0, k1, k2⟩ := c_le x
  obtain ⟨g0, g1, g2⟩ := c_le y
  have hq : 0 < (quoN n y - quoN n x).toNat := by
    clear k0 k1 k2 g0 g1 g2
    omega
  rw [stage_signs x _ hq, mailB_signs]
  constructor
  · intro h
    have h' : mailC ((c0 x).toNat + (quoN n y - quoN n x).toNat) ((c1 x).toNat + (quoN n y - quoN n x).toNat) ((c2 x).toNat + (quoN n y - quoN n x).toNat) C2 C2 C2 C2 = mailC (c0 y).toNat (c1 y).toNat (c2 y).toNat C2 C2 C2 C2 := by
      have := congrArg (fun z : Str => z.cps.toList) h
      simpa using this
    obtain ⟨e1, e2, e3⟩ := mailC_inj h'
    exact ⟨sbT k0.1 k2.1 g0.1 g2.1 e1 e3, sbT k1.1 k2.1 g1.1 g2.1 e2 e3⟩
  · intro h
    have e := quo_alike h6 h
    obtain ⟨a1, a2⟩ := h
    have b0 : c0 y = c0 x + (quoN n y - quoN n x) := by
      rw [e]
      clear k0 k1 k2 g0 g1 g2 a2
      omega
    have b1 : c1 y = c1 x + (quoN n y - quoN n x) := by
      rw [e]
      clear k0 k1 k2 g0 g1 g2 a1
      omega
    have b2 : c2 y = c2 x + (quoN n y - quoN n x) := by
      rw [e]
      clear k0 k1 k2 g0 g1 g2 a1 a2
      omega
    rw [adT k0.1 hd b0, adT k1.1 hd b1, adT k2.1 hd b2]
end Mine
end
/-! part L4 -/
section
open PySem PySem.W PyProof.Rows PySem.Calls PySem.Spec
set_option Elab.async false
set_option maxRecDepth 100000
set_option maxHeartbeats 1000000
set_option linter.unusedSimpArgs false
set_option linter.unusedVariables false
namespace Mine
open LCg
theorem kw65 : True := by
  w_top off
  k_with_none
  k_with "mine ne" => first | (with_reducible first | assumption | (refine Ne.symm ?_; assumption)) | (with_reducible ((repeat (first | (rename ((_ ≠ _ ∧ _) ∧ _) => hZk; obtain ⟨_, _⟩ := hZk) | (rename (_ ≠ _ ∧ _) => hZk; obtain ⟨_, _⟩ := hZk))); first | assumption | (refine Ne.symm ?_; assumption))) | ((repeat (refine Mine.aS ?_)); (first | refine Nat.ne_of_lt ?_ | refine Nat.ne_of_gt ?_); (repeat (first | exact Mine.lA _ | refine Mine.lB ?_)); done) | (with_reducible ((repeat (rename (@LT.lt _ _ _ _ ∧ _) => hZk; obtain ⟨_, _⟩ := hZk)); first | (refine Nat.ne_of_lt ?_; assumption) | (refine Nat.ne_of_gt ?_; assumption)))
  k_with "exec For Name Call cons nil" => (k_here; k_dflt (refine' For_turns ?kFZk ?_; (case kFZk => k_asm); k_whole))
  k_with "exec For Name Name cons nil" => (k_here; k_dflt (refine' For_turns ?kFZk ?_; (case kFZk => k_asm); k_whole))
  k_with "exec For Tuple Call cons nil" => (k_here; k_dflt (refine' For_turns ?kFZk ?_; (case kFZk => k_asm); k_whole))
  k_with "eval Name" => (k_here; k_dflt (refine' nameX_L ?k1Zk ?k2Zk ?_ ?kaZk ?kbZk; (case kaZk => rfl); (case kbZk => rfl); (case k1Zk => k_asm); (case k2Zk => with_unfolding_all assumption); k_whole))
  trivial
local macro_rules | `(tactic| k_all) => `(tactic| with_reducible assumption)
local macro_rules | `(tactic| k_mem) => `(tactic| with_reducible assumption)

theorem kw66 : True := by
  k_with "call builtin:list.append" => (k_here; k_dflt (refine' appendU ?aFZk ?aNZk ?arZk ?azZk ?_; (case aFZk => k_asm); (case aNZk => k_asm); (case arZk => k_updF); (case azZk => assumption); k_whole); intro h'Zk F'Zk N'Zk; (try dsimp only at N'Zk); (try k_sweep))
  trivial
section
variable {prog : Program} {w : World} {A : Around} {E : Value → Shared → Prop} {s : Shared} {Q : Value → Shared → Prop}
theorem divP {a b : Int} {t u : Tok} (hb : 0 < b) (hb9 : b.natAbs < 1073741824) (h : Q (.int (a / b) s.toks) { s with toks := s.toks + 1 }) : wpAny (model prog w) A (binaryOp .FloorDiv (.int a t) (.int b u)) Q E s := by
  refine floordiv_int (by omega) ?_ (hp := .inl (PyProof.noPylong_small hb9))
  rw [Int.fdiv_eq_ediv_of_nonneg _ (by omega)]; exact h
end

theorem kw67 : True := by
  k_with "binaryOp Mod int int" => (refine modP (by decide) ?_; try dsimp only)
  k_with "binaryOp FloorDiv int int" => (refine divP (by decide) (by decide) ?_; try dsimp only)
  trivial
/-- a list's ints at their places -/
theorem intsAt {vs : List Value} {ns : List Int} (h : IntsAre vs ns) : ∀ {i : Nat} {v : Value}, vs[i]? = some v → ∃ x t, ns[i]? = some x ∧ v = .int x t := by
  intro i v e
  have hlt : i < ns.length := by
    have := (List.getElem?_eq_some_iff.mp e).1
    rw [h.length] at this; exact this
  obtain ⟨t, ht⟩ := h.get i ns[i] (by simp [hlt])
  rw [e] at ht
  exact ⟨ns[i], t, by simp [hlt], Option.some.inj ht⟩
/-- the colours' list: what is told of an item -/
def RC (xs : List Int) (j : Nat) (v : Value) (led : List (Addr × Obj)) : Prop := ∃ x a t0 t1 t2 nn, xs[j]? = some x ∧ v = .ref a ∧ (a, PySem.W.listOf #[.int (c0 x) t0, .int (c1 x) t1, .int (c2 x) t2] nn) ∈ led
theorem RC.mono {xs : List Int} {l l' : List (Addr × Obj)} (hs : ∀ p ∈ l, p ∈ l') (j : Nat) (v : Value) (h : RC xs j v l) : RC xs j v l' := h.imp fun x => .imp fun a => .imp fun t0 => .imp fun t1 => .imp fun t2 => .imp fun nn e => ⟨e.1, e.2.1, hs _ e.2.2⟩
structure J4 (xs : List Int) (L lc : Addr) (cells led : List (Addr × Obj)) (m₀ : Str → Option Value) (i : Nat) (m : Str → Option Value) (news : List (Addr × Obj)) : Prop where
  keep : ∀ y, y ≠ Str.ofString "x" → y ≠ Str.ofString "more" → m y = m₀ y
  led : ∃ vs nn R, news = (lc, PySem.W.listOf vs.toArray nn) :: (cells ++ R) ∧ (∀ p ∈ led, p ∈ R) ∧ Rows (RC xs) i vs R ∧ (∀ p ∈ R, p ∈ led ∨ lc < p.1)
theorem end4 {xs : List Int} {L lc l' : Addr} {ob om ov oa oc od on : Obj} {led R own Z : List (Addr × Obj)} {m m' : Str → Option Value} {i nn' k0 : Nat} {vs : List Value} {x : Int} {t0 t1 t2 : Tok} {h₀ h' : Heap} {s : Shared} {tk' : Nat} {Q : Flow → Shared → Prop}
    (F : Fr h₀ L h' m') (N : News h₀ L h' ((l', PySem.W.listOf #[.int (c0 x) t0, .int (c1 x) t1, .int (c2 x) t2] k0) :: (lc, PySem.W.listOf (vs ++ [Value.ref l']).toArray (nn' + 1)) :: (L + 1 + 1 + 1 + 1 + 1 + 1 + 1, ob) :: (L + 1 + 1 + 1 + 1 + 1 + 1, om) :: (L + 1 + 1 + 1 + 1 + 1, ov) :: (L + 1 + 1 + 1 + 1, oa) :: (L + 1 + 1 + 1, oc) :: (L + 1 + 1, od) :: (L + 1, on) ::  Z)) (hZ : R ++ own = Z) (hl : @LT.lt Nat _ lc l') (hlt : ∀ p ∈ Z, @LT.lt Nat _ p.1 l') (hx : xs[i]? = some x)
    (hsub : ∀ p ∈ led, p ∈ R) (hR : Rows (RC xs) i vs R) (hoR : ∀ p ∈ R, p ∈ led ∨ lc < p.1) (hk : ∀ y, y ≠ Str.ofString "x" → y ≠ Str.ofString "more" → m' y = m y) :
    TEnd h₀ L own ((lc, PySem.W.listOf vs.toArray nn') :: (L + 1 + 1 + 1 + 1 + 1 + 1 + 1, ob) :: (L + 1 + 1 + 1 + 1 + 1 + 1, om) :: (L + 1 + 1 + 1 + 1 + 1, ov) :: (L + 1 + 1 + 1 + 1, oa) :: (L + 1 + 1 + 1, oc) :: (L + 1 + 1, od) :: (L + 1, on) ::  R) (J4 xs L lc ((L + 1 + 1 + 1 + 1 + 1 + 1 + 1, ob) :: (L + 1 + 1 + 1 + 1 + 1 + 1, om) :: (L + 1 + 1 + 1 + 1 + 1, ov) :: (L + 1 + 1 + 1 + 1, oa) :: (L + 1 + 1 + 1, oc) :: (L + 1 + 1, od) :: (L + 1, on) ::  []) led m (i + 1)) s Q .next { s with heap := h', toks := tk' } := by
  subst hZ
  refine ⟨h', tk', m', (lc, PySem.W.listOf (vs ++ [Value.ref l']).toArray (nn' + 1)) :: (L + 1 + 1 + 1 + 1 + 1 + 1 + 1, ob) :: (L + 1 + 1 + 1 + 1 + 1 + 1, om) :: (L + 1 + 1 + 1 + 1 + 1, ov) :: (L + 1 + 1 + 1 + 1, oa) :: (L + 1 + 1 + 1, oc) :: (L + 1 + 1, od) :: (L + 1, on) ::  ((l', PySem.W.listOf #[.int (c0 x) t0, .int (c1 x) t1, .int (c2 x) t2] k0) :: R), rfl, F, newsSub N fun p hp => ?_, fun p hp => ?_, hk, _, _, (l', PySem.W.listOf #[.int (c0 x) t0, .int (c1 x) t1, .int (c2 x) t2] k0) :: R, rfl, fun p hp => .tail _ (hsub p hp), (hR.mono (RC.mono fun p hp => .tail _ hp)).snoc (fun _ _ y => y) ⟨x, l', t0, t1, t2, k0, hx, rfl, .head _⟩, fun p hp => ?_⟩
  · simp only [List.cons_append, List.nil_append, List.mem_cons, List.mem_append] at hp ⊢
    grind
  · simp only [List.mem_cons] at hp
    rcases hp with rfl | rfl | rfl | rfl | rfl | rfl | rfl | rfl | rfl | hp
    · exact .inl ⟨_, .head _⟩
    · exact .inl ⟨_, .tail _ (.head _)⟩
    · exact .inl ⟨_, .tail _ (.tail _ (.head _))⟩
    · exact .inl ⟨_, .tail _ (.tail _ (.tail _ (.head _)))⟩
    · exact .inl ⟨_, .tail _ (.tail _ (.tail _ (.tail _ (.head _))))⟩
    · exact .inl ⟨_, .tail _ (.tail _ (.tail _ (.tail _ (.tail _ (.head _)))))⟩
    · exact .inl ⟨_, .tail _ (.tail _ (.tail _ (.tail _ (.tail _ (.tail _ (.head _))))))⟩
    · exact .inl ⟨_, .tail _ (.tail _ (.tail _ (.tail _ (.tail _ (.tail _ (.tail _ (.head _)))))))⟩
    · exact .inr fun q hq => Nat.ne_of_gt (hlt q (List.mem_append_right _ hq))
    · exact .inl ⟨p.2, .tail _ (.tail _ (.tail _ (.tail _ (.tail _ (.tail _ (.tail _ (.tail _ hp)))))))⟩
  · rcases List.mem_cons.mp hp with rfl | hp
    · exact .inr hl
    · exact hoR p hp
theorem stm4 {prog : Program} {w : World} {dp un : Nat} {gd : Option (List Code)} {base h₀ : Heap} {p : Program} {loose : List Str} {mean : ExcName → Option Value} {mg mb : Str → Option Value} {A₀ : Around} {s : Shared} {L fa : Addr} {cd : Value} {m : Str → Option Value} {Q : Flow → Shared → Prop} {ob om ov oa oc od on : Obj}
    (B : Below A₀ base [] h₀) (X : (hd.heap_39 w.params).In h₀) (T : Top p loose mean mg mb h₀) (hdp : dp + 100 < 1000) (hun : un + 1000 < 9900)
    {led : List (Addr × Obj)} {lc ln : Addr} {xvs : List Value} {nn : Nat} {xs : List Int}
    (F : Fr h₀ L s.heap m) (N : News h₀ L s.heap ((lc, PySem.W.listOf #[] 0) :: (L + 1 + 1 + 1 + 1 + 1 + 1 + 1, ob) :: (L + 1 + 1 + 1 + 1 + 1 + 1, om) :: (L + 1 + 1 + 1 + 1 + 1, ov) :: (L + 1 + 1 + 1 + 1, oa) :: (L + 1 + 1 + 1, oc) :: (L + 1 + 1, od) :: (L + 1, on) ::  led))
    (hoc : oc.data = .cell (some (.ref lc))) (hm : m (Str.ofString "numbers") = some (.ref ln)) (hln : (ln, PySem.W.listOf xvs.toArray nn) ∈ led) (hxs : IntsAre xvs xs) (hk : xs.length ≤ 5) (hLc : L + 1 + 1 + 1 + 1 + 1 + 1 + 1 < lc) (hoff : ∀ p ∈ led, p.1 ≠ lc)
    (h : ∀ h' tk' m' cvs nc R, (∀ y, y ≠ Str.ofString "x" → y ≠ Str.ofString "more" → m' y = m y) → Fr h₀ L h' m' → News h₀ L h' ((lc, PySem.W.listOf cvs.toArray nc) :: (L + 1 + 1 + 1 + 1 + 1 + 1 + 1, ob) :: (L + 1 + 1 + 1 + 1 + 1 + 1, om) :: (L + 1 + 1 + 1 + 1 + 1, ov) :: (L + 1 + 1 + 1 + 1, oa) :: (L + 1 + 1 + 1, oc) :: (L + 1 + 1, od) :: (L + 1, on) ::  R) → (∀ p ∈ led, p ∈ R) → Rows (RC xs) xs.length cvs R → (∀ p ∈ R, p ∈ led ∨ lc < p.1) → Q .next { s with heap := h', toks := tk' }) :
    wpAny (model prog w) (Ar dp un gd [(envOfC (Str.ofString "law") (lawScope w.params) L fa cd)]) (exec (lawS4 w.params) (envOfC (Str.ofString "law") (lawScope w.params) L fa cd)) Q (fun _ _ => False) s := by
  replace hLc := ltN hLc
  dsimp only [lawS4, lawScope]
  k_steps
  (k_dflt (refine' list_for (vs := xvs) (lo := PySem.W.listOf xvs.toArray nn) (J4 xs L lc ((L + 1 + 1 + 1 + 1 + 1 + 1 + 1, ob) :: (L + 1 + 1 + 1 + 1 + 1 + 1, om) :: (L + 1 + 1 + 1 + 1 + 1, ov) :: (L + 1 + 1 + 1 + 1, oa) :: (L + 1 + 1 + 1, oc) :: (L + 1 + 1, od) :: (L + 1, on) ::  []) led m) ?uh ?uF ?uN ?um ?uc ?ud ?u0 ?ut ?ue))
  (case uh => rfl)
  (case uF => k_asm)
  (case uN => k_asm)
  (case um => repeat (first | exact hln | refine List.Mem.tail _ ?_))
  (case uc => rfl)
  (case ud => rfl)
  (case u0 => exact ⟨fun _ _ _ => rfl, [], _, led, rfl, fun _ h => h, .nil, fun _ h => .inl h⟩)
  (case ut =>
    intro i v m₁ news₁ own h' tk hv hJ F' N' o1
    obtain ⟨hk1, vs, nn', R, rfl, hsub, hR, hoR⟩ := hJ
    obtain ⟨x, tx, hx, rfl⟩ := intsAt hxs hv
    dsimp only [List.cons_append, List.nil_append] at N'
    generalize hZ : R ++ own = Z at N'
    have hlen : vs.length ≤ 1000 := by rw [hR.len]; have := (List.getElem?_eq_some_iff.mp hx).1; omega
    have hRo : ∀ p ∈ Z, p.1 ≠ lc := by
      intro p hp
      rw [← hZ] at hp
      rcases List.mem_append.mp hp with hp | hp
      · rcases hoR p hp with h | h
        · exact hoff p h
        · exact Nat.ne_of_gt h
      · exact Ne.symm (o1 p hp (lc, _) (.head _) fun e => hoff _ hln e.symm)
    k_steps
    (rename Fr _ _ _ _ => Fz)
    (rename News _ _ _ _ => Nz)
    (rename _ ∧ _ => lz)
    exact end4 Fz Nz hZ (ltN lz.1) (AllLt.mem lz.2.2.2.2.2.2.2.2) hx hsub hR hoR (fun y h1 h2 => by simp only [if_neg h1, if_neg h2]; exact hk1 y h1 h2))
  intro h' tk m' news' hJ F' N'
  obtain ⟨hk1, vs, nn', R, rfl, hsub, hR, hoR⟩ := hJ
  rw [hxs.length] at hR
  exact h _ _ _ vs nn' R hk1 F' N' hsub hR hoR
end Mine
end
/-! part L5 -/
section
open PySem PySem.W PyProof.Rows PySem.Calls PySem.Spec
set_option Elab.async false
set_option maxRecDepth 100000
set_option maxHeartbeats 1000000
set_option linter.unusedSimpArgs false
set_option linter.unusedVariables false
namespace Mine
theorem kw68 : True := by
  w_top off
  k_with_none
  k_with "mine ne" => first | (with_reducible first | assumption | (refine Ne.symm ?_; assumption)) | (with_reducible ((repeat (first | (rename ((_ ≠ _ ∧ _) ∧ _) => hZk; obtain ⟨_, _⟩ := hZk) | (rename (_ ≠ _ ∧ _) => hZk; obtain ⟨_, _⟩ := hZk))); first | assumption | (refine Ne.symm ?_; assumption))) | ((repeat (refine Mine.aS ?_)); (first | refine Nat.ne_of_lt ?_ | refine Nat.ne_of_gt ?_); (repeat (first | exact Mine.lA _ | refine Mine.lB ?_)); done) | (with_reducible ((repeat (rename (@LT.lt _ _ _ _ ∧ _) => hZk; obtain ⟨_, _⟩ := hZk)); first | (refine Nat.ne_of_lt ?_; assumption) | (refine Nat.ne_of_gt ?_; assumption)))
  trivial
open LCg
local macro_rules | `(tactic| k_all) => `(tactic| with_reducible assumption)
local macro_rules | `(tactic| k_mem) => `(tactic| with_reducible assumption)

/-- the codes of the two inner defs stand in the ledger's tables -/
structure TabsIn (P : Params) (tab line col : Nat) (qual : Str) (led : List (Addr × Obj)) : Prop where
  ex : ∃ c oc vs t, ((tab : Addr), tabObj #[rawInt line, rawInt col, .ref c]) ∈ led ∧ (c, oc) ∈ led ∧ oc.data = .fields vs ∧ vs[1]? = some (.str qual t)
abbrev TD (P : Params) (led : List (Addr × Obj)) : Prop := TabsIn P 54 (dInn P).pos.line (dInn P).pos.col dQual led
abbrev TI (P : Params) (led : List (Addr × Obj)) : Prop := TabsIn P 47 (iInn P).pos.line (iInn P).pos.col iQual led
theorem TabsIn.sub {P : Params} {tab line col : Nat} {qual : Str} {l l' : List (Addr × Obj)} (h : TabsIn P tab line col qual l) (hs : ∀ p ∈ l, p ∈ l') : TabsIn P tab line col qual l' :=
  ⟨h.ex.imp fun c => .imp fun oc => .imp fun vs => .imp fun t e => ⟨hs _ e.1, hs _ e.2.1, e.2.2⟩⟩
theorem TD.at {P : Params} {led l : List (Addr × Obj)} {h₀ h : Heap} {L : Addr} (x : TD P led) (N : News h₀ L h l) (hs : ∀ p ∈ led, p ∈ l) : TabD P h :=
  x.ex.elim fun c e => e.elim fun oc e => e.elim fun vs e => e.elim fun t e => ⟨c, N.get (hs _ e.1), codeRec_news N (hs _ e.2.1) e.2.2.1 e.2.2.2⟩
theorem tabsOf {P : Params} {led l : List (Addr × Obj)} {h₀ h : Heap} {L : Addr} (x : TD P led) (y : TI P led) (N : News h₀ L h l) (hs : ∀ p ∈ led, p ∈ l) : Tabs P h where
  d := x.at N hs
  i := y.ex.elim fun c e => e.elim fun oc e => e.elim fun vs e => e.elim fun t e => ⟨c, N.get (hs _ e.1), codeRec_news N (hs _ e.2.1) e.2.2.1 e.2.2.2⟩
theorem pow37 {n : Int} (h : n ≤ 37) : (2 : Int) ^ n.toNat ≤ 137438953472 := by
  have e : n.toNat ≤ 37 := by omega
  have := Nat.pow_le_pow_right (n := 2) (by decide) e
  have e2 : ((2 ^ n.toNat : Nat) : Int) = (2 : Int) ^ n.toNat := by simp
  have e3 : (2 : Nat) ^ 37 = 137438953472 := by decide
  omega
theorem pow6 {n : Int} (h : 6 ≤ n) : 64 ≤ (2 : Int) ^ n.toNat := by
  have e : 6 ≤ n.toNat := by omega
  have := Nat.pow_le_pow_right (n := 2) (by decide) e
  have e2 : ((2 ^ n.toNat : Nat) : Int) = (2 : Int) ^ n.toNat := by simp
  have e3 : (2 : Nat) ^ 6 = 64 := by decide
  omega
theorem off1_mem {D : Addr} : ∀ {l : List (Addr × Obj)}, Off1 D l → ∀ p ∈ l, p.1 ≠ D
  | [], _, _, h => nomatch h
  | q :: r, x, p, h => by
    rcases List.mem_cons.mp h with rfl | h
    · exact x.1
    · exact off1_mem x.2 p h
theorem big_ok {a B : Int} (h1 : 0 ≤ a) (h2 : a ≤ 6) (h3 : 0 ≤ B) (h4 : B ≤ 137438953472) : 0 ≤ a * B ∧ a * B ≤ 824633720832 := by
  have e1 : 0 ≤ a * B := Int.mul_nonneg h1 h3
  have e2 : a * B ≤ 6 * 137438953472 := Int.mul_le_mul h2 h4 h3 (by decide)
  omega
theorem two1000 : (824633720832 : Int) * 1000000000000000000000000 < 2 ^ 1000 := by decide +kernel
theorem stm5 {prog : Program} {w : World} {dp un : Nat} {gd : Option (List Code)} {base h₀ : Heap} {p : Program} {loose : List Str} {mean : ExcName → Option Value} {mg mb : Str → Option Value} {A₀ : Around} {s : Shared} {L fa : Addr} {cd : Value} {m : Str → Option Value} {Q : Flow → Shared → Prop} {ob om ov oa oc od on : Obj}
    (B : Below A₀ base [] h₀) (X : (hd.heap_39 w.params).In h₀) (T : Top p loose mean mg mb h₀) (hdp : dp + 100 < 1000) (hun : un + 1000 < 9900)
    {led : List (Addr × Obj)} {lc : Addr} {cvs : List Value} {nc : Nat} {xs : List Int} {n : Int} {tn : Tok}
    (F : Fr h₀ L s.heap m) (N : News h₀ L s.heap ((L + 1 + 1 + 1 + 1 + 1 + 1 + 1, ob) :: (L + 1 + 1 + 1 + 1 + 1 + 1, om) :: (L + 1 + 1 + 1 + 1 + 1, ov) :: (L + 1 + 1 + 1 + 1, oa) :: (L + 1 + 1 + 1, oc) :: (L + 1 + 1, od) :: (L + 1, on) ::  led))
    (hon : on.data = .cell (some (.int n tn))) (hn6 : 6 ≤ n) (hn37 : n ≤ 37) (hoc : oc.data = .cell (some (.ref lc))) (hlc : (lc, PySem.W.listOf cvs.toArray nc) ∈ led) (hC : Rows (RC xs) xs.length cvs led) (hk : xs.length ≤ 5) (hT : TD w.params led)
    (h : ∀ h' tk' lw wvs, Fr h₀ L h' (fun z => if z = Str.ofString "wholes" then some (.ref lw) else m z) → News h₀ L h' ((lw, lst wvs) :: (L + 1 + 1 + 1 + 1 + 1 + 1 + 1, ob) :: (L + 1 + 1 + 1 + 1 + 1 + 1, om) :: (L + 1 + 1 + 1 + 1 + 1, ov) :: (L + 1 + 1 + 1 + 1, oa) :: (L + 1 + 1 + 1, oc) :: (L + 1 + 1, od) :: (L + 1, on) ::  led) → Rows (fun j v _ => ∃ x t, xs[j]? = some x ∧ v = .int (whl n x) t) xs.length wvs led → (∀ p ∈ (L + 1 + 1 + 1 + 1 + 1 + 1 + 1, ob) :: (L + 1 + 1 + 1 + 1 + 1 + 1, om) :: (L + 1 + 1 + 1 + 1 + 1, ov) :: (L + 1 + 1 + 1 + 1, oa) :: (L + 1 + 1 + 1, oc) :: (L + 1 + 1, od) :: (L + 1, on) ::  led, p.1 ≠ lw) → Q .next { s with heap := h', toks := tk' }) :
    wpAny (model prog w) (Ar dp un gd [(envOfC (Str.ofString "law") (lawScope w.params) L fa cd)]) (exec (lawS5 w.params) (envOfC (Str.ofString "law") (lawScope w.params) L fa cd)) Q (fun _ _ => False) s := by
  dsimp only [lawS5, lawScope]
  (k_dflt (refine Assign_ListComp_U (F₀ := F) (by rfl) (by with_unfolding_all rfl) (by with_unfolding_all rfl) (by decide) (by rfl) (by decide) (by rfl) (by rfl) (by rfl) ?_))
  k_steps
  have hm : (lc, PySem.W.listOf cvs.toArray nc) ∈ (L + 1 + 1 + 1 + 1 + 1 + 1 + 1, ob) :: (L + 1 + 1 + 1 + 1 + 1 + 1, om) :: (L + 1 + 1 + 1 + 1 + 1, ov) :: (L + 1 + 1 + 1 + 1, oa) :: (L + 1 + 1 + 1, oc) :: (L + 1 + 1, od) :: (L + 1, on) ::  led := by repeat (first | exact hlc | refine List.Mem.tail _ ?_)
  have e : cvs.toArray.size = xs.length := by simp [hC.len]
  refine LCg.CompSrc.ledger (k := nc) (by rfl) F N hm (by rw [e]; exact Nat.le_trans hk (Nat.le_of_ble_eq_true rfl)) fun g => ?_
  rw [e]
  refine compRest_inv xs.length (fun i ys news => news = (L + 1 + 1 + 1 + 1 + 1 + 1 + 1, ob) :: (L + 1 + 1 + 1 + 1 + 1 + 1, om) :: (L + 1 + 1 + 1 + 1 + 1, ov) :: (L + 1 + 1 + 1 + 1, oa) :: (L + 1 + 1 + 1, oc) :: (L + 1 + 1, od) :: (L + 1, on) ::  led ∧ Rows (fun j v _ => ∃ x t, xs[j]? = some x ∧ v = .int (whl n x) t) i ys led) ⟨rfl, .nil⟩ ?_ ?_
  · intro i ys news v I oI C oC D m₂ h' tk E' hi hlen hJ hv hC' hx F' N' off ne
    obtain ⟨rfl, hR⟩ := hJ
    have hv' : cvs[i]? = some v := by simpa using hv
    obtain ⟨x, a, t0, t1, t2, na, hxi, rfl, hma⟩ := hC.all i v hv'
    obtain ⟨k0, k1, k2⟩ := c_le x
    have hn0 : 0 ≤ n := by omega
    have hn9 : n ≤ 1000 := by omega
    have hp1 := pow37 hn37
    have hp0 := pow6 hn6
    have q2 := two1000
    have q1 := big_ok (a := c2 x) (B := 2 ^ n.toNat) (by omega) (by omega) (by omega) hp1
    have hb : (c2 x).natAbs < 2 ^ 1000 := by have : (2 : Nat) ^ 3 ≤ 2 ^ 1000 := Nat.pow_le_pow_right (by decide) (by decide); omega
    have hb2 : (c2 x * 2 ^ n.toNat + c1 x).natAbs < 2 ^ 1000 := by
      have : (2 : Nat) ^ 50 ≤ 2 ^ 1000 := Nat.pow_le_pow_right (by decide) (by decide)
      omega
    have hsub : ∀ p ∈ led, p ∈ (I, oI) :: (C, oC) :: (D, lst ys) :: (L + 1 + 1 + 1 + 1 + 1 + 1 + 1, ob) :: (L + 1 + 1 + 1 + 1 + 1 + 1, om) :: (L + 1 + 1 + 1 + 1 + 1, ov) :: (L + 1 + 1 + 1 + 1, oa) :: (L + 1 + 1 + 1, oc) :: (L + 1 + 1, od) :: (L + 1, on) ::  led := fun p hp => by repeat (first | exact hp | refine List.Mem.tail _ ?_)
    have hma' := hsub _ hma
    have hne := ne
    k_steps
    k_dflt (refine' use (d2i3 w.params a n (c0 x) (c1 x) (c2 x) t0 t1 t2 _ hn0 hn9 hb hb2) ?uB ?uF ?uN ?uX ?uT ?uA ?uf ?uk ?ud ?uu ?up ?_)
    (case uB => k_asm)
    (case uF => k_asm)
    (case uN => k_asm)
    (case uX => k_asm)
    (case uT => k_asm)
    (case uA => exact rfl)
    (case uf => exact rfl)
    (case uk => exact rfl)
    (case ud => first | with_reducible exact Mine.dU0 (by assumption) | with_reducible exact Mine.dU1 (by assumption) (by decide) | with_reducible exact Mine.dU2 (by assumption) (by decide) | omega | (dsimp only;  omega))
    (case uu => first | with_reducible exact Mine.dU0 (by assumption) | with_reducible exact Mine.dU1 (by assumption) (by decide) | with_reducible exact Mine.dU2 (by assumption) (by decide) | omega | (dsimp only;  omega))
    (case up => exact ⟨TD.at hT N' hsub, isListOf N' hma'⟩)
    intro v' h'' tk' new' F'' N'' ap' P'
    obtain ⟨t1', rfl, rfl⟩ := P'
    simp only [List.cons_append, List.nil_append] at N'' ap'

    exact CompEnd.intro F'' N'' _ (fun p hp => hp) off (.inr ⟨_, hm, rfl, _, rfl⟩) ⟨rfl, hR.snoc (fun _ _ y => y) ⟨x, _, hxi, rfl⟩⟩
  · rintro ys news hl ⟨rfl, hR⟩ D h' tk F' N' o
    exact h h' tk D ys F' N' hR (off1_mem o)
end Mine
end
/-! part L7 -/
section
open PySem PySem.W PyProof.Rows PySem.Calls PySem.Spec
set_option Elab.async false
set_option maxRecDepth 100000
set_option maxHeartbeats 1000000
set_option linter.unusedSimpArgs false
set_option linter.unusedVariables false
namespace Mine
open LCg
theorem kw69 : True := by
  w_top off
  k_with_none
  k_with "mine ne" => first | (with_reducible first | assumption | (refine Ne.symm ?_; assumption)) | (with_reducible ((repeat (first | (rename ((_ ≠ _ ∧ _) ∧ _) => hZk; obtain ⟨_, _⟩ := hZk) | (rename (_ ≠ _ ∧ _) => hZk; obtain ⟨_, _⟩ := hZk))); first | assumption | (refine Ne.symm ?_; assumption))) | ((repeat (refine Mine.aS ?_)); (first | refine Nat.ne_of_lt ?_ | refine Nat.ne_of_gt ?_); (repeat (first | exact Mine.lA _ | refine Mine.lB ?_)); done) | (with_reducible ((repeat (rename (@LT.lt _ _ _ _ ∧ _) => hZk; obtain ⟨_, _⟩ := hZk)); first | (refine Nat.ne_of_lt ?_; assumption) | (refine Nat.ne_of_gt ?_; assumption)))
  k_with "eval Name" => (k_here; k_dflt (refine' nameX_L ?k1Zk ?k2Zk ?_ ?kaZk ?kbZk; (case kaZk => rfl); (case kbZk => rfl); (case k1Zk => k_asm); (case k2Zk => with_unfolding_all assumption); k_whole))
  trivial
local macro_rules | `(tactic| k_all) => `(tactic| with_reducible assumption)
local macro_rules | `(tactic| k_mem) => `(tactic| with_reducible assumption)

/-- the pairs' list; tuples that the ledger bears -/
def RP (n : Int) (xs : List Int) (j : Nat) (v : Value) (led : List (Addr × Obj)) : Prop := ∃ x a t1 t2, xs[j]? = some x ∧ v = .ref a ∧ (a, tup2i (quoN n x) (rstN n x) t1 t2) ∈ led
theorem RP.mono {n : Int} {xs : List Int} {l l' : List (Addr × Obj)} (hs : ∀ p ∈ l, p ∈ l') (j : Nat) (v : Value) (h : RP n xs j v l) : RP n xs j v l' := h.imp fun x => .imp fun a => .imp fun t1 => .imp fun t2 e => ⟨e.1, e.2.1, hs _ e.2.2⟩
theorem AllNe.mem {d : Addr} : ∀ {l : List (Addr × Obj)}, AllNe d l → ∀ p ∈ l, p.1 ≠ d
  | [], _, _, h => nomatch h
  | q :: r, x, p, h => by
    rcases List.mem_cons.mp h with rfl | h
    · exact x.1
    · exact AllNe.mem x.2 p h
theorem off3_add {I C D a : Addr} {o oI oC oD : Obj} {l r : List (Addr × Obj)} (h : Off3 I C D l) (hs : ∀ p ∈ r, p ∈ l ∨ p = (a, o)) (hn : ∀ q ∈ (I, oI) :: (C, oC) :: (D, oD) :: l, q.1 ≠ a) : Off3 I C D r :=
  Off3.of fun p hp => by
    rcases hs p hp with h' | rfl
    · exact h.mem p h'
    · exact ⟨Ne.symm (hn _ (.head _)), Ne.symm (hn _ (.tail _ (.head _))), Ne.symm (hn _ (.tail _ (.tail _ (.head _))))⟩
theorem reord1 {e I C D : Addr × Obj} {cs R : List (Addr × Obj)} : ∀ p ∈ I :: C :: D :: (cs ++ (e :: R)), p ∈ e :: I :: C :: D :: (cs ++ R) := by
  intro p hp
  simp only [List.mem_cons, List.mem_append] at hp ⊢
  rcases hp with h | h | h | h | h | h <;> simp [h]
theorem reord2 {e : Addr × Obj} {cs R : List (Addr × Obj)} : ∀ p ∈ cs ++ (e :: R), p ∈ cs ++ R ∨ p = e := by
  intro p hp
  simp only [List.mem_cons, List.mem_append] at hp ⊢
  rcases hp with h | h | h <;> simp [h]
theorem reord3 {I C D : Addr × Obj} {cs R : List (Addr × Obj)} : ∀ p ∈ cs, p ∈ I :: C :: D :: (cs ++ R) := by
  intro p hp
  simp only [List.mem_cons, List.mem_append]
  simp [hp]
theorem stm7 {prog : Program} {w : World} {dp un : Nat} {gd : Option (List Code)} {base h₀ : Heap} {p : Program} {loose : List Str} {mean : ExcName → Option Value} {mg mb : Str → Option Value} {A₀ : Around} {s : Shared} {L fa : Addr} {cd : Value} {m : Str → Option Value} {Q : Flow → Shared → Prop} {ob om ov oa oc od on : Obj}
    (B : Below A₀ base [] h₀) (X : (hd.heap_39 w.params).In h₀) (T : Top p loose mean mg mb h₀) (hdp : dp + 100 < 1000) (hun : un + 1000 < 9900)
    {led : List (Addr × Obj)} {lw : Addr} {wvs : List Value} {xs : List Int} {n : Int} {tn td : Tok}
    (F : Fr h₀ L s.heap m) (N : News h₀ L s.heap ((L + 1 + 1 + 1 + 1 + 1 + 1 + 1, ob) :: (L + 1 + 1 + 1 + 1 + 1 + 1, om) :: (L + 1 + 1 + 1 + 1 + 1, ov) :: (L + 1 + 1 + 1 + 1, oa) :: (L + 1 + 1 + 1, oc) :: (L + 1 + 1, od) :: (L + 1, on) ::  led))
    (hod : od.data = .cell (some (.int (dvs n) td))) (hn6 : 6 ≤ n) (hn37 : n ≤ 37) (hm : m (Str.ofString "wholes") = some (.ref lw)) (hlw : (lw, lst wvs) ∈ led) (hW : Rows (fun j v _ => ∃ x t, xs[j]? = some x ∧ v = .int (whl n x) t) xs.length wvs led) (hk : xs.length ≤ 5) (hTD : TD w.params led) (hTI : TI w.params led)
    (h : ∀ h' tk' lp pvs R, Fr h₀ L h' (fun z => if z = Str.ofString "pairs" then some (.ref lp) else m z) → News h₀ L h' ((lp, lst pvs) :: (L + 1 + 1 + 1 + 1 + 1 + 1 + 1, ob) :: (L + 1 + 1 + 1 + 1 + 1 + 1, om) :: (L + 1 + 1 + 1 + 1 + 1, ov) :: (L + 1 + 1 + 1 + 1, oa) :: (L + 1 + 1 + 1, oc) :: (L + 1 + 1, od) :: (L + 1, on) ::  R) → (∀ p ∈ led, p ∈ R) → Rows (RP n xs) xs.length pvs R → (∀ p ∈ (L + 1 + 1 + 1 + 1 + 1 + 1 + 1, ob) :: (L + 1 + 1 + 1 + 1 + 1 + 1, om) :: (L + 1 + 1 + 1 + 1 + 1, ov) :: (L + 1 + 1 + 1 + 1, oa) :: (L + 1 + 1 + 1, oc) :: (L + 1 + 1, od) :: (L + 1, on) ::  R, p.1 ≠ lp) → (∀ p ∈ R, p ∈ led ∨ ∀ q ∈ (L + 1 + 1 + 1 + 1 + 1 + 1 + 1, ob) :: (L + 1 + 1 + 1 + 1 + 1 + 1, om) :: (L + 1 + 1 + 1 + 1 + 1, ov) :: (L + 1 + 1 + 1 + 1, oa) :: (L + 1 + 1 + 1, oc) :: (L + 1 + 1, od) :: (L + 1, on) ::  [], p.1 ≠ q.1) → Q .next { s with heap := h', toks := tk' }) :
    wpAny (model prog w) (Ar dp un gd [(envOfC (Str.ofString "law") (lawScope w.params) L fa cd)]) (exec (lawS7 w.params) (envOfC (Str.ofString "law") (lawScope w.params) L fa cd)) Q (fun _ _ => False) s := by
  dsimp only [lawS7, lawScope]
  (k_dflt (refine Assign_ListComp_U (F₀ := F) (by rfl) (by with_unfolding_all rfl) (by with_unfolding_all rfl) (by decide) (by rfl) (by decide) (by rfl) (by rfl) (by rfl) ?_))
  k_steps
  have hmm : (lw, lst wvs) ∈ (L + 1 + 1 + 1 + 1 + 1 + 1 + 1, ob) :: (L + 1 + 1 + 1 + 1 + 1 + 1, om) :: (L + 1 + 1 + 1 + 1 + 1, ov) :: (L + 1 + 1 + 1 + 1, oa) :: (L + 1 + 1 + 1, oc) :: (L + 1 + 1, od) :: (L + 1, on) ::  led := by repeat (first | exact hlw | refine List.Mem.tail _ ?_)
  have e : wvs.toArray.size = xs.length := by simp [hW.len]
  refine LCg.CompSrc.ledger (k := wvs.length) (by rfl) F N hmm (by rw [e]; exact Nat.le_trans hk (Nat.le_of_ble_eq_true rfl)) fun g => ?_
  rw [e]
  refine compRest_inv xs.length (fun i ys news => ∃ R, news = (L + 1 + 1 + 1 + 1 + 1 + 1 + 1, ob) :: (L + 1 + 1 + 1 + 1 + 1 + 1, om) :: (L + 1 + 1 + 1 + 1 + 1, ov) :: (L + 1 + 1 + 1 + 1, oa) :: (L + 1 + 1 + 1, oc) :: (L + 1 + 1, od) :: (L + 1, on) ::  R ∧ (∀ p ∈ led, p ∈ R) ∧ Rows (RP n xs) i ys R ∧ (∀ p ∈ R, p ∈ led ∨ ∀ q ∈ (L + 1 + 1 + 1 + 1 + 1 + 1 + 1, ob) :: (L + 1 + 1 + 1 + 1 + 1 + 1, om) :: (L + 1 + 1 + 1 + 1 + 1, ov) :: (L + 1 + 1 + 1 + 1, oa) :: (L + 1 + 1 + 1, oc) :: (L + 1 + 1, od) :: (L + 1, on) ::  [], p.1 ≠ q.1)) ⟨led, rfl, fun _ h => h, .nil, fun _ h => .inl h⟩ ?_ ?_
  · intro i ys news v I oI C oC D m₂ h' tk E' hi hlen hJ hv hC' hx F' N' off ne
    obtain ⟨R, rfl, hsub, hR, hoR⟩ := hJ
    have hv' : wvs[i]? = some v := by simpa using hv
    obtain ⟨x, tx, hxi, rfl⟩ := hW.all i v hv'
    obtain ⟨w0, w1⟩ := whl_le hn6 x
    obtain ⟨d0, d1⟩ := dvs_lt hn6 hn37
    obtain ⟨s0, s1⟩ := sq_ok (D := dvs n) (a := whl n x) d0 (by omega)
    have hD := dvs_pos hn6
    have hRs : ∀ p ∈ R, p ∈ (I, oI) :: (C, oC) :: (D, lst ys) :: (L + 1 + 1 + 1 + 1 + 1 + 1 + 1, ob) :: (L + 1 + 1 + 1 + 1 + 1 + 1, om) :: (L + 1 + 1 + 1 + 1 + 1, ov) :: (L + 1 + 1 + 1 + 1, oa) :: (L + 1 + 1 + 1, oc) :: (L + 1 + 1, od) :: (L + 1, on) ::  R := fun p hp => by repeat (first | exact hp | refine List.Mem.tail _ ?_)
    have hT : Tabs w.params h' := tabsOf (hTD.sub hsub) (hTI.sub hsub) N' hRs
    k_steps
    k_dflt (refine' use (idm w.params (whl n x) (dvs n) tx td hD d1 s0 s1) ?uB ?uF ?uN ?uX ?uT ?uA ?uf ?uk ?ud ?uu ?up ?_)
    (case uB => k_asm)
    (case uF => k_asm)
    (case uN => k_asm)
    (case uX => k_asm)
    (case uT => k_asm)
    (case uA => exact rfl)
    (case uf => exact rfl)
    (case uk => exact rfl)
    (case ud => first | with_reducible exact Mine.dU0 (by assumption) | with_reducible exact Mine.dU1 (by assumption) (by decide) | with_reducible exact Mine.dU2 (by assumption) (by decide) | omega | (dsimp only;  omega))
    (case uu => first | with_reducible exact Mine.dU0 (by assumption) | with_reducible exact Mine.dU1 (by assumption) (by decide) | with_reducible exact Mine.dU2 (by assumption) (by decide) | omega | (dsimp only;  omega))
    (case up => exact hT)
    intro v' h'' tk' new' F'' N'' ap' P'
    obtain ⟨a', t1', t2', rfl, rfl⟩ := P'
    simp only [List.cons_append, List.nil_append] at N'' ap'

    have ap := apart1 ap'
    refine CompEnd.intro F'' N'' ((L + 1 + 1 + 1 + 1 + 1 + 1 + 1, ob) :: (L + 1 + 1 + 1 + 1 + 1 + 1, om) :: (L + 1 + 1 + 1 + 1 + 1, ov) :: (L + 1 + 1 + 1 + 1, oa) :: (L + 1 + 1 + 1, oc) :: (L + 1 + 1, od) :: (L + 1, on) ::  ((a', tup2i (quoN n x) (rstN n x) t1' t2') :: R)) (fun p hp => ?_) (off3_add off (a := a') (o := tup2i (quoN n x) (rstN n x) t1' t2') (fun p hp => ?_) (AllNe.mem ap)) (.inr ⟨lst wvs, ?_, rfl, wvs.length, rfl⟩) ⟨(a', tup2i (quoN n x) (rstN n x) t1' t2') :: R, rfl, fun p hp => .tail _ (hsub p hp), (hR.mono (RP.mono fun p hp => .tail _ hp)).snoc (fun _ _ y => y) ⟨x, a', t1', t2', hxi, rfl, .head _⟩, fun p hp => ?_⟩
    · exact reord1 (cs := (L + 1 + 1 + 1 + 1 + 1 + 1 + 1, ob) :: (L + 1 + 1 + 1 + 1 + 1 + 1, om) :: (L + 1 + 1 + 1 + 1 + 1, ov) :: (L + 1 + 1 + 1 + 1, oa) :: (L + 1 + 1 + 1, oc) :: (L + 1 + 1, od) :: (L + 1, on) ::  []) p hp
    · exact reord2 (cs := (L + 1 + 1 + 1 + 1 + 1 + 1 + 1, ob) :: (L + 1 + 1 + 1 + 1 + 1 + 1, om) :: (L + 1 + 1 + 1 + 1 + 1, ov) :: (L + 1 + 1 + 1 + 1, oa) :: (L + 1 + 1 + 1, oc) :: (L + 1 + 1, od) :: (L + 1, on) ::  []) p hp
    · have := hsub _ hlw
      repeat (first | exact this | refine List.Mem.tail _ ?_)
    · rcases List.mem_cons.mp hp with rfl | hp
      · exact .inr fun q hq => Ne.symm (AllNe.mem ap q (reord3 (cs := (L + 1 + 1 + 1 + 1 + 1 + 1 + 1, ob) :: (L + 1 + 1 + 1 + 1 + 1 + 1, om) :: (L + 1 + 1 + 1 + 1 + 1, ov) :: (L + 1 + 1 + 1 + 1, oa) :: (L + 1 + 1 + 1, oc) :: (L + 1 + 1, od) :: (L + 1, on) ::  []) q hq))
      · exact hoR p hp
  · rintro ys news hl ⟨R, rfl, hsub, hR, hoR⟩ D h' tk F' N' o
    exact h h' tk D ys R F' N' hsub hR (off1_mem o) hoR
end Mine
end
/-! part L8 -/
section
open PySem PySem.W PyProof.Rows PySem.Calls PySem.Spec
set_option Elab.async false
set_option maxRecDepth 100000
set_option maxHeartbeats 1000000
set_option linter.unusedSimpArgs false
set_option linter.unusedVariables false
namespace Mine
open LCg
theorem kw70 : True := by
  w_top off
  k_with_none
  k_with "mine ne" => first | (with_reducible first | assumption | (refine Ne.symm ?_; assumption)) | (with_reducible ((repeat (first | (rename ((_ ≠ _ ∧ _) ∧ _) => hZk; obtain ⟨_, _⟩ := hZk) | (rename (_ ≠ _ ∧ _) => hZk; obtain ⟨_, _⟩ := hZk))); first | assumption | (refine Ne.symm ?_; assumption))) | ((repeat (refine Mine.aS ?_)); (first | refine Nat.ne_of_lt ?_ | refine Nat.ne_of_gt ?_); (repeat (first | exact Mine.lA _ | refine Mine.lB ?_)); done) | (with_reducible ((repeat (rename (@LT.lt _ _ _ _ ∧ _) => hZk; obtain ⟨_, _⟩ := hZk)); first | (refine Nat.ne_of_lt ?_; assumption) | (refine Nat.ne_of_gt ?_; assumption)))
  k_with "eval Name" => (k_here; k_dflt (refine' nameX_L ?k1Zk ?k2Zk ?_ ?kaZk ?kbZk; (case kaZk => rfl); (case kbZk => rfl); (case k1Zk => k_asm); (case k2Zk => with_unfolding_all assumption); k_whole))
  trivial
local macro_rules | `(tactic| k_all) => `(tactic| with_reducible assumption)
local macro_rules | `(tactic| k_mem) => `(tactic| with_reducible assumption)

theorem kw71 : True := by
  k_with "eval ListComp" => (k_here; (with_reducible show wpAny _ _ (eval (PySem.Expr.ListComp _ [⟨PySem.Expr.Name _ _, _, _, _⟩] _ _) _) _ _ _); k_dflt (refine LCg.ListComp_U (F₀ := by k_asm) (by with_unfolding_all rfl) (by decide) (by rfl) (by decide) (by rfl) ?_))
  trivial
abbrev tup3r (a b c : Addr) : Obj := { cls := .type "tuple", data := .seq #[.ref a, .ref b, .ref c] }
/-- the views' list -/
def RV (xs : List Int) (j : Nat) (v : Value) (led : List (Addr × Obj)) : Prop := ∃ x a b c d t1 t2 t3 t4 t5 t6, xs[j]? = some x ∧ v = .ref a ∧ (a, tup3r b c d) ∈ led ∧
  (b, tup2i (5990 * (c0 x - c2 x) - 2773 * (c1 x - c2 x)) (2130 * (c0 x - c2 x) - 5251 * (c1 x - c2 x)) t1 t2) ∈ led ∧ (c, tup2i (hueT (c0 x - c2 x) (c1 x - c2 x)) (sprT (c0 x - c2 x) (c1 x - c2 x)) t3 t4) ∈ led ∧ (d, tup2i (hueT (c0 x - c2 x) (c1 x - c2 x)) (sprT (c0 x - c2 x) (c1 x - c2 x)) t5 t6) ∈ led
theorem RV.mono {xs : List Int} {l l' : List (Addr × Obj)} (hs : ∀ p ∈ l, p ∈ l') (j : Nat) (v : Value) (h : RV xs j v l) : RV xs j v l' :=
  h.imp fun x => .imp fun a => .imp fun b => .imp fun c => .imp fun d => .imp fun t1 => .imp fun t2 => .imp fun t3 => .imp fun t4 => .imp fun t5 => .imp fun t6 e => ⟨e.1, e.2.1, hs _ e.2.2.1, hs _ e.2.2.2.1, hs _ e.2.2.2.2.1, hs _ e.2.2.2.2.2⟩
theorem re8 {α : Type} {I C D T b1 b2 b3 p : α} {cs R : List α} (h : p ∈ I :: C :: D :: (cs ++ (T :: b1 :: b2 :: b3 :: R))) : p ∈ T :: b3 :: b2 :: b1 :: I :: C :: D :: (cs ++ R) := by
  simp only [List.mem_cons, List.mem_append] at h ⊢
  rcases h with h | h | h | h | h | h | h | h | h <;> simp [h]
theorem end8 {xs : List Int} {h₀ h' : Heap} {L I C D T b1 b2 b3 lc : Addr} {m : Str → Option Value} {s : Shared} {tk' i nc : Nat} {oI oC o1 o2 o3 : Obj} {ys cvs : List Value} {led R cs : List (Addr × Obj)} {x : Int} {u1 u2 u3 u4 u5 u6 : Tok}
    (F : Fr h₀ L h' m) (N : News h₀ L h' ((T, tup3r b1 b2 b3) :: (b3, tup2i (hueT (c0 x - c2 x) (c1 x - c2 x)) (sprT (c0 x - c2 x) (c1 x - c2 x)) u5 u6) :: (b2, tup2i (hueT (c0 x - c2 x) (c1 x - c2 x)) (sprT (c0 x - c2 x) (c1 x - c2 x)) u3 u4) ::
      (b1, tup2i (5990 * (c0 x - c2 x) - 2773 * (c1 x - c2 x)) (2130 * (c0 x - c2 x) - 5251 * (c1 x - c2 x)) u1 u2) :: (I, oI) :: (C, oC) :: (D, lst ys) :: (cs ++ R))) (off : Off3 I C D (cs ++ R))
    (a1 : ∀ p ∈ (I, oI) :: (C, oC) :: (D, lst ys) :: (cs ++ R), p.1 ≠ b1) (a2 : ∀ p ∈ (b1, o1) :: (I, oI) :: (C, oC) :: (D, lst ys) :: (cs ++ R), p.1 ≠ b2) (a3 : ∀ p ∈ (b2, o2) :: (b1, o1) :: (I, oI) :: (C, oC) :: (D, lst ys) :: (cs ++ R), p.1 ≠ b3)
    (hl : AllLt T ((b3, o3) :: (b2, o2) :: (b1, o1) :: (I, oI) :: (C, oC) :: (D, lst ys) :: (cs ++ R))) (hmm : (lc, PySem.W.listOf cvs.toArray nc) ∈ cs ++ led) (hsub : ∀ p ∈ led, p ∈ R) (hR : Rows (RV xs) i ys R) (hoR : ∀ p ∈ R, p ∈ led ∨ ∀ q ∈ cs, p.1 ≠ q.1) (hx : xs[i]? = some x) (hlc : (lc, PySem.W.listOf cvs.toArray nc) ∈ led) :
    CompEnd h₀ L m s I oI C oC D (lst ys) (SrcAt h₀ lc cvs.toArray) (fun y news' => ∃ R, news' = cs ++ R ∧ (∀ p ∈ led, p ∈ R) ∧ Rows (RV xs) (i + 1) (ys ++ [y]) R ∧ (∀ p ∈ R, p ∈ led ∨ ∀ q ∈ cs, p.1 ≠ q.1)) (.ref T) { s with heap := h', toks := tk' } := by
  have hlt := AllLt.mem hl
  have sub : ∀ {p : Addr × Obj}, p ∈ R → p ∈ (T, tup3r b1 b2 b3) :: (b1, tup2i (5990 * (c0 x - c2 x) - 2773 * (c1 x - c2 x)) (2130 * (c0 x - c2 x) - 5251 * (c1 x - c2 x)) u1 u2) :: (b2, tup2i (hueT (c0 x - c2 x) (c1 x - c2 x)) (sprT (c0 x - c2 x) (c1 x - c2 x)) u3 u4) :: (b3, tup2i (hueT (c0 x - c2 x) (c1 x - c2 x)) (sprT (c0 x - c2 x) (c1 x - c2 x)) u5 u6) :: R := fun hp => .tail _ (.tail _ (.tail _ (.tail _ hp)))
  have n1 : b1 ≠ I ∧ b1 ≠ C ∧ b1 ≠ D := ⟨Ne.symm (a1 _ (.head _)), Ne.symm (a1 _ (.tail _ (.head _))), Ne.symm (a1 _ (.tail _ (.tail _ (.head _))))⟩
  have n2 : b2 ≠ I ∧ b2 ≠ C ∧ b2 ≠ D := ⟨Ne.symm (a2 _ (.tail _ (.head _))), Ne.symm (a2 _ (.tail _ (.tail _ (.head _)))), Ne.symm (a2 _ (.tail _ (.tail _ (.tail _ (.head _)))))⟩
  have n3 : b3 ≠ I ∧ b3 ≠ C ∧ b3 ≠ D := ⟨Ne.symm (a3 _ (.tail _ (.tail _ (.head _)))), Ne.symm (a3 _ (.tail _ (.tail _ (.tail _ (.head _))))), Ne.symm (a3 _ (.tail _ (.tail _ (.tail _ (.tail _ (.head _))))))⟩
  have n4 : T ≠ I ∧ T ≠ C ∧ T ≠ D := ⟨Nat.ne_of_gt (hlt _ (.tail _ (.tail _ (.tail _ (.head _))))), Nat.ne_of_gt (hlt _ (.tail _ (.tail _ (.tail _ (.tail _ (.head _)))))), Nat.ne_of_gt (hlt _ (.tail _ (.tail _ (.tail _ (.tail _ (.tail _ (.head _)))))))⟩
  have inc : ∀ {q : Addr × Obj}, q ∈ cs → q ∈ cs ++ R := fun hq => List.mem_append_left _ hq
  refine CompEnd.intro F N (cs ++ ((T, tup3r b1 b2 b3) :: (b1, tup2i (5990 * (c0 x - c2 x) - 2773 * (c1 x - c2 x)) (2130 * (c0 x - c2 x) - 5251 * (c1 x - c2 x)) u1 u2) :: (b2, tup2i (hueT (c0 x - c2 x) (c1 x - c2 x)) (sprT (c0 x - c2 x) (c1 x - c2 x)) u3 u4) :: (b3, tup2i (hueT (c0 x - c2 x) (c1 x - c2 x)) (sprT (c0 x - c2 x) (c1 x - c2 x)) u5 u6) :: R))
    (fun p hp => ?_) (Off3.of fun p hp => ?_) (.inr ⟨PySem.W.listOf cvs.toArray nc, ?_, rfl, nc, rfl⟩) ⟨_, rfl, fun p hp => sub (hsub p hp), (hR.mono (RV.mono fun p hp => sub hp)).snoc (fun _ _ y => y) ⟨x, T, b1, b2, b3, u1, u2, u3, u4, u5, u6, hx, rfl, .head _, .tail _ (.head _), .tail _ (.tail _ (.head _)), .tail _ (.tail _ (.tail _ (.head _)))⟩, fun p hp => ?_⟩
  · exact re8 hp
  · rcases List.mem_append.mp hp with hp | hp
    · exact off.mem p (inc hp)
    · rcases List.mem_cons.mp hp with rfl | hp
      · exact n4
      rcases List.mem_cons.mp hp with rfl | hp
      · exact n1
      rcases List.mem_cons.mp hp with rfl | hp
      · exact n2
      rcases List.mem_cons.mp hp with rfl | hp
      · exact n3
      · exact off.mem p (List.mem_append_right _ hp)
  · exact List.mem_append_right _ (sub (hsub _ hlc))
  · rcases List.mem_cons.mp hp with rfl | hp
    · exact .inr fun q hq => Nat.ne_of_gt (hlt q (.tail _ (.tail _ (.tail _ (.tail _ (.tail _ (.tail _ (inc hq))))))))
    rcases List.mem_cons.mp hp with rfl | hp
    · exact .inr fun q hq => Ne.symm (a1 q (.tail _ (.tail _ (.tail _ (inc hq)))))
    rcases List.mem_cons.mp hp with rfl | hp
    · exact .inr fun q hq => Ne.symm (a2 q (.tail _ (.tail _ (.tail _ (.tail _ (inc hq))))))
    rcases List.mem_cons.mp hp with rfl | hp
    · exact .inr fun q hq => Ne.symm (a3 q (.tail _ (.tail _ (.tail _ (.tail _ (.tail _ (inc hq)))))))
    · exact hoR p hp
theorem stm8 {prog : Program} {w : World} {dp un : Nat} {gd : Option (List Code)} {base h₀ : Heap} {p : Program} {loose : List Str} {mean : ExcName → Option Value} {mg mb : Str → Option Value} {A₀ : Around} {s : Shared} {L fa : Addr} {cd : Value} {m : Str → Option Value} {Q : Flow → Shared → Prop} {ob om ov oa oc od on : Obj}
    (B : Below A₀ base [] h₀) (X : (hd.heap_39 w.params).In h₀) (T : Top p loose mean mg mb h₀) (hdp : dp + 100 < 1000) (hun : un + 1000 < 9900)
    {led : List (Addr × Obj)} {lc : Addr} {cvs : List Value} {nc : Nat} {xs : List Int}
    (F : Fr h₀ L s.heap m) (N : News h₀ L s.heap ((L + 1 + 1 + 1 + 1 + 1 + 1 + 1, ob) :: (L + 1 + 1 + 1 + 1 + 1 + 1, om) :: (L + 1 + 1 + 1 + 1 + 1, ov) :: (L + 1 + 1 + 1 + 1, oa) :: (L + 1 + 1 + 1, oc) :: (L + 1 + 1, od) :: (L + 1, on) ::  led)) (hov : ov.data = .cell none)
    (hoc : oc.data = .cell (some (.ref lc))) (hlc : (lc, PySem.W.listOf cvs.toArray nc) ∈ led) (hC : Rows (RC xs) xs.length cvs led) (hk : xs.length ≤ 5) (hoff : ∀ p ∈ led, p.1 ≠ L + 1 + 1 + 1 + 1 + 1)
    (h : ∀ h' tk' lv vvs R ov', Fr h₀ L h' m → News h₀ L h' ((lv, lst vvs) :: (L + 1 + 1 + 1 + 1 + 1 + 1 + 1, ob) :: (L + 1 + 1 + 1 + 1 + 1 + 1, om) :: (L + 1 + 1 + 1 + 1 + 1, ov') :: (L + 1 + 1 + 1 + 1, oa) :: (L + 1 + 1 + 1, oc) :: (L + 1 + 1, od) :: (L + 1, on) :: R) → ov'.data = .cell (some (.ref lv)) →
      (∀ p ∈ led, p ∈ R) → Rows (RV xs) xs.length vvs R → (∀ p ∈ (L + 1 + 1 + 1 + 1 + 1 + 1 + 1, ob) :: (L + 1 + 1 + 1 + 1 + 1 + 1, om) :: (L + 1 + 1 + 1 + 1 + 1, ov) :: (L + 1 + 1 + 1 + 1, oa) :: (L + 1 + 1 + 1, oc) :: (L + 1 + 1, od) :: (L + 1, on) ::  R, p.1 ≠ lv) → (∀ p ∈ R, p ∈ led ∨ ∀ q ∈ (L + 1 + 1 + 1 + 1 + 1 + 1 + 1, ob) :: (L + 1 + 1 + 1 + 1 + 1 + 1, om) :: (L + 1 + 1 + 1 + 1 + 1, ov) :: (L + 1 + 1 + 1 + 1, oa) :: (L + 1 + 1 + 1, oc) :: (L + 1 + 1, od) :: (L + 1, on) ::  [], p.1 ≠ q.1) → Q .next { s with heap := h', toks := tk' }) :
    wpAny (model prog w) (Ar dp un gd [(envOfC (Str.ofString "law") (lawScope w.params) L fa cd)]) (exec (lawS8 w.params) (envOfC (Str.ofString "law") (lawScope w.params) L fa cd)) Q (fun _ _ => False) s := by
  dsimp only [lawS8, lawScope]
  k_steps
  have hmm : (lc, PySem.W.listOf cvs.toArray nc) ∈ (L + 1 + 1 + 1 + 1 + 1 + 1 + 1, ob) :: (L + 1 + 1 + 1 + 1 + 1 + 1, om) :: (L + 1 + 1 + 1 + 1 + 1, ov) :: (L + 1 + 1 + 1 + 1, oa) :: (L + 1 + 1 + 1, oc) :: (L + 1 + 1, od) :: (L + 1, on) ::  led := by repeat (first | exact hlc | refine List.Mem.tail _ ?_)
  have e : cvs.toArray.size = xs.length := by simp [hC.len]
  refine LCg.CompSrc.ledger (k := nc) (by rfl) F N hmm (by rw [e]; exact Nat.le_trans hk (Nat.le_of_ble_eq_true rfl)) fun g => ?_
  rw [e]
  refine compRest_inv xs.length (fun i ys news => ∃ R, news = (L + 1 + 1 + 1 + 1 + 1 + 1 + 1, ob) :: (L + 1 + 1 + 1 + 1 + 1 + 1, om) :: (L + 1 + 1 + 1 + 1 + 1, ov) :: (L + 1 + 1 + 1 + 1, oa) :: (L + 1 + 1 + 1, oc) :: (L + 1 + 1, od) :: (L + 1, on) ::  R ∧ (∀ p ∈ led, p ∈ R) ∧ Rows (RV xs) i ys R ∧ (∀ p ∈ R, p ∈ led ∨ ∀ q ∈ (L + 1 + 1 + 1 + 1 + 1 + 1 + 1, ob) :: (L + 1 + 1 + 1 + 1 + 1 + 1, om) :: (L + 1 + 1 + 1 + 1 + 1, ov) :: (L + 1 + 1 + 1 + 1, oa) :: (L + 1 + 1 + 1, oc) :: (L + 1 + 1, od) :: (L + 1, on) ::  [], p.1 ≠ q.1)) ⟨led, rfl, fun _ h => h, .nil, fun _ h => .inl h⟩ ?_ ?_
  · intro i ys news v I oI C oC D m₂ h' tk E' hi hlen hJ hv hC' hx F' N' off ne
    obtain ⟨R, rfl, hsub, hR, hoR⟩ := hJ
    have hv' : cvs[i]? = some v := by simpa using hv
    obtain ⟨x, a, t0, t1, t2, na, hxi, rfl, hma⟩ := hC.all i v hv'
    have hma := hsub _ hma
    have hRs : ∀ p ∈ R, p ∈ (I, oI) :: (C, oC) :: (D, lst ys) :: (L + 1 + 1 + 1 + 1 + 1 + 1 + 1, ob) :: (L + 1 + 1 + 1 + 1 + 1 + 1, om) :: (L + 1 + 1 + 1 + 1 + 1, ov) :: (L + 1 + 1 + 1 + 1, oa) :: (L + 1 + 1 + 1, oc) :: (L + 1 + 1, od) :: (L + 1, on) ::  R := fun p hp => by repeat (first | exact hp | refine List.Mem.tail _ ?_)
    k_steps
    have hil : h'.IsList a #[.int (c0 x) t0, .int (c1 x) t1, .int (c2 x) t2] := isListOf N' (hRs _ hma)
    k_dflt (refine' use (chromas a t0 t1 t2 (col x)) ?uB ?uF ?uN ?uX ?uT ?uA ?uf ?uk ?ud ?uu ?up ?_)
    (case uB => k_asm)
    (case uF => k_asm)
    (case uN => k_asm)
    (case uX => k_asm)
    (case uT => k_asm)
    (case uA => exact rfl)
    (case uf => exact rfl)
    (case uk => exact rfl)
    (case ud => first | with_reducible exact Mine.dU0 (by assumption) | with_reducible exact Mine.dU1 (by assumption) (by decide) | with_reducible exact Mine.dU2 (by assumption) (by decide) | omega | (dsimp only;  omega))
    (case uu => first | with_reducible exact Mine.dU0 (by assumption) | with_reducible exact Mine.dU1 (by assumption) (by decide) | with_reducible exact Mine.dU2 (by assumption) (by decide) | omega | (dsimp only;  omega))
    (case up => exact hil)
    intro v1 h1 tk1 new1 F1 N1 ap1 P1
    obtain ⟨b1, u1, u2, rfl, rfl⟩ := P1
    simp only [List.cons_append, List.nil_append] at N1 ap1

    have ap1 := AllNe.mem (apart1 ap1)
    have hil := isListOf N1 (List.mem_cons_of_mem _ (hRs _ hma))
    k_steps
    k_dflt (refine' use (light a t0 t1 t2 (col x)) ?uB ?uF ?uN ?uX ?uT ?uA ?uf ?uk ?ud ?uu ?up ?_)
    (case uB => k_asm)
    (case uF => k_asm)
    (case uN => k_asm)
    (case uX => k_asm)
    (case uT => k_asm)
    (case uA => exact rfl)
    (case uf => exact rfl)
    (case uk => exact rfl)
    (case ud => first | with_reducible exact Mine.dU0 (by assumption) | with_reducible exact Mine.dU1 (by assumption) (by decide) | with_reducible exact Mine.dU2 (by assumption) (by decide) | omega | (dsimp only;  omega))
    (case uu => first | with_reducible exact Mine.dU0 (by assumption) | with_reducible exact Mine.dU1 (by assumption) (by decide) | with_reducible exact Mine.dU2 (by assumption) (by decide) | omega | (dsimp only;  omega))
    (case up => exact hil)
    intro v2 h2 tk2 new2 F2 N2 ap2 P2
    obtain ⟨b2, u3, u4, rfl, rfl⟩ := P2
    simp only [List.cons_append, List.nil_append] at N2 ap2

    have ap2 := AllNe.mem (apart1 ap2)
    have hil := isListOf N2 (List.mem_cons_of_mem _ (List.mem_cons_of_mem _ (hRs _ hma)))
    k_steps
    k_dflt (refine' use (value a t0 t1 t2 (col x)) ?uB ?uF ?uN ?uX ?uT ?uA ?uf ?uk ?ud ?uu ?up ?_)
    (case uB => k_asm)
    (case uF => k_asm)
    (case uN => k_asm)
    (case uX => k_asm)
    (case uT => k_asm)
    (case uA => exact rfl)
    (case uf => exact rfl)
    (case uk => exact rfl)
    (case ud => first | with_reducible exact Mine.dU0 (by assumption) | with_reducible exact Mine.dU1 (by assumption) (by decide) | with_reducible exact Mine.dU2 (by assumption) (by decide) | omega | (dsimp only;  omega))
    (case uu => first | with_reducible exact Mine.dU0 (by assumption) | with_reducible exact Mine.dU1 (by assumption) (by decide) | with_reducible exact Mine.dU2 (by assumption) (by decide) | omega | (dsimp only;  omega))
    (case up => exact hil)
    intro v3 h3 tk3 new3 F3 N3 ap3 P3
    obtain ⟨b3, u5, u6, rfl, rfl⟩ := P3
    simp only [List.cons_append, List.nil_append] at N3 ap3

    have ap3 := AllNe.mem (apart1 ap3)
    k_steps
    (rename Fr _ _ _ _ => Fz)
    (rename News _ _ _ _ => Nz)
    (rename _ ∧ _ => lz)
    exact end8 (cs := (L + 1 + 1 + 1 + 1 + 1 + 1 + 1, ob) :: (L + 1 + 1 + 1 + 1 + 1 + 1, om) :: (L + 1 + 1 + 1 + 1 + 1, ov) :: (L + 1 + 1 + 1 + 1, oa) :: (L + 1 + 1 + 1, oc) :: (L + 1 + 1, od) :: (L + 1, on) ::  []) (o3 := oI) Fz Nz off ap1 ap2 ap3 lz hmm hsub hR hoR hxi hlc
  · intro ys news hl hJ D h' tk F' N' o1
    obtain ⟨R, rfl, hsub, hR, hoR⟩ := hJ
    have hRo : ∀ p ∈ R, p.1 ≠ L + 1 + 1 + 1 + 1 + 1 := fun p hp => by
      rcases hoR p hp with h | h
      · exact hoff p h
      · exact h _ (.tail _ (.tail _ (.head _)))
    replace o1 := off1_mem o1
    have o2 := neN (Ne.symm (o1 _ (.tail _ (.tail _ (.head _)))))
    k_steps
    (rename Fr _ _ _ _ => Fz)
    (rename News _ _ _ _ => Nz)
    exact h _ _ _ ys R _ Fz Nz (by assumption) hsub hR o1 hoR
end Mine
end
/-! part L9 -/
section
open PySem PySem.W PyProof.Rows PySem.Calls PySem.Spec
set_option Elab.async false
set_option maxRecDepth 100000
set_option maxHeartbeats 1000000
set_option linter.unusedSimpArgs false
set_option linter.unusedVariables false
namespace Mine
open LCg
theorem kw72 : True := by
  w_top off
  k_with_none
  k_with "mine ne" => first | (with_reducible first | assumption | (refine Ne.symm ?_; assumption)) | (with_reducible ((repeat (first | (rename ((_ ≠ _ ∧ _) ∧ _) => hZk; obtain ⟨_, _⟩ := hZk) | (rename (_ ≠ _ ∧ _) => hZk; obtain ⟨_, _⟩ := hZk))); first | assumption | (refine Ne.symm ?_; assumption))) | ((repeat (refine Mine.aS ?_)); (first | refine Nat.ne_of_lt ?_ | refine Nat.ne_of_gt ?_); (repeat (first | exact Mine.lA _ | refine Mine.lB ?_)); done) | (with_reducible ((repeat (rename (@LT.lt _ _ _ _ ∧ _) => hZk; obtain ⟨_, _⟩ := hZk)); first | (refine Nat.ne_of_lt ?_; assumption) | (refine Nat.ne_of_gt ?_; assumption)))
  k_with "eval Name" => (k_here; k_dflt (refine' nameX_L ?k1Zk ?k2Zk ?_ ?kaZk ?kbZk; (case kaZk => rfl); (case kbZk => rfl); (case k1Zk => k_asm); (case k2Zk => with_unfolding_all assumption); k_whole))
  trivial
local macro_rules | `(tactic| k_all) => `(tactic| with_reducible assumption)
local macro_rules | `(tactic| k_mem) => `(tactic| with_reducible assumption)

theorem kw73 : True := by
  k_with "eval ListComp" => (k_here; (with_reducible show wpAny _ _ (eval (PySem.Expr.ListComp _ [⟨PySem.Expr.Tuple _ _ _, _, _, _⟩] _ _) _) _ _ _); k_dflt (refine LCp.ListComp_P (F₀ := by k_asm) (by with_unfolding_all rfl) (by decide) (by rfl) (by decide) (by rfl) (by rfl) (by decide) ?_))
  trivial
theorem intsOf {f : Int → Int} : ∀ (ys : List Value) (xs : List Int), ys.length = xs.length → (∀ (j : Nat) (v : Value), ys[j]? = some v → ∃ x t, xs[j]? = some x ∧ v = .int (f x) t) → IntsAre ys (xs.map f)
  | [], [], _, _ => .nil
  | [], _ :: _, h, _ => by simp at h
  | _ :: _, [], h, _ => by simp at h
  | y :: ys, x :: xs, hl, h => by
    obtain ⟨x', t, e1, e2⟩ := h 0 y rfl
    have e3 : x = x' := Option.some.inj e1
    subst e3 e2
    exact .cons _ _ (intsOf ys xs (by simpa using hl) fun j v hv => h (j + 1) v hv)
theorem stm9 {prog : Program} {w : World} {dp un : Nat} {gd : Option (List Code)} {base h₀ : Heap} {p : Program} {loose : List Str} {mean : ExcName → Option Value} {mg mb : Str → Option Value} {A₀ : Around} {s : Shared} {L fa : Addr} {cd : Value} {m : Str → Option Value} {Q : Flow → Shared → Prop} {ob om ov oa oc od on : Obj}
    (B : Below A₀ base [] h₀) (X : (hd.heap_39 w.params).In h₀) (T : Top p loose mean mg mb h₀) (hdp : dp + 100 < 1000) (hun : un + 1000 < 9900)
    {led : List (Addr × Obj)} {lp : Addr} {pvs : List Value} {xs : List Int} {n : Int}
    (F : Fr h₀ L s.heap m) (N : News h₀ L s.heap ((L + 1 + 1 + 1 + 1 + 1 + 1 + 1, ob) :: (L + 1 + 1 + 1 + 1 + 1 + 1, om) :: (L + 1 + 1 + 1 + 1 + 1, ov) :: (L + 1 + 1 + 1 + 1, oa) :: (L + 1 + 1 + 1, oc) :: (L + 1 + 1, od) :: (L + 1, on) ::  led)) (hom : om.data = .cell none)
    (hm : m (Str.ofString "pairs") = some (.ref lp)) (hlp : (lp, lst pvs) ∈ led) (hP : Rows (RP n xs) xs.length pvs led) (hk : xs.length ≤ 5) (hk0 : 0 < xs.length) (hoff : ∀ p ∈ led, p.1 ≠ L + 1 + 1 + 1 + 1 + 1 + 1)
    (h : ∀ h' tk' M tM om', Fr h₀ L h' m → News h₀ L h' ((L + 1 + 1 + 1 + 1 + 1 + 1 + 1, ob) :: (L + 1 + 1 + 1 + 1 + 1 + 1, om') :: (L + 1 + 1 + 1 + 1 + 1, ov) :: (L + 1 + 1 + 1 + 1, oa) :: (L + 1 + 1 + 1, oc) :: (L + 1 + 1, od) :: (L + 1, on) :: led) → om'.data = .cell (some (.int M tM)) →
      (∀ x ∈ xs, quoN n x ≤ M) → (∃ x ∈ xs, M = quoN n x) → Q .next { s with heap := h', toks := tk' }) :
    wpAny (model prog w) (Ar dp un gd [(envOfC (Str.ofString "law") (lawScope w.params) L fa cd)]) (exec (lawS9 w.params) (envOfC (Str.ofString "law") (lawScope w.params) L fa cd)) Q (fun _ _ => False) s := by
  dsimp only [lawS9, lawScope]
  k_steps
  have hmm : (lp, lst pvs) ∈ (L + 1 + 1 + 1 + 1 + 1 + 1 + 1, ob) :: (L + 1 + 1 + 1 + 1 + 1 + 1, om) :: (L + 1 + 1 + 1 + 1 + 1, ov) :: (L + 1 + 1 + 1 + 1, oa) :: (L + 1 + 1 + 1, oc) :: (L + 1 + 1, od) :: (L + 1, on) ::  led := by repeat (first | exact hlp | refine List.Mem.tail _ ?_)
  have e : pvs.toArray.size = xs.length := by simp [hP.len]
  refine LCp.SrcLP.ledger (k := pvs.length) (by rfl) F N hmm (by rw [e]; exact Nat.le_trans hk (Nat.le_of_ble_eq_true rfl)) fun g => ?_
  rw [e]
  refine compRestP_inv xs.length (fun i ys news => news = (L + 1 + 1 + 1 + 1 + 1 + 1 + 1, ob) :: (L + 1 + 1 + 1 + 1 + 1 + 1, om) :: (L + 1 + 1 + 1 + 1 + 1, ov) :: (L + 1 + 1 + 1 + 1, oa) :: (L + 1 + 1 + 1, oc) :: (L + 1 + 1, od) :: (L + 1, on) ::  led ∧ Rows (fun j v _ => ∃ x t, xs[j]? = some x ∧ v = .int (quoN n x) t) i ys led) ⟨rfl, .nil⟩ ?_ ?_
  · intro i ys news v hi hlen hJ hv
    obtain ⟨rfl, hR⟩ := hJ
    have hv' : pvs[i]? = some v := by simpa using hv
    obtain ⟨x, a, t1, t2, hxi, rfl, hma⟩ := hP.all i v hv'
    refine ⟨a, tup2i (quoN n x) (rstN n x) t1 t2, _, _, _, rfl, (by repeat (first | exact hma | refine List.Mem.tail _ ?_)), rfl, rfl, ?_⟩
    intro I oI C oC D m₂ h' tk E' hC' hx hx2 F' N' off ne
    k_steps
    exact CompEnd.intro F' N' _ (fun p hp => hp) off (.inr ⟨_, hmm, rfl, _, rfl⟩) ⟨rfl, hR.snoc (fun _ _ y => y) ⟨x, t1, hxi, rfl⟩⟩
  · intro ys news hl hJ D h' tk F' N' o1
    obtain ⟨rfl, hR⟩ := hJ
    have hI : IntsAre ys (xs.map (quoN n)) := intsOf ys xs (by rw [hl]) hR.all
    replace o1 := off1_mem o1
    have o2 := neN (Ne.symm (o1 _ (.tail _ (.head _))))
    k_steps
    (rename Fr _ _ _ _ => Fz)
    (rename News _ _ _ _ => Nz)
    (rename _ ∈ List.map _ _ => hM)
    (rename ∀ a, a ∈ List.map _ _ → a ≤ _ => hle)
    refine h _ _ _ _ _ Fz (newsSub Nz fun p hp => .tail _ hp) (by assumption) (fun x hx => hle _ (List.mem_map_of_mem hx)) ?_
    obtain ⟨x, hx, e⟩ := List.mem_map.mp hM
    exact ⟨x, hx, e.symm⟩
end Mine
end
/-! part L10 -/
section
open PySem PySem.W PyProof.Rows PySem.Calls PySem.Spec
set_option Elab.async false
set_option maxRecDepth 100000
set_option maxHeartbeats 1000000
set_option linter.unusedSimpArgs false
set_option linter.unusedVariables false
namespace Mine
open LCg
theorem kw74 : True := by
  w_top off
  k_with_none
  k_with "mine ne" => first | (with_reducible first | assumption | (refine Ne.symm ?_; assumption)) | (with_reducible ((repeat (first | (rename ((_ ≠ _ ∧ _) ∧ _) => hZk; obtain ⟨_, _⟩ := hZk) | (rename (_ ≠ _ ∧ _) => hZk; obtain ⟨_, _⟩ := hZk))); first | assumption | (refine Ne.symm ?_; assumption))) | ((repeat (refine Mine.aS ?_)); (first | refine Nat.ne_of_lt ?_ | refine Nat.ne_of_gt ?_); (repeat (first | exact Mine.lA _ | refine Mine.lB ?_)); done) | (with_reducible ((repeat (rename (@LT.lt _ _ _ _ ∧ _) => hZk; obtain ⟨_, _⟩ := hZk)); first | (refine Nat.ne_of_lt ?_; assumption) | (refine Nat.ne_of_gt ?_; assumption)))
  k_with "eval Name" => (k_here; k_dflt (refine' nameX_L ?k1Zk ?k2Zk ?_ ?kaZk ?kbZk; (case kaZk => rfl); (case kbZk => rfl); (case k1Zk => k_asm); (case k2Zk => with_unfolding_all assumption); k_whole))
  trivial
local macro_rules | `(tactic| k_all) => `(tactic| with_reducible assumption)
local macro_rules | `(tactic| k_mem) => `(tactic| first | with_reducible assumption | assumption)

section
variable {prog : Program} {w : World} {A : Around} {E : Value → Shared → Prop} {s : Shared} {Q : Value → Shared → Prop} {h₀ : Heap} {L b : Addr} {news : List (Addr × Obj)} {q r : Int} {t1 t2 u : Tok} {value slice : PySem.Expr}
theorem it20 (N : News h₀ L s.heap news) (hm : (b, tup2i q r t1 t2) ∈ news) (h : Q (.int q t1) s)
    (hs : subscripted slice false (.ref b) (.int 0 u) = operate [.ref b, .int 0 u] (getItem (.ref b) (.int 0 u)) := by with_unfolding_all rfl) (hg : ∀ r, letTemporaryGo value (.ref b) r = pure () := by intro _; with_unfolding_all rfl) :
    wpAny (model prog w) A (subscriptTail value slice (.ref b) (.int 0 u)) Q E s := item_tuple (items := #[.int q t1, .int r t2]) ⟨_, (N _ hm).1, rfl, _, rfl⟩ (by decide) (by decide) (j := 0) rfl rfl h hs hg
theorem it21 (N : News h₀ L s.heap news) (hm : (b, tup2i q r t1 t2) ∈ news) (h : Q (.int r t2) s)
    (hs : subscripted slice false (.ref b) (.int 1 u) = operate [.ref b, .int 1 u] (getItem (.ref b) (.int 1 u)) := by with_unfolding_all rfl) (hg : ∀ r, letTemporaryGo value (.ref b) r = pure () := by intro _; with_unfolding_all rfl) :
    wpAny (model prog w) A (subscriptTail value slice (.ref b) (.int 1 u)) Q E s := item_tuple (items := #[.int q t1, .int r t2]) ⟨_, (N _ hm).1, rfl, _, rfl⟩ (by decide) (by decide) (j := 1) rfl rfl h hs hg
end
theorem kw75 : True := by
  k_with "subscriptTail" => (k_here; (with_reducible show wpAny _ _ (subscriptTail _ _ (Value.ref _) (Value.int 0 _)) _ _ _); k_dflt (refine' it20 ?knZk ?kmZk ?_; (case knZk => k_asm); (case kmZk => k_mem); k_whole))
  k_with "subscriptTail" => (k_here; (with_reducible show wpAny _ _ (subscriptTail _ _ (Value.ref _) (Value.int 1 _)) _ _ _); k_dflt (refine' it21 ?knZk ?kmZk ?_; (case knZk => k_asm); (case kmZk => k_mem); k_whole))
  trivial
/-- the stages' list -/
def RS (n M : Int) (xs : List Int) (j : Nat) (v : Value) (led : List (Addr × Obj)) : Prop := ∃ x a vs nn, xs[j]? = some x ∧ v = .ref a ∧ (a, PySem.W.listOf vs.toArray nn) ∈ led ∧ Rows (fun i v _ => ∃ t, v = .str (qIter (mailA x) i) t) ((M - quoN n x).toNat + 1) vs []
theorem RS.mono {n M : Int} {xs : List Int} {l l' : List (Addr × Obj)} (hs : ∀ p ∈ l, p ∈ l') (j : Nat) (v : Value) (h : RS n M xs j v l) : RS n M xs j v l' := h.imp fun x => .imp fun a => .imp fun vs => .imp fun nn e => ⟨e.1, e.2.1, hs _ e.2.2.1, e.2.2.2⟩
theorem stages_int (T : Str) (t tn : Tok) (k : Int) (hk0 : 0 ≤ k) (hk : k ≤ 100) (hq : ∀ i, i < k.toNat → (qIter T i).cps.size ≤ 16384 ∧ (sub2 (qIter T i)).cps.size ≤ 16384) : Spec hd.heap_39 165 3 60 [.str T t, .int k tn]
    (fun _ => True) (fun v new => ∃ a vs nn, v = .ref a ∧ new = [(a, PySem.W.listOf vs.toArray nn)] ∧ Rows (fun j v _ => ∃ t, v = .str (qIter T j) t) (k.toNat + 1) vs []) := by
  have e : k = ((k.toNat : Nat) : Int) := by omega
  have := stages_spec T t tn k.toNat (by omega) hq
  rwa [← e] at this
theorem endsOf {h : Heap} {T : Addr} {u1 u2 u3 : Tok} (e : h.get? T = some { cls := .type "tuple", data := .seq #[.str (E3 0) u1, .str (E3 1) u2, .str (E3 2) u3] }) : EndsAt h T 3 E3 := by
  refine ⟨[.str (E3 0) u1, .str (E3 1) u2, .str (E3 2) u3], ⟨_, e, rfl, _, rfl⟩, rfl, fun k hk => ?_⟩
  match k, hk with
  | 0, _ => exact ⟨u1, rfl⟩
  | 1, _ => exact ⟨u2, rfl⟩
  | 2, _ => exact ⟨u3, rfl⟩
theorem end10 {xs : List Int} {n M : Int} {h₀ h' : Heap} {L C D T sa : Addr} {m : Str → Option Value} {s : Shared} {tk' i sn : Nat} {oC oT : Obj} {ys svs : List Value} {led R Z own cs : List (Addr × Obj)} {x : Int}
    (F : Fr h₀ L h' m) (N : News h₀ L h' ((sa, PySem.W.listOf svs.toArray sn) :: (T, oT) :: (C, oC) :: (D, lst ys) :: (cs ++ Z))) (ap : ∀ p ∈ (T, oT) :: (C, oC) :: (D, lst ys) :: (cs ++ Z), p.1 ≠ sa)
    (hl : AllLt T ((C, oC) :: (D, lst ys) :: (cs ++ Z))) (hZ : R ++ own = Z) (hsub : ∀ p ∈ led, p ∈ R) (hR : Rows (RS n M xs) i ys R) (hoR : ∀ p ∈ R, p ∈ led ∨ ∀ q ∈ cs, p.1 ≠ q.1) (hx : xs[i]? = some x) (hSt : Rows (fun j v _ => ∃ t, v = .str (qIter (mailA x) j) t) ((M - quoN n x).toNat + 1) svs []) :
    KEnd h₀ L m s C oC D (lst ys) own (cs ++ R) (fun y news' => ∃ R, news' = cs ++ R ∧ (∀ p ∈ led, p ∈ R) ∧ Rows (RS n M xs) (i + 1) (ys ++ [y]) R ∧ (∀ p ∈ R, p ∈ led ∨ ∀ q ∈ cs, p.1 ≠ q.1)) (.ref sa) { s with heap := h', toks := tk' } := by
  subst hZ
  refine ⟨h', tk', cs ++ ((sa, PySem.W.listOf svs.toArray sn) :: R), rfl, F, newsSub N fun p hp => ?_, fun p hp => ?_, _, rfl, fun p hp => .tail _ (hsub p hp), (hR.mono (RS.mono fun p hp => .tail _ hp)).snoc (fun _ _ y => y) ⟨x, sa, svs, sn, hx, rfl, .head _, hSt⟩, fun p hp => ?_⟩
  · simp only [List.mem_cons, List.mem_append] at hp ⊢
    rcases hp with h | h | (h | h | h) | h <;> simp [h]
  · rcases List.mem_append.mp hp with hp | hp
    · exact .inl ⟨p.2, List.mem_append_left _ hp⟩
    · rcases List.mem_cons.mp hp with rfl | hp
      · refine .inr fun q hq => Ne.symm (ap q ?_)
        simp only [List.mem_cons, List.mem_append] at hq ⊢
        rcases hq with h | h | h <;> simp [h]
      · exact .inl ⟨p.2, List.mem_append_right _ hp⟩
  · rcases List.mem_cons.mp hp with rfl | hp
    · refine .inr fun q hq => Ne.symm (ap q ?_)
      simp only [List.mem_cons, List.mem_append]
      simp [hq]
    · exact hoR p hp
theorem stm10 {prog : Program} {w : World} {dp un : Nat} {gd : Option (List Code)} {base h₀ : Heap} {p : Program} {loose : List Str} {mean : ExcName → Option Value} {mg mb : Str → Option Value} {A₀ : Around} {s : Shared} {L fa : Addr} {cd : Value} {m : Str → Option Value} {Q : Flow → Shared → Prop} {ob om ov oa oc od on : Obj}
    (B : Below A₀ base [] h₀) (X : (hd.heap_39 w.params).In h₀) (T : Top p loose mean mg mb h₀) (hdp : dp + 100 < 1000) (hun : un + 1000 < 9900)
    {led : List (Addr × Obj)} {ln lc lp : Addr} {xvs cvs pvs : List Value} {nx nc : Nat} {xs : List Int} {n M : Int} {tM : Tok}
    (F : Fr h₀ L s.heap m) (N : News h₀ L s.heap ((L + 1 + 1 + 1 + 1 + 1 + 1 + 1, ob) :: (L + 1 + 1 + 1 + 1 + 1 + 1, om) :: (L + 1 + 1 + 1 + 1 + 1, ov) :: (L + 1 + 1 + 1 + 1, oa) :: (L + 1 + 1 + 1, oc) :: (L + 1 + 1, od) :: (L + 1, on) ::  led)) (hom : om.data = .cell (some (.int M tM))) (hoc : oc.data = .cell (some (.ref lc)))
    (hmn : m (Str.ofString "numbers") = some (.ref ln)) (hln : (ln, PySem.W.listOf xvs.toArray nx) ∈ led) (hX : IntsAre xvs xs)
    (hlc : (lc, PySem.W.listOf cvs.toArray nc) ∈ led) (hC : Rows (RC xs) xs.length cvs led)
    (hmp : m (Str.ofString "pairs") = some (.ref lp)) (hlp : (lp, lst pvs) ∈ led) (hP : Rows (RP n xs) xs.length pvs led) (hk : xs.length ≤ 5) (hn6 : 6 ≤ n) (hM : ∀ x ∈ xs, quoN n x ≤ M) (hM6 : M ≤ 6)
    (h : ∀ h' tk' ls svs R, Fr h₀ L h' (fun z => if z = Str.ofString "stages" then some (.ref ls) else m z) → News h₀ L h' ((ls, lst svs) :: (L + 1 + 1 + 1 + 1 + 1 + 1 + 1, ob) :: (L + 1 + 1 + 1 + 1 + 1 + 1, om) :: (L + 1 + 1 + 1 + 1 + 1, ov) :: (L + 1 + 1 + 1 + 1, oa) :: (L + 1 + 1 + 1, oc) :: (L + 1 + 1, od) :: (L + 1, on) ::  R) → (∀ p ∈ led, p ∈ R) → Rows (RS n M xs) xs.length svs R → (∀ p ∈ (L + 1 + 1 + 1 + 1 + 1 + 1 + 1, ob) :: (L + 1 + 1 + 1 + 1 + 1 + 1, om) :: (L + 1 + 1 + 1 + 1 + 1, ov) :: (L + 1 + 1 + 1 + 1, oa) :: (L + 1 + 1 + 1, oc) :: (L + 1 + 1, od) :: (L + 1, on) ::  R, p.1 ≠ ls) → (∀ p ∈ R, p ∈ led ∨ ∀ q ∈ (L + 1 + 1 + 1 + 1 + 1 + 1 + 1, ob) :: (L + 1 + 1 + 1 + 1 + 1 + 1, om) :: (L + 1 + 1 + 1 + 1 + 1, ov) :: (L + 1 + 1 + 1 + 1, oa) :: (L + 1 + 1 + 1, oc) :: (L + 1 + 1, od) :: (L + 1, on) ::  [], p.1 ≠ q.1) → Q .next { s with heap := h', toks := tk' }) :
    wpAny (model prog w) (Ar dp un gd [(envOfC (Str.ofString "law") (lawScope w.params) L fa cd)]) (exec (lawS10 w.params) (envOfC (Str.ofString "law") (lawScope w.params) L fa cd)) Q (fun _ _ => False) s := by
  dsimp only [lawS10, lawScope]
  (k_dflt (refine Assign_ListComp_K F (by rfl) (by with_unfolding_all rfl) (by with_unfolding_all rfl) (by decide) (by rfl) (by decide) (by rfl) (by rfl) ?_))
  k_steps
  have up : ∀ {q : Addr × Obj}, q ∈ led → q ∈ (L + 1 + 1 + 1 + 1 + 1 + 1 + 1, ob) :: (L + 1 + 1 + 1 + 1 + 1 + 1, om) :: (L + 1 + 1 + 1 + 1 + 1, ov) :: (L + 1 + 1 + 1 + 1, oa) :: (L + 1 + 1 + 1, oc) :: (L + 1 + 1, od) :: (L + 1, on) ::  led := fun hq => by repeat (first | exact hq | refine List.Mem.tail _ ?_)
  (k_dflt (refine' zip3_src (n := xs.length) (o1 := PySem.W.listOf xvs.toArray nx) (o2 := PySem.W.listOf cvs.toArray nc) (o3 := lst pvs) (v1 := xvs) (v2 := cvs) (v3 := pvs) (n1 := nx) (n2 := nc) (n3 := pvs.length) (fun i ys news => ∃ R, news = (L + 1 + 1 + 1 + 1 + 1 + 1 + 1, ob) :: (L + 1 + 1 + 1 + 1 + 1 + 1, om) :: (L + 1 + 1 + 1 + 1 + 1, ov) :: (L + 1 + 1 + 1 + 1, oa) :: (L + 1 + 1 + 1, oc) :: (L + 1 + 1, od) :: (L + 1, on) ::  R ∧ (∀ p ∈ led, p ∈ R) ∧ Rows (RS n M xs) i ys R ∧ (∀ p ∈ R, p ∈ led ∨ ∀ q ∈ (L + 1 + 1 + 1 + 1 + 1 + 1 + 1, ob) :: (L + 1 + 1 + 1 + 1 + 1 + 1, om) :: (L + 1 + 1 + 1 + 1 + 1, ov) :: (L + 1 + 1 + 1 + 1, oa) :: (L + 1 + 1 + 1, oc) :: (L + 1 + 1, od) :: (L + 1, on) ::  [], p.1 ≠ q.1)) rfl F N (up hln) rfl rfl (up hlc) rfl rfl (up hlp) rfl rfl hX.length hC.len hP.len (Nat.le_trans hk (Nat.le_of_ble_eq_true rfl)) rfl rfl rfl rfl (by decide) (by decide) (by decide) ⟨led, rfl, fun _ h => h, .nil, fun _ h => .inl h⟩ ?ust ?ufin))
  (case ust =>
    intro i ys news own oC C D m₂ h' tk E' hi hlen hJ hB hC' F' N' hCD
    obtain ⟨R, rfl, hsub, hR, hoR⟩ := hJ
    obtain ⟨vx, vy, vz, hvx, hvy, hvz, mx, my, mz⟩ := hB
    obtain ⟨x, tx, hxi, rfl⟩ := intsAt hX hvx
    obtain ⟨x', a, t0, t1, t2, na, hxi', rfl, hma⟩ := hC.all i vy hvy
    obtain ⟨x'', b, t3, t4, hxi'', rfl, hmb⟩ := hP.all i vz hvz
    rw [hxi] at hxi' hxi''
    cases hxi'
    cases hxi''
    simp only [List.cons_append] at N'
    generalize hZ : R ++ own = Z at N'
    have hRZ : ∀ p ∈ R, p ∈ Z := fun p hp => hZ ▸ List.mem_append_left _ hp
    have hma := hRZ _ (hsub _ hma)
    have hmb := hRZ _ (hsub _ hmb)
    have hxm : x ∈ xs := List.mem_of_getElem? hxi
    have hq := quoN_le hn6 x
    have hqM := hM x hxm
    obtain ⟨k0, k1, k2⟩ := c_le x
    k_steps
    (rename News _ _ _ _ => Nz)
    (rename _ ∧ _ => lz)
    have hil := isListOf Nz (.tail _ (.tail _ (.tail _ (.tail _ (.tail _ (.tail _ (.tail _ (.tail _ (.tail _ (.tail _ hma))))))))))
    have hen := endsOf (Nz _ (.head _)).1
    have hms := fun e => mail_spec a e (c0 x) (c1 x) (c2 x) x t0 t1 t2 tx 3 E3 (by decide) e3_len (by omega) (by omega) (by omega)
    k_dflt (refine' use (hms _) ?uB ?uF ?uN ?uX ?uT ?uA ?uf ?uk ?ud ?uu ?up ?_)
    (case uB => k_asm)
    (case uF => k_asm)
    (case uN => k_asm)
    (case uX => k_asm)
    (case uT => k_asm)
    (case uA => exact rfl)
    (case uf => exact rfl)
    (case uk => exact rfl)
    (case ud => first | with_reducible exact Mine.dU0 (by assumption) | with_reducible exact Mine.dU1 (by assumption) (by decide) | with_reducible exact Mine.dU2 (by assumption) (by decide) | omega | (dsimp only;  omega))
    (case uu => first | with_reducible exact Mine.dU0 (by assumption) | with_reducible exact Mine.dU1 (by assumption) (by decide) | with_reducible exact Mine.dU2 (by assumption) (by decide) | omega | (dsimp only;  omega))
    (case up => exact ⟨hil, hen⟩)
    intro v1 h1 tk1 new1 F1 N1 ap1 P1
    obtain ⟨u1, rfl, rfl⟩ := P1
    simp only [List.cons_append, List.nil_append] at N1 ap1

    k_steps
    (rename News _ _ _ _ => Ny)
    have hst := fun tx tk' => stages_int (mailA x) tx tk' (M - quoN n x) (by omega) (by omega) fun i hi => stage_size x i (by omega)
    k_dflt (refine' use (hst _ _) ?uB ?uF ?uN ?uX ?uT ?uA ?uf ?uk ?ud ?uu ?up ?_)
    (case uB => k_asm)
    (case uF => k_asm)
    (case uN => k_asm)
    (case uX => k_asm)
    (case uT => k_asm)
    (case uA => exact rfl)
    (case uf => exact rfl)
    (case uk => exact rfl)
    (case ud => first | with_reducible exact Mine.dU0 (by assumption) | with_reducible exact Mine.dU1 (by assumption) (by decide) | with_reducible exact Mine.dU2 (by assumption) (by decide) | omega | (dsimp only;  omega))
    (case uu => first | with_reducible exact Mine.dU0 (by assumption) | with_reducible exact Mine.dU1 (by assumption) (by decide) | with_reducible exact Mine.dU2 (by assumption) (by decide) | omega | (dsimp only;  omega))
    (case up => trivial)
    intro v2 h2 tk2 new2 F2 N2 ap2 P2
    obtain ⟨sa, svs, sn, rfl, rfl, hSt⟩ := P2
    simp only [List.cons_append, List.nil_append] at N2 ap2

    exact end10 (cs := (L + 1 + 1 + 1 + 1 + 1 + 1 + 1, ob) :: (L + 1 + 1 + 1 + 1 + 1 + 1, om) :: (L + 1 + 1 + 1 + 1 + 1, ov) :: (L + 1 + 1 + 1 + 1, oa) :: (L + 1 + 1 + 1, oc) :: (L + 1 + 1, od) :: (L + 1, on) ::  []) F2 N2 (AllNe.mem (apart1 ap2)) lz hZ hsub hR hoR hxi hSt)
  intro h₂ ys news' hJ D h' tk F' N' o
  obtain ⟨R, rfl, hsub, hR, hoR⟩ := hJ
  exact h h' tk D ys R F' N' hsub hR o hoR
end Mine
end
/-! part K1 -/
section
open PySem PySem.W PyProof.Rows PySem.Calls PySem.Spec
set_option Elab.async false
set_option maxRecDepth 100000
set_option linter.unusedVariables false
namespace Mine
theorem kw76 : True := by
  w_top off
  k_with_none
  k_with "mine ne" => first | (with_reducible first | assumption | (refine Ne.symm ?_; assumption)) | (with_reducible ((repeat (first | (rename ((_ ≠ _ ∧ _) ∧ _) => hZk; obtain ⟨_, _⟩ := hZk) | (rename (_ ≠ _ ∧ _) => hZk; obtain ⟨_, _⟩ := hZk))); first | assumption | (refine Ne.symm ?_; assumption))) | ((repeat (refine Mine.aS ?_)); (first | refine Nat.ne_of_lt ?_ | refine Nat.ne_of_gt ?_); (repeat (first | exact Mine.lA _ | refine Mine.lB ?_)); done) | (with_reducible ((repeat (rename (@LT.lt _ _ _ _ ∧ _) => hZk; obtain ⟨_, _⟩ := hZk)); first | (refine Nat.ne_of_lt ?_; assumption) | (refine Nat.ne_of_gt ?_; assumption)))
  trivial
section
variable {prog : Program} {w : World} {A A₀ : Around} {base g : Heap} {outer : List Env} {p : Program} {loose : List Str} {mean : ExcName → Option Value} {mg mb : Str → Option Value} {s : Shared} {K : Frag} {L : Addr} {m : Str → Option Value} {env : Env}
  {Q : Value → Shared → Prop} {E : Value → Shared → Prop} {rest : List (Addr × Obj)}
/-- a first call, its table laid aside -/
theorem useT {c : Sem Value} {P : Addr} {o : Obj} {line col : Nat} {qual : Str} {Post : Value → List (Addr × Obj) → Prop}
    (hc : Gd K A base (env :: outer) p loose mean mg mb (hideAll s.heap [P]) → wpAny (model prog w) A c (BackT s P line col qual Post) (fun _ _ => False) s)
    (B : Below A₀ base outer g) (F : Fr g L s.heap m) (N : News g L s.heap ((P, o) :: rest)) (hr : ∀ q ∈ rest, q.1 ≠ P) (X : K.In g) (T : Top p loose mean mg mb g)
    (hA : A.frames = some (env :: outer)) (hf : env.frame = some L) (hk : env.scope.kind = .function)
    (h : ∀ v h' tk' c' oc vs t new, Fr g L h' m → News g L h' ((P, tabObj #[rawInt line, rawInt col, .ref c']) :: (c', oc) :: (new ++ rest)) → oc.data = .fields vs → vs[1]? = some (.str qual t) → (∀ q ∈ rest, ∀ r ∈ (c', oc) :: new, q.1 ≠ r.1) → (∀ r ∈ (c', oc) :: new, r.1 ≠ P) → Post v new → Q v { s with heap := h', toks := tk' }) :
    wpAny (model prog w) A c Q E s := by
  have hP := (N _ (.head _))
  obtain ⟨FG, BG, st, _⟩ := groundX (R := fun _ _ => True) (A := A) (news := [(P, o)]) B F (fun q hq => N q (by rw [List.mem_singleton.mp hq]; exact .head _)) hA hf hk
  have NR : News g L (hideAll s.heap [P]) rest := fun q hq => ⟨hideAll_get _ (N q (.tail _ hq)).1 (fun z => hr q hq (List.mem_singleton.mp z)), (N q (.tail _ hq)).2⟩
  refine wpAny_mono (hc ⟨BG, X.keeps st, T.keeps st⟩) (fun v s' x => ?_) (fun _ _ y => y.elim)
  obtain ⟨h', tk', c', oc, vs, t, new, rfl, k, hP', hd, hv, hfr, hne, hp⟩ := x
  have NF : News g L h' ((c', oc) :: new) := newsAnd FG (news := []) (fun _ q => nomatch q) hfr |> fun N => by simpa using N
  refine h v h' tk' c' oc vs t new (frKept FG k) (fun q hq => ?_) hd hv (fun q hq r hr' e => ?_) hne hp
  · rcases List.mem_cons.mp hq with rfl | hq
    · exact ⟨hP', hP.2⟩
    · rcases List.mem_cons.mp hq with rfl | hq
      · exact NF _ (.head _)
      · rcases List.mem_append.mp hq with hq | hq
        · exact NF _ (.tail _ hq)
        · exact newsKept NR k q hq
  · have := (hfr r hr').2
    rw [← e, (NR q hq).1] at this
    cases this
/-- _law_refused, out of the law's frame -/
theorem useR {Kp : Params → Frag} {dp un : Nat} {gd : Option (List Code)} {f : Addr} {args : List Value} {news : List (Addr × Obj)} (X : (Kp w.params).In g) (T : Top p loose mean mg mb g)
    (hc : Gd (Kp w.params) A base (env :: outer) p loose mean mg mb s.heap → KtsDicts ((env :: outer).filterMap (·.frame)) s.heap → wpAny (model prog w) A (call (.ref f) args) (BackR ((env :: outer).filterMap (·.frame)) s) (fun _ _ => False) s)
    (B : Below A₀ base outer g) (F : Fr g L s.heap m) (N : News g L s.heap news) (ho : outer = [])
    (hA : A.frames = some (env :: outer)) (hf : env.frame = some L) (hk : env.scope.kind = .function)
    (h : ∀ h' tk', Fr g L h' m → News g L h' news → Q (.bool true) { s with heap := h', toks := tk' }) :
    wpAny (model prog w) A (call (.ref f) args) Q E s := by
  subst ho
  have hfs : ([env] : List Env).filterMap (·.frame) = [L] := by simp [hf]
  have D : KtsDicts ([env].filterMap (·.frame)) s.heap := by
    rw [hfs]
    intro b hb
    rw [List.mem_singleton.mp hb]
    obtain ⟨o, es, ep, e, hd, _⟩ := F.ns
    exact ⟨o, es, ep, e, hd⟩
  refine wpAny_mono (hc (.push B F X T hA hf hk) D) (fun v s' x => ?_) (fun _ _ y => y.elim)
  rw [hfs] at x
  obtain ⟨h', tk', g', rfl, Tn, k, rfl⟩ := x
  have hL₀ : g.get? L = none := Heap.get?_none_of_le F.above
  have keep : ∀ b o, b ≠ L → s.heap.get? b = some o → h'.get? b = some o := fun b o hb e => k b o (Tn.other b o e (by simpa using hb))
  refine h h' tk' ⟨?_, fun b o e => keep b o (fun q => by rw [q, hL₀] at e; cases e) (F.keep b o e), F.above⟩ fun q hq => ⟨keep _ _ (N q hq).2.1 (N q hq).1, (N q hq).2⟩
  obtain ⟨o, es, ep, e, hd, r⟩ := F.ns
  obtain ⟨sl, e'⟩ := Tn.frame L o e (List.mem_singleton.mpr rfl)
  exact ⟨{ o with slots := sl }, es, ep, k _ _ e', hd, r⟩
end
/-! the figures of a whole number -/
theorem fig {B c0 c1 c2 : Int} (hB : 64 ≤ B) (h0 : 1 ≤ c0 ∧ c0 ≤ 6) (h1 : 1 ≤ c1 ∧ c1 ≤ 6) : ((c2 * B + c1) * B + c0) % B = c0 ∧ ((c2 * B + c1) * B + c0) / B % B = c1 ∧ ((c2 * B + c1) * B + c0) / B / B = c2 := by
  have e1 : ((c2 * B + c1) * B + c0) % B = c0 := by rw [Int.add_comm, Int.add_mul_emod_self_right, Int.emod_eq_of_lt (by omega) (by omega)]
  have e2 : ((c2 * B + c1) * B + c0) / B = c2 * B + c1 := by rw [Int.add_comm, Int.add_mul_ediv_right _ _ (by omega), Int.ediv_eq_zero_of_lt (by omega) (by omega), Int.zero_add]
  refine ⟨e1, ?_, ?_⟩
  · rw [e2, Int.add_comm, Int.add_mul_emod_self_right, Int.emod_eq_of_lt (by omega) (by omega)]
  · rw [e2, Int.add_comm, Int.add_mul_ediv_right _ _ (by omega), Int.ediv_eq_zero_of_lt (by omega) (by omega), Int.zero_add]
theorem figs {n : Int} (h6 : 6 ≤ n) (x : Int) : whl n x % 2 ^ n.toNat = c0 x ∧ whl n x / 2 ^ n.toNat % 2 ^ n.toNat = c1 x ∧ whl n x / 2 ^ n.toNat / 2 ^ n.toNat = c2 x := by
  obtain ⟨k0, k1, k2⟩ := c_le x
  exact fig (dvs_big h6).2 k0 k1
end Mine
end
/-! part K2 -/
section
open PySem PySem.W PyProof.Rows PySem.Calls PySem.Spec
set_option Elab.async false
set_option maxRecDepth 100000
set_option linter.unusedVariables false
namespace Mine
theorem kw77 : True := by
  w_top off
  k_with_none
  k_with "mine ne" => first | (with_reducible first | assumption | (refine Ne.symm ?_; assumption)) | (with_reducible ((repeat (first | (rename ((_ ≠ _ ∧ _) ∧ _) => hZk; obtain ⟨_, _⟩ := hZk) | (rename (_ ≠ _ ∧ _) => hZk; obtain ⟨_, _⟩ := hZk))); first | assumption | (refine Ne.symm ?_; assumption))) | ((repeat (refine Mine.aS ?_)); (first | refine Nat.ne_of_lt ?_ | refine Nat.ne_of_gt ?_); (repeat (first | exact Mine.lA _ | refine Mine.lB ?_)); done) | (with_reducible ((repeat (rename (@LT.lt _ _ _ _ ∧ _) => hZk; obtain ⟨_, _⟩ := hZk)); first | (refine Nat.ne_of_lt ?_; assumption) | (refine Nat.ne_of_gt ?_; assumption)))
  trivial
theorem bits_of {a : Int} {k : Nat} (h0 : 2 ^ k ≤ a) : k + 1 ≤ Builtin.Int.intBits a := by
  have hp : (0 : Int) < 2 ^ k := Int.pow_pos (by decide)
  unfold Builtin.Int.intBits
  rw [if_neg (by simp; omega)]
  have e2 : ((2 ^ k : Nat) : Int) = (2 : Int) ^ k := by simp
  have : k ≤ a.natAbs.log2 := (Nat.le_log2 (by omega)).mpr (by omega)
  omega
theorem three {n : Int} (h6 : 6 ≤ n) (x : Int) : ((Builtin.Int.intBits (whl n x) : Int) + n - 1).fdiv n = ((3 : Nat) : Int) := by
  obtain ⟨k0, k1, k2⟩ := c_le x
  obtain ⟨d1, d2⟩ := dvs_big h6
  obtain ⟨a1, a2⟩ := eps_lt h6 x
  obtain ⟨w0, w1⟩ := whl_le h6 x
  obtain ⟨N, rfl⟩ := Int.eq_ofNat_of_zero_le (show 0 ≤ n by omega)
  have hB := dvs_eq (N : Int)
  simp only [Int.toNat_natCast] at *
  have p2 : (2 : Int) ^ (2 * N) = 2 ^ N * 2 ^ N := by rw [Nat.two_mul, Int.pow_add]
  have p3 : (2 : Int) ^ (3 * N) = 2 ^ N * 2 ^ N * 2 ^ N := by rw [show 3 * N = N + N + N by omega, Int.pow_add, Int.pow_add]
  have q1 : 1 * (2 ^ N * 2 ^ N) ≤ c2 x * (2 ^ N * 2 ^ N : Int) := Int.mul_le_mul_of_nonneg_right k2.1 (Int.mul_nonneg (by omega) (by omega))
  have q2 : 0 ≤ c1 x * (2 : Int) ^ N := Int.mul_nonneg (by omega) (by omega)
  have we : whl (N : Int) x = c2 x * (2 ^ N * 2 ^ N) + c1 x * 2 ^ N + c0 x := by
    unfold whl
    rw [Int.toNat_natCast, Int.add_mul, Int.mul_assoc]
  have lo : (2 : Int) ^ (2 * N) ≤ whl (N : Int) x := by rw [p2, we]; omega
  have hi : whl (N : Int) x < 2 ^ (3 * N) := by
    have r1 : 64 * (2 ^ N * 2 ^ N) ≤ (2 : Int) ^ N * 2 ^ N * 2 ^ N := by
      rw [Int.mul_comm 64]
      exact Int.mul_le_mul_of_nonneg_left d2 (Int.mul_nonneg (by omega) (by omega))
    rw [p3]
    omega
  have b1 := bits_of lo
  have e3 : ((2 ^ (3 * N) : Nat) : Int) = (2 : Int) ^ (3 * N) := by simp
  have b2 : Builtin.Int.intBits (whl (N : Int) x) ≤ 3 * N := bits_le (by omega)
  rw [Int.fdiv_eq_ediv_of_nonneg _ (by omega)]
  generalize Builtin.Int.intBits (whl (N : Int) x) = b at *
  refine Int.ediv_eq_iff_of_pos (by omega) |>.mpr ⟨by omega, by omega⟩
theorem whl_lt {n : Int} (h6 : 6 ≤ n) (h37 : n ≤ 37) (x : Int) : whl n x < 2 ^ 1000 := by
  obtain ⟨w0, w1⟩ := whl_le h6 x
  obtain ⟨d0, d1⟩ := dvs_lt h6 h37
  have : (7 * 2 ^ 400 : Int) < 2 ^ 1000 := by decide +kernel
  omega
/-- table 47 as the law's turns meet it: empty, or filled -/
def T47 (P : Params) (o : Obj) (rest : List (Addr × Obj)) : Prop := o = tabObj #[] ∨ ∃ c oc vs t, o = tabObj #[rawInt (iInn P).pos.line, rawInt (iInn P).pos.col, .ref c] ∧ (c, oc) ∈ rest ∧ oc.data = .fields vs ∧ vs[1]? = some (.str iQual t)
section
variable {prog : Program} {w : World} {dp un : Nat} {gd : Option (List Code)} {A₀ : Around} {base g : Heap} {outer : List Env} {p : Program} {loose : List Str} {mean : ExcName → Option Value} {mg mb : Str → Option Value} {s : Shared} {L : Addr} {m : Str → Option Value} {env : Env}
  {Q : Value → Shared → Prop} {E : Value → Shared → Prop} {rest : List (Addr × Obj)}
/-- _int2digits at the law's number, whether its table is filled or not -/
theorem useI {o : Obj} {n x : Int} {tx tn : Tok} {Zs : List (Addr × Obj)} (hZs : ∀ p ∈ Zs, p ∈ rest) (h6 : 6 ≤ n) (h37 : n ≤ 37) (hT : TD w.params rest) (h47 : T47 w.params o Zs)
    (B : Below A₀ base outer g) (F : Fr g L s.heap m) (N : News g L s.heap (((47 : Addr), o) :: rest)) (hr : ∀ q ∈ rest, q.1 ≠ 47) (X : (hd.heap_39 w.params).In g) (T : Top p loose mean mg mb g)
    (hf : env.frame = some L) (hk : env.scope.kind = .function) (hd : dp + 100 < 1000) (hu : un + 1000 < 9900)
    (h : ∀ l h' tk' c oc vs t o' t0 t1 t2 new, Fr g L h' m → News g L h' (((47 : Addr), o') :: ((l, PySem.W.listOf #[.int (c0 x) t0, .int (c1 x) t1, .int (c2 x) t2] 0) :: (new ++ rest))) → o' = tabObj #[rawInt (iInn w.params).pos.line, rawInt (iInn w.params).pos.col, .ref c] → (c, oc) ∈ new ++ Zs → oc.data = .fields vs → vs[1]? = some (.str iQual t) →
      (∀ q ∈ rest, q.1 ≠ l ∧ ∀ r ∈ new, q.1 ≠ r.1) → (l : Addr) ≠ 47 → (∀ r ∈ new, r.1 ≠ (47 : Addr)) → Q (.ref l) { s with heap := h', toks := tk' }) :
    wpAny (model prog w) (Ar dp un gd (env :: outer)) (call (.ref 52) [.int (whl n x) tx, .int n tn]) Q E s := by
  obtain ⟨f0, f1, f2⟩ := figs h6 x
  have w0 := (whl_le h6 x).1
  have w9 := whl_lt h6 h37 x
  rcases h47 with rfl | ⟨c, oc, vs, t, rfl, hc, hdt, hv⟩
  · refine useT (K := Mine.hd.heap_39 w.params) (P := 47) (fun G => i2d3F w.params n (whl n x) tx tn (by omega) (by omega) w0 w9 (three h6 x) prog w dp un gd base (env :: outer) p loose mean mg mb s G (by omega) (by omega) (N _ (.head _)).1) B F N hr X T rfl hf hk fun v h' tk' c' oc vs t new F' N' hd' hv' ap ne47 hp => ?_
    obtain ⟨a, t0, t1, t2, rfl, rfl⟩ := hp
    rw [f0, f1, f2] at N'
    refine h a h' tk' c' oc vs t _ t0 t1 t2 [(c', oc)] F' (fun q hq => N' q ?_) rfl (.head _) hd' hv' (fun q hq => ⟨ap q hq _ (.tail _ (.head _)), fun r hr' => by rw [List.mem_singleton.mp hr']; exact ap q hq _ (.head _)⟩) (ne47 _ (.tail _ (.head _))) fun r hr' => by
        rw [List.mem_singleton.mp hr']; exact ne47 _ (.head _)
    simp only [List.mem_cons, List.mem_append, List.not_mem_nil, or_false] at hq ⊢
    rcases hq with h | h | h | h <;> simp [h]
  · have hTabs : Tabs w.params s.heap := by
      obtain ⟨c1, oc1, vs1, t1, a1, a2, a3, a4⟩ := hT.ex
      exact ⟨⟨c1, (N _ (.tail _ a1)).1, codeRec_news N (.tail _ a2) a3 a4⟩, ⟨c, (N _ (.head _)).1, codeRec_news N (.tail _ (hZs _ hc)) hdt hv⟩⟩
    refine use (i2d3 w.params n (whl n x) tx tn (by omega) (by omega) w0 w9 (three h6 x)) B F N X T rfl hf hk (by omega) (by omega) hTabs fun v h' tk' new F' N' ap hp => ?_
    obtain ⟨a, t0, t1, t2, rfl, rfl⟩ := hp
    rw [f0, f1, f2] at N' ap
    have ap1 := AllNe.mem (apart1 ap)
    refine h a h' tk' c oc vs t _ t0 t1 t2 [] F' (fun q hq => N' q ?_) rfl hc hdt hv (fun q hq => ⟨ap1 q (.tail _ hq), fun r hr' => nomatch hr'⟩) (Ne.symm (ap1 _ (.head _))) fun r hr' => nomatch hr'
    simp only [List.mem_cons, List.mem_append, List.not_mem_nil, or_false, List.nil_append] at hq ⊢
    rcases hq with h | h | h <;> simp [h]
end
end Mine
end
/-! part L6 -/
section
open PySem PySem.W PyProof.Rows PySem.Calls PySem.Spec
set_option Elab.async false
set_option maxRecDepth 100000
set_option maxHeartbeats 1500000
set_option linter.unusedSimpArgs false
set_option linter.unusedVariables false
namespace Mine
open LCg
theorem kw78 : True := by
  w_top off
  k_with_none
  k_with "mine ne" => first | (with_reducible first | assumption | (refine Ne.symm ?_; assumption)) | (with_reducible ((repeat (first | (rename ((_ ≠ _ ∧ _) ∧ _) => hZk; obtain ⟨_, _⟩ := hZk) | (rename (_ ≠ _ ∧ _) => hZk; obtain ⟨_, _⟩ := hZk))); first | assumption | (refine Ne.symm ?_; assumption))) | ((repeat (refine Mine.aS ?_)); (first | refine Nat.ne_of_lt ?_ | refine Nat.ne_of_gt ?_); (repeat (first | exact Mine.lA _ | refine Mine.lB ?_)); done) | (with_reducible ((repeat (rename (@LT.lt _ _ _ _ ∧ _) => hZk; obtain ⟨_, _⟩ := hZk)); first | (refine Nat.ne_of_lt ?_; assumption) | (refine Nat.ne_of_gt ?_; assumption)))
  k_with "exec For Name Call cons nil" => (k_here; k_dflt (refine' For_turns ?kFZk ?_; (case kFZk => k_asm); k_whole))
  k_with "exec For Name Name cons nil" => (k_here; k_dflt (refine' For_turns ?kFZk ?_; (case kFZk => k_asm); k_whole))
  k_with "exec For Tuple Call cons nil" => (k_here; k_dflt (refine' For_turns ?kFZk ?_; (case kFZk => k_asm); k_whole))
  k_with "eval Name" => (k_here; k_dflt (refine' nameX_L ?k1Zk ?k2Zk ?_ ?kaZk ?kbZk; (case kaZk => rfl); (case kbZk => rfl); (case k1Zk => k_asm); (case k2Zk => with_unfolding_all assumption); k_whole))
  trivial
local macro_rules | `(tactic| k_all) => `(tactic| with_reducible assumption)
local macro_rules | `(tactic| k_mem) => `(tactic| first | with_reducible assumption | assumption)

def F47 (P : Params) (o : Obj) (rest : List (Addr × Obj)) : Prop := ∃ c oc vs t, o = tabObj #[rawInt (iInn P).pos.line, rawInt (iInn P).pos.col, .ref c] ∧ (c, oc) ∈ rest ∧ oc.data = .fields vs ∧ vs[1]? = some (.str iQual t)
structure J6 (P : Params) (L : Addr) (ob om ov oc od on : Obj) (led : List (Addr × Obj)) (m₀ : Str → Option Value) (i : Nat) (m : Str → Option Value) (news : List (Addr × Obj)) : Prop where
  keep : ∀ y, y ≠ Str.ofString "parts" → m y = m₀ y
  led : ∃ oa' v₀ o R, news = ((47 : Addr), o) :: (L + 1 + 1 + 1 + 1 + 1 + 1 + 1, ob) :: (L + 1 + 1 + 1 + 1 + 1 + 1, om) :: (L + 1 + 1 + 1 + 1 + 1, ov) :: (L + 1 + 1 + 1 + 1, oa') :: (L + 1 + 1 + 1, oc) :: (L + 1 + 1, od) :: (L + 1, on) ::  R ∧ oa'.data = .cell v₀ ∧ (∀ p ∈ led, p ∈ R) ∧ (F47 P o R ∨ (i = 0 ∧ o = tabObj #[])) ∧ (∀ p ∈ R, p ∈ led ∨ ∀ q ∈ ((47 : Addr), o) :: (L + 1 + 1 + 1 + 1 + 1 + 1 + 1, ob) :: (L + 1 + 1 + 1 + 1 + 1 + 1, om) :: (L + 1 + 1 + 1 + 1 + 1, ov) :: (L + 1 + 1 + 1 + 1, oa') :: (L + 1 + 1 + 1, oc) :: (L + 1 + 1, od) :: (L + 1, on) ::  [], p.1 ≠ q.1)
theorem t47_of {P : Params} {o : Obj} {i : Nat} {R rest : List (Addr × Obj)} (h : F47 P o R ∨ (i = 0 ∧ o = tabObj #[])) (hs : ∀ p ∈ R, p ∈ rest) : T47 P o rest := by
  rcases h with ⟨c, oc, vs, t, e1, e2, e3, e4⟩ | ⟨_, e⟩
  · exact .inr ⟨c, oc, vs, t, e1, hs _ e2, e3, e4⟩
  · exact .inl e
theorem cells47 {L : Addr} {ob om ov oa oc od on : Obj} {Z : List (Addr × Obj)} (h : @LT.lt Nat _ 47 L) (hZ : ∀ p ∈ Z, p.1 ≠ (47 : Addr)) : ∀ p ∈ (L + 1 + 1 + 1 + 1 + 1 + 1 + 1, ob) :: (L + 1 + 1 + 1 + 1 + 1 + 1, om) :: (L + 1 + 1 + 1 + 1 + 1, ov) :: (L + 1 + 1 + 1 + 1, oa) :: (L + 1 + 1 + 1, oc) :: (L + 1 + 1, od) :: (L + 1, on) ::  Z, p.1 ≠ (47 : Addr) := by
  intro p hp
  simp only [List.mem_cons] at hp
  rcases hp with rfl | rfl | rfl | rfl | rfl | rfl | rfl | hp
  · exact neA (by omega)
  · exact neA (by omega)
  · exact neA (by omega)
  · exact neA (by omega)
  · exact neA (by omega)
  · exact neA (by omega)
  · exact neA (by omega)
  · exact hZ p hp
theorem reord6 {e1 e2 : Addr × Obj} {cs new Z : List (Addr × Obj)} : ∀ p ∈ e1 :: e2 :: (cs ++ (new ++ Z)), p ∈ e1 :: e2 :: (new ++ (cs ++ Z)) := by
  intro p hp
  simp only [List.mem_cons, List.mem_append] at hp ⊢
  rcases hp with h | h | h | h | h <;> simp [h]
theorem dv_ok {n : Int} (h6 : 6 ≤ n) (h37 : n ≤ 37) (x : Int) : dvs n ≠ 0 ∧ (dvs n).natAbs < 2 ^ 400 ∧ (whl n x).natAbs < 2 ^ (2 * Builtin.Int.intBits (dvs n)) ∧ Builtin.Int.intBits (-dvs n) = Builtin.Int.intBits (dvs n) := by
  obtain ⟨w0, w1⟩ := whl_le h6 x
  obtain ⟨d0, d1⟩ := dvs_lt h6 h37
  obtain ⟨s0, s1⟩ := sq_ok (D := dvs n) (a := whl n x) d0 (by omega)
  have e1 : ((2 ^ 400 : Nat) : Int) = (2 : Int) ^ 400 := by simp
  have e2 : ((2 ^ (2 * Builtin.Int.intBits (dvs n)) : Nat) : Int) = (2 : Int) ^ (2 * Builtin.Int.intBits (dvs n)) := by simp
  refine ⟨by omega, by omega, by omega, ?_⟩
  unfold Builtin.Int.intBits
  simp
theorem re6 {α : Type} {t l a b c d e f g p : α} {new R own : List α} (h : p ∈ (t :: a :: b :: c :: d :: e :: f :: g :: (new ++ R)) ++ own) : p ∈ t :: l :: a :: b :: c :: d :: e :: f :: g :: (new ++ (R ++ own)) := by
  simp only [List.cons_append, List.append_assoc] at h
  rcases List.mem_cons.mp h with h | h
  · rw [h]; exact .head _
  · exact .tail _ (.tail _ h)
theorem end6 {P : Params} {L l : Addr} {ob om ov oa' oz oc od on o o' ol : Obj} {led R own new : List (Addr × Obj)} {m₀ m' : Str → Option Value} {i : Nat} {v₀ : Option Value} {h₀ h' : Heap} {s : Shared} {tk' : Nat} {Q : Flow → Shared → Prop}
    (F : Fr h₀ L h' m') (N : News h₀ L h' (((47 : Addr), o') :: (l, ol) :: (L + 1 + 1 + 1 + 1 + 1 + 1 + 1, ob) :: (L + 1 + 1 + 1 + 1 + 1 + 1, om) :: (L + 1 + 1 + 1 + 1 + 1, ov) :: (L + 1 + 1 + 1 + 1, oz) :: (L + 1 + 1 + 1, oc) :: (L + 1 + 1, od) :: (L + 1, on) ::  (new ++ (R ++ own)))) (hk : ∀ y, y ≠ Str.ofString "parts" → m' y = m₀ y) (hoz : oz.data = .cell v₀) (hsub : ∀ p ∈ led, p ∈ R) (hF : F47 P o' (new ++ R))
    (hap : ∀ q ∈ (L + 1 + 1 + 1 + 1 + 1 + 1 + 1, ob) :: (L + 1 + 1 + 1 + 1 + 1 + 1, om) :: (L + 1 + 1 + 1 + 1 + 1, ov) :: (L + 1 + 1 + 1 + 1, oz) :: (L + 1 + 1 + 1, oc) :: (L + 1 + 1, od) :: (L + 1, on) ::  (R ++ own), ∀ r ∈ new, q.1 ≠ r.1) (hn47 : ∀ r ∈ new, r.1 ≠ (47 : Addr)) (hoR : ∀ p ∈ R, p ∈ led ∨ ∀ q ∈ ((47 : Addr), o) :: (L + 1 + 1 + 1 + 1 + 1 + 1 + 1, ob) :: (L + 1 + 1 + 1 + 1 + 1 + 1, om) :: (L + 1 + 1 + 1 + 1 + 1, ov) :: (L + 1 + 1 + 1 + 1, oa') :: (L + 1 + 1 + 1, oc) :: (L + 1 + 1, od) :: (L + 1, on) ::  [], p.1 ≠ q.1) :
    TEnd h₀ L own (((47 : Addr), o) :: (L + 1 + 1 + 1 + 1 + 1 + 1 + 1, ob) :: (L + 1 + 1 + 1 + 1 + 1 + 1, om) :: (L + 1 + 1 + 1 + 1 + 1, ov) :: (L + 1 + 1 + 1 + 1, oa') :: (L + 1 + 1 + 1, oc) :: (L + 1 + 1, od) :: (L + 1, on) ::  R) (J6 P L ob om ov oc od on led m₀ (i + 1)) s Q .next { s with heap := h', toks := tk' } := by
  refine ⟨h', tk', m', ((47 : Addr), o') :: (L + 1 + 1 + 1 + 1 + 1 + 1 + 1, ob) :: (L + 1 + 1 + 1 + 1 + 1 + 1, om) :: (L + 1 + 1 + 1 + 1 + 1, ov) :: (L + 1 + 1 + 1 + 1, oz) :: (L + 1 + 1 + 1, oc) :: (L + 1 + 1, od) :: (L + 1, on) ::  (new ++ R), rfl, F, newsSub N fun p hp => ?_, fun p hp => ?_, hk, oz, v₀, o', new ++ R, rfl, hoz, fun p hp => List.mem_append_right _ (hsub p hp), .inl hF, fun p hp => ?_⟩
  · exact re6 hp
  · rcases List.mem_cons.mp hp with rfl | hp
    · exact .inl ⟨o, by repeat (first | exact List.Mem.head _ | refine List.Mem.tail _ ?_)⟩
    rcases List.mem_cons.mp hp with rfl | hp
    · exact .inl ⟨ob, by repeat (first | exact List.Mem.head _ | refine List.Mem.tail _ ?_)⟩
    rcases List.mem_cons.mp hp with rfl | hp
    · exact .inl ⟨om, by repeat (first | exact List.Mem.head _ | refine List.Mem.tail _ ?_)⟩
    rcases List.mem_cons.mp hp with rfl | hp
    · exact .inl ⟨ov, by repeat (first | exact List.Mem.head _ | refine List.Mem.tail _ ?_)⟩
    rcases List.mem_cons.mp hp with rfl | hp
    · exact .inl ⟨oa', by repeat (first | exact List.Mem.head _ | refine List.Mem.tail _ ?_)⟩
    rcases List.mem_cons.mp hp with rfl | hp
    · exact .inl ⟨oc, by repeat (first | exact List.Mem.head _ | refine List.Mem.tail _ ?_)⟩
    rcases List.mem_cons.mp hp with rfl | hp
    · exact .inl ⟨od, by repeat (first | exact List.Mem.head _ | refine List.Mem.tail _ ?_)⟩
    rcases List.mem_cons.mp hp with rfl | hp
    · exact .inl ⟨on, by repeat (first | exact List.Mem.head _ | refine List.Mem.tail _ ?_)⟩
    rcases List.mem_append.mp hp with hp | hp
    · exact .inr fun q hq => Ne.symm (hap q (by repeat (first | exact List.mem_append_right _ hq | refine List.Mem.tail _ ?_)) p hp)
    · exact .inl ⟨p.2, by repeat (first | exact hp | refine List.Mem.tail _ ?_)⟩
  · rcases List.mem_append.mp hp with hp | hp
    · refine .inr fun q hq => ?_
      rcases List.mem_cons.mp hq with rfl | hq
      · exact hn47 p hp
      · exact Ne.symm (hap q (List.mem_append_left (R ++ own) hq) p hp)
    · rcases hoR p hp with h | h
      · exact .inl h
      · refine .inr fun q hq => ?_
        rcases List.mem_cons.mp hq with rfl | hq
        · exact h ((47 : Addr), o) (by repeat (first | exact List.Mem.head _ | refine List.Mem.tail _ ?_))
        rcases List.mem_cons.mp hq with rfl | hq
        · exact h (L + 1 + 1 + 1 + 1 + 1 + 1 + 1, ob) (by repeat (first | exact List.Mem.head _ | refine List.Mem.tail _ ?_))
        rcases List.mem_cons.mp hq with rfl | hq
        · exact h (L + 1 + 1 + 1 + 1 + 1 + 1, om) (by repeat (first | exact List.Mem.head _ | refine List.Mem.tail _ ?_))
        rcases List.mem_cons.mp hq with rfl | hq
        · exact h (L + 1 + 1 + 1 + 1 + 1, ov) (by repeat (first | exact List.Mem.head _ | refine List.Mem.tail _ ?_))
        rcases List.mem_cons.mp hq with rfl | hq
        · exact h (L + 1 + 1 + 1 + 1, oa') (by repeat (first | exact List.Mem.head _ | refine List.Mem.tail _ ?_))
        rcases List.mem_cons.mp hq with rfl | hq
        · exact h (L + 1 + 1 + 1, oc) (by repeat (first | exact List.Mem.head _ | refine List.Mem.tail _ ?_))
        rcases List.mem_cons.mp hq with rfl | hq
        · exact h (L + 1 + 1, od) (by repeat (first | exact List.Mem.head _ | refine List.Mem.tail _ ?_))
        rcases List.mem_cons.mp hq with rfl | hq
        · exact h (L + 1, on) (by repeat (first | exact List.Mem.head _ | refine List.Mem.tail _ ?_))
        · exact nomatch hq
theorem ne_same {prog : Program} {w : World} {A : Around} {E : Value → Shared → Prop} {s : Shared} {Q : Value → Shared → Prop} {a b : Addr} {p q r : Int} {t0 t1 t2 u0 u1 u2 : Tok} (ha : s.heap.IsList a #[.int p t0, .int q t1, .int r t2]) (hb : s.heap.IsList b #[.int p u0, .int q u1, .int r u2]) (hu : A.units + 64 < cLine)
    (h : Q (.bool false) s) : wpAny (model prog w) A (compareOp .NotEq (.ref a) (.ref b)) Q E s :=
  ke_ne_ints (xs := [.int p t0, .int q t1, .int r t2]) (ys := [.int p u0, .int q u1, .int r u2]) (ns := [p, q, r]) (ms := [p, q, r]) ha hb (.cons _ _ (.cons _ _ (.cons _ _ .nil))) (.cons _ _ (.cons _ _ (.cons _ _ .nil))) hu (by simpa using h)
theorem kw79 : True := by
  k_with "compareOp NotEq ref ref" => (k_here; k_dflt (refine' ne_same ?naZk ?nbZk ?nuZk ?_; (case naZk => assumption); (case nbZk => assumption); (case nuZk => (show _ + 64 < 9900; omega)); k_whole))
  trivial
theorem stm6 {prog : Program} {w : World} {dp un : Nat} {gd : Option (List Code)} {base h₀ : Heap} {p : Program} {loose : List Str} {mean : ExcName → Option Value} {mg mb : Str → Option Value} {A₀ : Around} {s : Shared} {L fa : Addr} {cd : Value} {m : Str → Option Value} {Q : Flow → Shared → Prop} {ob om ov oa oc od on : Obj}
    (B : Below A₀ base [] h₀) (X : (hd.heap_39 w.params).In h₀) (T : Top p loose mean mg mb h₀) (hdp : dp + 100 < 1000) (hun : un + 1000 < 9900)
    (XB : (hd.heap_39 w.params).In base) (TB : Top p loose mean mg mb base)
    {led : List (Addr × Obj)} {lw lc : Addr} {wvs cvs : List Value} {nc : Nat} {xs : List Int} {n : Int} {tn td : Tok} {va : Option Value}
    (F : Fr h₀ L s.heap m) (N : News h₀ L s.heap (((47 : Addr), tabObj #[]) :: (L + 1 + 1 + 1 + 1 + 1 + 1 + 1, ob) :: (L + 1 + 1 + 1 + 1 + 1 + 1, om) :: (L + 1 + 1 + 1 + 1 + 1, ov) :: (L + 1 + 1 + 1 + 1, oa) :: (L + 1 + 1 + 1, oc) :: (L + 1 + 1, od) :: (L + 1, on) ::  led)) (h47 : @LT.lt Nat _ 47 L) (hoff47 : ∀ p ∈ led, p.1 ≠ (47 : Addr)) (hoffA : ∀ p ∈ led, p.1 ≠ L + 1 + 1 + 1 + 1)
    (hoa : oa.data = .cell va) (hon : on.data = .cell (some (.int n tn))) (hod : od.data = .cell (some (.int (dvs n) td))) (hn6 : 6 ≤ n) (hn37 : n ≤ 37) (hoc : oc.data = .cell (some (.ref lc)))
    (hm : m (Str.ofString "wholes") = some (.ref lw)) (hlw : (lw, lst wvs) ∈ led) (hW : Rows (fun j v _ => ∃ x t, xs[j]? = some x ∧ v = .int (whl n x) t) xs.length wvs led)
    (hlc : (lc, PySem.W.listOf cvs.toArray nc) ∈ led) (hC : Rows (RC xs) xs.length cvs led) (hk : xs.length ≤ 5) (hk0 : 0 < xs.length) (hTD : TD w.params led)
    (h : ∀ h' tk' m' oa' v₀ o R, (∀ y, y ≠ Str.ofString "parts" → m' y = m y) → Fr h₀ L h' m' → News h₀ L h' (((47 : Addr), o) :: (L + 1 + 1 + 1 + 1 + 1 + 1 + 1, ob) :: (L + 1 + 1 + 1 + 1 + 1 + 1, om) :: (L + 1 + 1 + 1 + 1 + 1, ov) :: (L + 1 + 1 + 1 + 1, oa') :: (L + 1 + 1 + 1, oc) :: (L + 1 + 1, od) :: (L + 1, on) ::  R) → oa'.data = .cell v₀ → (∀ p ∈ led, p ∈ R) → F47 w.params o R → (∀ p ∈ R, p ∈ led ∨ ∀ q ∈ ((47 : Addr), o) :: (L + 1 + 1 + 1 + 1 + 1 + 1 + 1, ob) :: (L + 1 + 1 + 1 + 1 + 1 + 1, om) :: (L + 1 + 1 + 1 + 1 + 1, ov) :: (L + 1 + 1 + 1 + 1, oa') :: (L + 1 + 1 + 1, oc) :: (L + 1 + 1, od) :: (L + 1, on) ::  [], p.1 ≠ q.1) → Q .next { s with heap := h', toks := tk' }) :
    wpAny (model prog w) (Ar dp un gd [(envOfC (Str.ofString "law") (lawScope w.params) L fa cd)]) (exec (lawS6 w.params) (envOfC (Str.ofString "law") (lawScope w.params) L fa cd)) Q (fun _ _ => False) s := by
  dsimp only [lawS6, lawScope]
  k_steps
  have up : ∀ {q : Addr × Obj}, q ∈ led → q ∈ ((47 : Addr), tabObj #[]) :: (L + 1 + 1 + 1 + 1 + 1 + 1 + 1, ob) :: (L + 1 + 1 + 1 + 1 + 1 + 1, om) :: (L + 1 + 1 + 1 + 1 + 1, ov) :: (L + 1 + 1 + 1 + 1, oa) :: (L + 1 + 1 + 1, oc) :: (L + 1 + 1, od) :: (L + 1, on) ::  led := fun hq => by repeat (first | exact hq | refine List.Mem.tail _ ?_)
  (k_dflt (refine' zip_for (n := xs.length) (o1 := lst wvs) (o2 := PySem.W.listOf cvs.toArray nc) (v1 := wvs) (v2 := cvs) (n1 := wvs.length) (n2 := nc) (J6 w.params L ob om ov oc od on led m) rfl F N (up hlw) rfl rfl (up hlc) rfl rfl hW.len hC.len ⟨fun _ _ => rfl, oa, va, _, led, rfl, hoa, fun _ h => h, .inr ⟨rfl, rfl⟩, fun _ h => .inl h⟩ ?yturn ?ydone))
  (case yturn =>
    intro i vx vy T' m₁ news₁ own h' tk hvx hvy hT' hJ F' N' o1
    obtain ⟨hk1, oa', v₀, o, R, rfl, hoa', hsub, hF, hoR⟩ := hJ
    obtain ⟨x, tx, hxi, rfl⟩ := hW.all i vx hvx
    obtain ⟨x', a, t0, t1, t2, na, hxi', rfl, hma⟩ := hC.all i vy hvy
    rw [hxi] at hxi'
    cases hxi'
    simp only [List.cons_append] at N'
    generalize hZ : R ++ own = Z at N'
    have hRZ : ∀ p ∈ R, p ∈ Z := fun p hp => hZ ▸ List.mem_append_left _ hp
    have hZo : ∀ c o', (c, o') ∈ ((47 : Addr), tabObj #[]) :: (L + 1 + 1 + 1 + 1 + 1 + 1 + 1, ob) :: (L + 1 + 1 + 1 + 1 + 1 + 1, om) :: (L + 1 + 1 + 1 + 1 + 1, ov) :: (L + 1 + 1 + 1 + 1, oa) :: (L + 1 + 1 + 1, oc) :: (L + 1 + 1, od) :: (L + 1, on) ::  [] → (∀ p ∈ led, p.1 ≠ c) → ∀ p ∈ Z, p ∈ R ∨ p.1 ≠ c := fun c o' hc hl p hp => by
      rw [← hZ] at hp
      rcases List.mem_append.mp hp with hp | hp
      · exact .inl hp
      · refine .inr (Ne.symm (o1 p hp (c, o') ?_ (fun e => hl _ hlw e.symm) (fun e => hl _ hlc e.symm)))
        simp only [List.mem_cons, List.not_mem_nil, or_false] at hc ⊢
        rcases hc with h | h | h | h | h | h | h | h <;> simp [h]
    have hZA : ∀ p ∈ Z, p.1 ≠ L + 1 + 1 + 1 + 1 := fun p hp => by
      rcases hZo (L + 1 + 1 + 1 + 1) oa (by simp) hoffA p hp with h | h
      · rcases hoR p h with h | h
        · exact hoffA p h
        · exact h (L + 1 + 1 + 1 + 1, oa') (by simp)
      · exact h
    have hZ47 : ∀ p ∈ Z, p.1 ≠ (47 : Addr) := fun p hp => by
      rcases hZo 47 (tabObj #[]) (.head _) hoff47 p hp with h | h
      · rcases hoR p h with h | h
        · exact hoff47 p h
        · exact h _ (.head _)
      · exact h
    k_steps
    (rename Fr _ _ _ _ => Fz)
    (rename News _ _ _ _ => Nz)
    (rename (_ : Obj).data = Data.cell (some (Value.int (whl n x) _)) => dz)
    (rename Obj => oz)
    have hrZ : ∀ {q : Addr × Obj}, q ∈ Z → q ∈ (L + 1 + 1 + 1 + 1 + 1 + 1 + 1, ob) :: (L + 1 + 1 + 1 + 1 + 1 + 1, om) :: (L + 1 + 1 + 1 + 1 + 1, ov) :: (L + 1 + 1 + 1 + 1, oz) :: (L + 1 + 1 + 1, oc) :: (L + 1 + 1, od) :: (L + 1, on) ::  Z := fun hq => by repeat (first | exact hq | refine List.Mem.tail _ ?_)
    refine useI (Zs := R) (fun p hp => hrZ (hRZ p hp)) hn6 hn37 (hTD.sub fun p hp => hrZ (hRZ _ (hsub p hp))) (t47_of hF fun _ h => h) B Fz Nz (cells47 h47 hZ47) X T rfl rfl hdp hun ?_
    intro l h2 tk2 c oc2 vs tt o' u0 u1 u2 new F2 N2 eo hc' hdt hv hap hl47 hn47
    have N3 := newsSub N2 (reord6 (cs := (L + 1 + 1 + 1 + 1 + 1 + 1 + 1, ob) :: (L + 1 + 1 + 1 + 1 + 1 + 1, om) :: (L + 1 + 1 + 1 + 1 + 1, ov) :: (L + 1 + 1 + 1 + 1, oz) :: (L + 1 + 1 + 1, oc) :: (L + 1 + 1, od) :: (L + 1, on) ::  []))
    generalize hW' : new ++ Z = W at N3
    have hZW : ∀ {q : Addr × Obj}, q ∈ Z → q ∈ W := fun hq => hW' ▸ List.mem_append_right _ hq
    have hrW : ∀ {q : Addr × Obj}, q ∈ W → q ∈ ((47 : Addr), o') :: (l, PySem.W.listOf #[.int (c0 x) u0, .int (c1 x) u1, .int (c2 x) u2] 0) :: (L + 1 + 1 + 1 + 1 + 1 + 1 + 1, ob) :: (L + 1 + 1 + 1 + 1 + 1 + 1, om) :: (L + 1 + 1 + 1 + 1 + 1, ov) :: (L + 1 + 1 + 1 + 1, oz) :: (L + 1 + 1 + 1, oc) :: (L + 1 + 1, od) :: (L + 1, on) ::  W := fun hq => by repeat (first | exact hq | refine List.Mem.tail _ ?_)
    have hF' : F47 w.params o' W := ⟨c, oc2, vs, tt, eo, by rw [← hW']; exact (List.mem_append.mp hc').elim (fun h => List.mem_append_left _ h) fun h => List.mem_append_right _ (hRZ _ h), hdt, hv⟩
    have htab : ∀ {hh : Heap}, News h₀ L hh (((47 : Addr), o') :: (l, PySem.W.listOf #[.int (c0 x) u0, .int (c1 x) u1, .int (c2 x) u2] 0) :: (L + 1 + 1 + 1 + 1 + 1 + 1 + 1, ob) :: (L + 1 + 1 + 1 + 1 + 1 + 1, om) :: (L + 1 + 1 + 1 + 1 + 1, ov) :: (L + 1 + 1 + 1 + 1, oz) :: (L + 1 + 1 + 1, oc) :: (L + 1 + 1, od) :: (L + 1, on) ::  W) → Tabs w.params hh := fun NN =>
      tabsOf (hTD.sub fun p hp => hrW (hZW (hRZ _ (hsub p hp)))) ⟨let ⟨c, oc, vs, t, e1, e2, e3, e4⟩ := hF'; ⟨c, oc, vs, t, e1 ▸ .head _, hrW e2, e3, e4⟩⟩ NN fun _ hp => hp
    have hla : h2.IsList l #[.int (c0 x) u0, .int (c1 x) u1, .int (c2 x) u2] := isListOf N3 (.tail _ (.head _))
    have hlb : h2.IsList a #[.int (c0 x) t0, .int (c1 x) t1, .int (c2 x) t2] := isListOf N3 (hrW (hZW (hRZ _ (hsub _ hma))))
    clear N2 Nz Fz
    obtain ⟨g1, g2, g3, g4⟩ := dv_ok hn6 hn37 x
    k_steps
    refine useR (dp := dp) (un := un) (gd := gd) X T (fun G D => refused (whl n x) _ prog w dp un gd base _ p loose mean mg mb _ G XB TB D (by omega) (by omega)) B F2 N3 rfl rfl rfl rfl fun h4 tk4 F4 N4 => ?_
    clear F2 N3 hla hlb
    k_steps
    k_dflt (refine' use (divs w.params (whl n x) (dvs n) _ _ g1 g2 g3) ?uB ?uF ?uN ?uX ?uT ?uA ?uf ?uk ?ud ?uu ?up ?_)
    (case uB => k_asm)
    (case uF => k_asm)
    (case uN => k_asm)
    (case uX => k_asm)
    (case uT => k_asm)
    (case uA => exact rfl)
    (case uf => exact rfl)
    (case uk => exact rfl)
    (case ud => first | with_reducible exact Mine.dU0 (by assumption) | with_reducible exact Mine.dU1 (by assumption) (by decide) | with_reducible exact Mine.dU2 (by assumption) (by decide) | omega | (dsimp only;  omega))
    (case uu => first | with_reducible exact Mine.dU0 (by assumption) | with_reducible exact Mine.dU1 (by assumption) (by decide) | with_reducible exact Mine.dU2 (by assumption) (by decide) | omega | (dsimp only;  omega))
    (case up => exact htab N4)
    intro v5 h5 tk5 new5 F5 N5 ap5 P5
    obtain ⟨rfl, rfl⟩ := P5
    simp only [List.cons_append, List.nil_append] at N5 ap5

    clear F4 N4
    k_steps
    k_dflt (refine' use (divs w.params (-whl n x) (dvs n) _ _ g1 g2 (by rw [Int.natAbs_neg]; exact g3)) ?uB ?uF ?uN ?uX ?uT ?uA ?uf ?uk ?ud ?uu ?up ?_)
    (case uB => k_asm)
    (case uF => k_asm)
    (case uN => k_asm)
    (case uX => k_asm)
    (case uT => k_asm)
    (case uA => exact rfl)
    (case uf => exact rfl)
    (case uk => exact rfl)
    (case ud => first | with_reducible exact Mine.dU0 (by assumption) | with_reducible exact Mine.dU1 (by assumption) (by decide) | with_reducible exact Mine.dU2 (by assumption) (by decide) | omega | (dsimp only;  omega))
    (case uu => first | with_reducible exact Mine.dU0 (by assumption) | with_reducible exact Mine.dU1 (by assumption) (by decide) | with_reducible exact Mine.dU2 (by assumption) (by decide) | omega | (dsimp only;  omega))
    (case up => exact htab N5)
    intro v6 h6 tk6 new6 F6 N6 ap6 P6
    obtain ⟨rfl, rfl⟩ := P6
    simp only [List.cons_append, List.nil_append] at N6 ap6

    clear F5 N5
    k_steps
    k_dflt (refine' use (divs w.params (whl n x) (-dvs n) _ _ (by omega) (by rw [Int.natAbs_neg]; exact g2) (by rw [g4]; exact g3)) ?uB ?uF ?uN ?uX ?uT ?uA ?uf ?uk ?ud ?uu ?up ?_)
    (case uB => k_asm)
    (case uF => k_asm)
    (case uN => k_asm)
    (case uX => k_asm)
    (case uT => k_asm)
    (case uA => exact rfl)
    (case uf => exact rfl)
    (case uk => exact rfl)
    (case ud => first | with_reducible exact Mine.dU0 (by assumption) | with_reducible exact Mine.dU1 (by assumption) (by decide) | with_reducible exact Mine.dU2 (by assumption) (by decide) | omega | (dsimp only;  omega))
    (case uu => first | with_reducible exact Mine.dU0 (by assumption) | with_reducible exact Mine.dU1 (by assumption) (by decide) | with_reducible exact Mine.dU2 (by assumption) (by decide) | omega | (dsimp only;  omega))
    (case up => exact htab N6)
    intro v7 h7 tk7 new7 F7 N7 ap7 P7
    obtain ⟨rfl, rfl⟩ := P7
    simp only [List.cons_append, List.nil_append] at N7 ap7

    clear F6 N6
    k_steps
    k_dflt (refine' use (divs w.params (-whl n x) (-dvs n) _ _ (by omega) (by rw [Int.natAbs_neg]; exact g2) (by rw [g4, Int.natAbs_neg]; exact g3)) ?uB ?uF ?uN ?uX ?uT ?uA ?uf ?uk ?ud ?uu ?up ?_)
    (case uB => k_asm)
    (case uF => k_asm)
    (case uN => k_asm)
    (case uX => k_asm)
    (case uT => k_asm)
    (case uA => exact rfl)
    (case uf => exact rfl)
    (case uk => exact rfl)
    (case ud => first | with_reducible exact Mine.dU0 (by assumption) | with_reducible exact Mine.dU1 (by assumption) (by decide) | with_reducible exact Mine.dU2 (by assumption) (by decide) | omega | (dsimp only;  omega))
    (case uu => first | with_reducible exact Mine.dU0 (by assumption) | with_reducible exact Mine.dU1 (by assumption) (by decide) | with_reducible exact Mine.dU2 (by assumption) (by decide) | omega | (dsimp only;  omega))
    (case up => exact htab N7)
    intro v8 h8 tk8 new8 F8 N8 ap8 P8
    obtain ⟨rfl, rfl⟩ := P8
    simp only [List.cons_append, List.nil_append] at N8 ap8

    clear F7 N7
    k_steps
    subst hW' hZ
    exact end6 F8 N8 (fun y h1 => by simp only [if_neg h1]; exact hk1 y h1) dz hsub ⟨c, oc2, vs, tt, eo, hc', hdt, hv⟩ (fun q hq => (hap q hq).2) hn47 hoR)
  intro h' tk m' news' hJ F' N'
  obtain ⟨hk1, oa', v₀, o, R, rfl, hoa', hsub, hF, hoR⟩ := hJ
  rcases hF with hF | ⟨h0, _⟩
  · exact h h' tk m' oa' v₀ o R hk1 F' N' hoa' hsub hF hoR
  · omega
end Mine
end
/-! part L11A -/
section
open PySem PySem.W PyProof.Rows PySem.Calls PySem.Spec
set_option Elab.async false
set_option maxRecDepth 100000
set_option maxHeartbeats 1000000
set_option linter.unusedSimpArgs false
set_option linter.unusedVariables false
namespace Mine
theorem kw80 : True := by
  w_top off
  k_with_none
  k_with "mine ne" => first | (with_reducible first | assumption | (refine Ne.symm ?_; assumption)) | (with_reducible ((repeat (first | (rename ((_ ≠ _ ∧ _) ∧ _) => hZk; obtain ⟨_, _⟩ := hZk) | (rename (_ ≠ _ ∧ _) => hZk; obtain ⟨_, _⟩ := hZk))); first | assumption | (refine Ne.symm ?_; assumption))) | ((repeat (refine Mine.aS ?_)); (first | refine Nat.ne_of_lt ?_ | refine Nat.ne_of_gt ?_); (repeat (first | exact Mine.lA _ | refine Mine.lB ?_)); done) | (with_reducible ((repeat (rename (@LT.lt _ _ _ _ ∧ _) => hZk; obtain ⟨_, _⟩ := hZk)); first | (refine Nat.ne_of_lt ?_; assumption) | (refine Nat.ne_of_gt ?_; assumption)))
  trivial
open LCg

section
variable {prog : Program} {w : World} {A : Around} {E : Value → Shared → Prop} {s : Shared} {Q : Value → Shared → Prop} {a b : Int} {t u : Tok} {x y : Str} {al : Bool} {h₀ : Heap} {L : Addr} {news : List (Addr × Obj)}
theorem eqI (e : (a == b) = al) (h : Q (.bool al) s) : wpAny (model prog w) A (compareOp .Eq (.int a t) (.int b u)) Q E s := PyProof.Rows.eq_int (by rw [e]; exact h)
theorem eqS (e : (x == y) = al) (h : Q (.bool al) s) : wpAny (model prog w) A (compareOp .Eq (.str x t) (.str y u)) Q E s := PyProof.Rows.eq_str (by rw [e]; exact h)
/-- two tuples of two ints -/
theorem eqT {c d : Addr} {p q p' q' : Int} {t1 t2 t3 t4 : Tok} (N : News h₀ L s.heap news) (hc : (c, tup2i p q t1 t2) ∈ news) (hd : (d, tup2i p' q' t3 t4) ∈ news) (hu : A.units + 64 < cLine) (e : (p == p' && q == q') = al) (h : Q (.bool al) s) :
    wpAny (model prog w) A (compareOp .Eq (.ref c) (.ref d)) Q E s := by
  refine eq_dataH (reads_tuple_at (N.get hc) rfl rfl (.cons (.int p t1) (.cons (.int q t2) .nil))) (reads_tuple_at (N.get hd) rfl rfl (.cons (.int p' t3) (.cons (.int q' t4) .nil))) (by rfl) (by rfl) hu ?_
  have e2 : PyData.eqv (.tuple [.int p, .int q]) (.tuple [.int p', .int q']) = al := by
    rw [← e]
    simp [PyData.eqv, PyData.eqvAll]
  rw [e2]; exact h
/-- an item of a made list at a place that is known -/
theorem itL {value slice : PySem.Expr} {l : Addr} {vs : List Value} {nn : Nat} {k : Int} {v : Value} (N : News h₀ L s.heap news) (hl : (l, PySem.W.listOf vs.toArray nn) ∈ news) (h0 : 0 ≤ k) (h9 : k < 1000) (hx : vs[k.toNat]? = some v) (h : Q v s)
    (hs : subscripted slice false (.ref l) (.int k u) = operate [.ref l, .int k u] (getItem (.ref l) (.int k u)) := by with_unfolding_all rfl) :
    wpAny (model prog w) A (subscriptTail value slice (.ref l) (.int k u)) Q E s :=
  tail_any (isListOf N hl).typeIs slot_list_getitem.lookup (wpAny_getItem_list (isListOf N hl) h0 (by omega) (by simpa using hx) h) hs
/-- an item of a made tuple of three -/
theorem itT {value slice : PySem.Expr} {c b1 b2 b3 : Addr} {k : Int} {v : Value} (N : News h₀ L s.heap news) (hc : (c, tup3r b1 b2 b3) ∈ news) (h0 : 0 ≤ k) (h9 : k < 3) (hx : ([.ref b1, .ref b2, .ref b3] : List Value)[k.toNat]? = some v) (h : Q v s)
    (hs : subscripted slice false (.ref c) (.int k u) = operate [.ref c, .int k u] (getItem (.ref c) (.int k u)) := by with_unfolding_all rfl) (hg : ∀ r, letTemporaryGo value (.ref c) r = pure () := by intro _; with_unfolding_all rfl) :
    wpAny (model prog w) A (subscriptTail value slice (.ref c) (.int k u)) Q E s :=
  itemT (vs := [.ref b1, .ref b2, .ref b3]) ⟨_, N.get hc, rfl, _, rfl⟩ h0 (by omega) hx h hs hg
theorem isntSelf {b : Bool} (h : Q (.bool false) s) : wpAny (model prog w) A (compareOp .IsNot (.bool b) (.bool b)) Q E s := wpAny_isNot_self (by cases b <;> rfl) h
/-- two lists of two ints; of three truths, all alike -/
theorem eqL2 {c d : Addr} {p q p' q' : Int} {t1 t2 t3 t4 : Tok} (hc : s.heap.IsList c #[.int p t1, .int q t2]) (hd : s.heap.IsList d #[.int p' t3, .int q' t4]) (hu : A.units + 64 < cLine) (e : decide (p = p' ∧ q = q') = al) (h : Q (.bool al) s) :
    wpAny (model prog w) A (compareOp .Eq (.ref c) (.ref d)) Q E s :=
  ke_eq_ints (xs := [.int p t1, .int q t2]) (ys := [.int p' t3, .int q' t4]) (ns := [p, q]) (ms := [p', q']) hc hd (.cons _ _ (.cons _ _ .nil)) (.cons _ _ (.cons _ _ .nil)) hu (by
    have : decide ([p, q] = [p', q']) = al := by rw [← e]; simp
    rw [this]; exact h)
theorem neB3 {c d : Addr} {k k2 : Nat} {b : Bool} (hc : s.heap.get? c = some { cls := .type "list", data := .seq #[.bool b, .bool b, .bool b] k }) (hd : s.heap.get? d = some { cls := .type "list", data := .seq #[.bool b, .bool b, .bool b] k2 }) (hu : A.units + 64 < cLine) (h : Q (.bool false) s) :
    wpAny (model prog w) A (compareOp .NotEq (.ref c) (.ref d)) Q E s := by
  refine ne_dataH (reads_list_at hc rfl rfl (.cons (.bool b) (.cons (.bool b) (.cons (.bool b) .nil)))) (reads_list_at hd rfl rfl (.cons (.bool b) (.cons (.bool b) (.cons (.bool b) .nil)))) (by rfl) (by rfl) hu ?_
  have e2 : PyData.eqv (.list [.bool b, .bool b, .bool b]) (.list [.bool b, .bool b, .bool b]) = true := by simp [PyData.eqv, PyData.eqvAll]
  rw [e2]; exact h
end
end Mine
end
/-! part L11B -/
section
open PySem PySem.W PyProof.Rows PySem.Calls PySem.Spec
set_option Elab.async false
set_option maxRecDepth 100000
set_option maxHeartbeats 8000000
set_option linter.unusedSimpArgs false
set_option linter.unusedVariables false
namespace Mine
theorem kw81 : True := by
  w_top off
  k_with_none
  k_with "mine ne" => first | (with_reducible first | assumption | (refine Ne.symm ?_; assumption)) | (with_reducible ((repeat (first | (rename ((_ ≠ _ ∧ _) ∧ _) => hZk; obtain ⟨_, _⟩ := hZk) | (rename (_ ≠ _ ∧ _) => hZk; obtain ⟨_, _⟩ := hZk))); first | assumption | (refine Ne.symm ?_; assumption))) | ((repeat (refine Mine.aS ?_)); (first | refine Nat.ne_of_lt ?_ | refine Nat.ne_of_gt ?_); (repeat (first | exact Mine.lA _ | refine Mine.lB ?_)); done) | (with_reducible ((repeat (rename (@LT.lt _ _ _ _ ∧ _) => hZk; obtain ⟨_, _⟩ := hZk)); first | (refine Nat.ne_of_lt ?_; assumption) | (refine Nat.ne_of_gt ?_; assumption)))
  trivial
open LCg
theorem view_al {x y : Int} {al : Bool} (hal : decide (Alike x y) = al) : (5990 * (c0 x - c2 x) - 2773 * (c1 x - c2 x) == 5990 * (c0 y - c2 y) - 2773 * (c1 y - c2 y) && 2130 * (c0 x - c2 x) - 5251 * (c1 x - c2 x) == 2130 * (c0 y - c2 y) - 5251 * (c1 y - c2 y)) = al ∧
    (hueT (c0 x - c2 x) (c1 x - c2 x) == hueT (c0 y - c2 y) (c1 y - c2 y) && sprT (c0 x - c2 x) (c1 x - c2 x) == sprT (c0 y - c2 y) (c1 y - c2 y)) = al := by
  obtain ⟨_, _, _, a1, a2, a3, a4, _⟩ := (col x).le
  obtain ⟨_, _, _, b1, b2, b3, b4, _⟩ := (col y).le
  rw [← hal]
  constructor
  · rw [Bool.eq_iff_iff]
    simp only [Bool.and_eq_true, beq_iff_eq, decide_eq_true_eq]
    exact ⟨fun h => chr_inj h.1 h.2, fun h => by rw [h.1, h.2]; exact ⟨rfl, rfl⟩⟩
  · rw [Bool.eq_iff_iff]
    simp only [Bool.and_eq_true, beq_iff_eq, decide_eq_true_eq]
    exact ⟨fun h => hue_inj ⟨a1, a2⟩ ⟨a3, a4⟩ ⟨b1, b2⟩ ⟨b3, b4⟩ h.1 h.2, fun h => by rw [h.1, h.2]; exact ⟨rfl, rfl⟩⟩
/-- the inner turn's statements -/
def innerOf (s : Stmt) : List Stmt := match s with
  | .For _ _ [.For _ _ b _ _] _ _ => b
  | _ => []
noncomputable def lawT0 (P : Params) : Stmt := by
  refine Subtype.val (p := fun S => (innerOf (lawS11 P)).getD 0 default = S) ⟨?d, ?h⟩
  case h =>
    conv => lhs; whnf
noncomputable def lawT1 (P : Params) : Stmt := by
  refine Subtype.val (p := fun S => (innerOf (lawS11 P)).getD 1 default = S) ⟨?d, ?h⟩
  case h =>
    conv => lhs; whnf
noncomputable def lawT2 (P : Params) : Stmt := by
  refine Subtype.val (p := fun S => (innerOf (lawS11 P)).getD 2 default = S) ⟨?d, ?h⟩
  case h =>
    conv => lhs; whnf
noncomputable def lawT3 (P : Params) : Stmt := by
  refine Subtype.val (p := fun S => (innerOf (lawS11 P)).getD 3 default = S) ⟨?d, ?h⟩
  case h =>
    conv => lhs; whnf
noncomputable def lawT4 (P : Params) : Stmt := by
  refine Subtype.val (p := fun S => (innerOf (lawS11 P)).getD 4 default = S) ⟨?d, ?h⟩
  case h =>
    conv => lhs; whnf
noncomputable def lawT5 (P : Params) : Stmt := by
  refine Subtype.val (p := fun S => (innerOf (lawS11 P)).getD 5 default = S) ⟨?d, ?h⟩
  case h =>
    conv => lhs; whnf
noncomputable def lawT6 (P : Params) : Stmt := by
  refine Subtype.val (p := fun S => (innerOf (lawS11 P)).getD 6 default = S) ⟨?d, ?h⟩
  case h =>
    conv => lhs; whnf
theorem uOk {dp un : Nat} {gd : Option (List Code)} {st : List Env} (h : un + 1000 < 9900) : (Ar dp un gd st).units + 64 < cLine := by
  show un + 64 < 9900
  omega
theorem endsOf1 {h : Heap} {T : Addr} {u1 : Tok} (e : h.get? T = some { cls := .type "tuple", data := .seq #[.str (E1 0) u1] }) : EndsAt h T 1 E1 := by
  refine ⟨[.str (E1 0) u1], ⟨_, e, rfl, _, rfl⟩, rfl, fun k hk => ?_⟩
  match k, hk with
  | 0, _ => exact ⟨u1, rfl⟩
theorem suf7 {a b c d e f g : Addr × Obj} {l Z : List (Addr × Obj)} (h : ∀ p ∈ a :: b :: c :: d :: e :: f :: g :: Z, p ∈ l) : ∀ p ∈ a :: b :: c :: d :: e :: f :: g :: Z, p ∈ l := h
end Mine
end
/-! part L11C0 -/
section
open PySem PySem.W PyProof.Rows PySem.Calls PySem.Spec
set_option Elab.async false
set_option maxRecDepth 100000
set_option maxHeartbeats 1500000
set_option linter.unusedSimpArgs false
set_option linter.unusedVariables false
namespace Mine
open LCg
theorem kw82 : True := by
  w_top off
  k_with_none
  k_with "mine ne" => first | (with_reducible first | assumption | (refine Ne.symm ?_; assumption)) | (with_reducible ((repeat (first | (rename ((_ ≠ _ ∧ _) ∧ _) => hZk; obtain ⟨_, _⟩ := hZk) | (rename (_ ≠ _ ∧ _) => hZk; obtain ⟨_, _⟩ := hZk))); first | assumption | (refine Ne.symm ?_; assumption))) | ((repeat (refine Mine.aS ?_)); (first | refine Nat.ne_of_lt ?_ | refine Nat.ne_of_gt ?_); (repeat (first | exact Mine.lA _ | refine Mine.lB ?_)); done) | (with_reducible ((repeat (rename (@LT.lt _ _ _ _ ∧ _) => hZk; obtain ⟨_, _⟩ := hZk)); first | (refine Nat.ne_of_lt ?_; assumption) | (refine Nat.ne_of_gt ?_; assumption)))
  k_with "eval Name" => (k_here; k_dflt (refine' nameX_L ?k1Zk ?k2Zk ?_ ?kaZk ?kbZk; (case kaZk => rfl); (case kbZk => rfl); (case k1Zk => k_asm); (case k2Zk => with_unfolding_all assumption); k_whole))
  trivial
local macro_rules | `(tactic| k_all) => `(tactic| with_reducible assumption)
local macro_rules | `(tactic| k_mem) => `(tactic| first | with_reducible assumption | assumption)

theorem kw83 : True := by
  k_with "eval ListComp" => (k_here; (with_reducible show wpAny _ _ (eval (PySem.Expr.ListComp _ [⟨PySem.Expr.Name _ _, _, _, _⟩] _ _) _) _ _ _); k_dflt (refine LCg.ListComp_U (F₀ := by k_asm) (by with_unfolding_all rfl) (by decide) (by rfl) (by decide) (by rfl) ?_))
  k_with "compareOp Eq int int" => (k_here; k_dflt (refine' eqI ?keZk ?_; (case keZk => assumption); k_whole))
  k_with "compareOp Eq str str" => (k_here; k_dflt (refine' eqS ?keZk ?_; (case keZk => assumption); k_whole))
  k_with "compareOp IsNot bool bool" => (k_here; k_dflt (refine' isntSelf ?_; k_whole))
  k_with "compareOp Eq ref ref" => (k_here; k_dflt (refine' eqT ?knZk ?kcZk ?kdZk ?kuZk ?keZk ?_; (case knZk => k_asm); (case kcZk => k_mem); (case kdZk => k_mem); (case kuZk => exact uOk (by assumption)); (case keZk => assumption); k_whole))
  k_with "compareOp Eq ref ref" => (k_here; k_dflt (refine' eqL2 ?kcZk ?kdZk ?kuZk ?keZk ?_; (case kcZk => exact isListOf (by assumption) (by k_mem)); (case kdZk => exact isListOf (by assumption) (by k_mem)); (case kuZk => exact uOk (by assumption)); (case keZk => assumption); k_whole))
  k_with "compareOp NotEq ref ref" => (k_here; k_dflt (refine' neB3 ?kcZk ?kdZk ?kuZk ?_; (case kcZk => exact News.get (by assumption) (by k_mem)); (case kdZk => exact News.get (by assumption) (by k_mem)); (case kuZk => exact uOk (by assumption)); k_whole))
  k_with "subscriptTail" => (k_here; (with_reducible show wpAny _ _ (subscriptTail _ _ (Value.ref _) (Value.int _ _)) _ _ _); k_dflt (refine' itT ?knZk ?kmZk ?k0Zk ?k9Zk ?kxZk ?_; (case knZk => k_asm); (case kmZk => k_mem); (case k0Zk => decide); (case k9Zk => decide); (case kxZk => exact rfl); k_whole))
  k_with "subscriptTail" => (k_here; (with_reducible show wpAny _ _ (subscriptTail _ _ (Value.ref _) (Value.int _ _)) _ _ _); k_dflt (refine' itL ?knZk ?kmZk ?k0Zk ?k9Zk ?kxZk ?_; (case knZk => k_asm); (case kmZk => k_mem); (case k0Zk => first | assumption | decide); (case k9Zk => first | assumption | decide); (case kxZk => first | with_reducible assumption | assumption | exact rfl); k_whole))
  k_with "CompSrc" => (k_here; k_dflt (refine LCg.CompSrc.range (by rfl) (by k_asm) (by k_asm) (by assumption) (by first | decide | rfl) (by first | rfl | decide) (by first | size_fits | exact Nat.le_of_ble_eq_true rfl) ?_; intro g'Zk; lcg_lit))
  k_with "CompEnd" => (k_here; k_dflt (refine LCg.CompEnd.intro (by k_asm) (by k_asm) _ (fun p hp => hp) (by assumption) trivial ?_))
  trivial
theorem trn0 {prog : Program} {w : World} {dp un : Nat} {gd : Option (List Code)} {base h₀ : Heap} {p : Program} {loose : List Str} {mean : ExcName → Option Value} {mg mb : Str → Option Value} {A₀ : Around} {s : Shared} {L fa : Addr} {cd : Value} {m : Str → Option Value} {Q : Flow → Shared → Prop} {ob om ov oa oc od on : Obj}
    (B : Below A₀ base [] h₀) (X : (hd.heap_39 w.params).In h₀) (T : Top p loose mean mg mb h₀) (hdp : dp + 100 < 1000) (hun : un + 1000 < 9900)
    {Z : List (Addr × Obj)} {ka kb : Int} {ta tb : Tok} (hoa : oa.data = .cell (some (.int ka ta))) (hob : ob.data = .cell (some (.int kb tb))) (ka0 : 0 ≤ ka) (ka9 : ka < 1000) (kb0 : 0 ≤ kb) (kb9 : kb < 1000) {lc : Addr} {cvs : List Value} {nc : Nat} {x y : Int} {al : Bool} (hoc : oc.data = .cell (some (.ref lc))) (mlc : (lc, PySem.W.listOf cvs.toArray nc) ∈ Z)
    {ca : Addr} {nca : Nat} {ua0 ua1 ua2 : Tok} (hca : cvs[ka.toNat]? = some (.ref ca)) (mca : (ca, PySem.W.listOf #[.int (c0 x) ua0, .int (c1 x) ua1, .int (c2 x) ua2] nca) ∈ Z)
    {cb : Addr} {ncb : Nat} {ub0 ub1 ub2 : Tok} (hcb : cvs[kb.toNat]? = some (.ref cb)) (mcb : (cb, PySem.W.listOf #[.int (c0 y) ub0, .int (c1 y) ub1, .int (c2 y) ub2] ncb) ∈ Z) (hal : decide (Alike x y) = al)
    (F : Fr h₀ L s.heap m) (N : News h₀ L s.heap ((L + 1 + 1 + 1 + 1 + 1 + 1 + 1, ob) :: (L + 1 + 1 + 1 + 1 + 1 + 1, om) :: (L + 1 + 1 + 1 + 1 + 1, ov) :: (L + 1 + 1 + 1 + 1, oa) :: (L + 1 + 1 + 1, oc) :: (L + 1 + 1, od) :: (L + 1, on) ::  Z))
    (h : ∀ h' tk' m', m' (Str.ofString "alike") = some (.bool al) ∧ (∀ z, z ≠ Str.ofString "alike" → m' z = m z) → Fr h₀ L h' m' → News h₀ L h' ((L + 1 + 1 + 1 + 1 + 1 + 1 + 1, ob) :: (L + 1 + 1 + 1 + 1 + 1 + 1, om) :: (L + 1 + 1 + 1 + 1 + 1, ov) :: (L + 1 + 1 + 1 + 1, oa) :: (L + 1 + 1 + 1, oc) :: (L + 1 + 1, od) :: (L + 1, on) ::  Z) → Q .next { s with heap := h', toks := tk' }) :
    wpAny (model prog w) (Ar dp un gd [(envOfC (Str.ofString "law") (lawScope w.params) L fa cd)]) (exec (lawT0 w.params) (envOfC (Str.ofString "law") (lawScope w.params) L fa cd)) Q (fun _ _ => False) s := by
  dsimp only [lawT0, lawScope]
  k_steps
  refine h _ _ _ ?a1 (by assumption) (newsSub (by assumption) fun p hp => by repeat (first | exact hp | refine List.Mem.tail _ ?_))
  case a1 => exact ⟨by first | rfl | simp, fun z hz => by first | exact if_neg hz | simp [hz]⟩
end Mine
end
/-! part L11C1 -/
section
open PySem PySem.W PyProof.Rows PySem.Calls PySem.Spec
set_option Elab.async false
set_option maxRecDepth 100000
set_option maxHeartbeats 1500000
set_option linter.unusedSimpArgs false
set_option linter.unusedVariables false
namespace Mine
open LCg
theorem kw84 : True := by
  w_top off
  k_with_none
  k_with "mine ne" => first | (with_reducible first | assumption | (refine Ne.symm ?_; assumption)) | (with_reducible ((repeat (first | (rename ((_ ≠ _ ∧ _) ∧ _) => hZk; obtain ⟨_, _⟩ := hZk) | (rename (_ ≠ _ ∧ _) => hZk; obtain ⟨_, _⟩ := hZk))); first | assumption | (refine Ne.symm ?_; assumption))) | ((repeat (refine Mine.aS ?_)); (first | refine Nat.ne_of_lt ?_ | refine Nat.ne_of_gt ?_); (repeat (first | exact Mine.lA _ | refine Mine.lB ?_)); done) | (with_reducible ((repeat (rename (@LT.lt _ _ _ _ ∧ _) => hZk; obtain ⟨_, _⟩ := hZk)); first | (refine Nat.ne_of_lt ?_; assumption) | (refine Nat.ne_of_gt ?_; assumption)))
  k_with "eval Name" => (k_here; k_dflt (refine' nameX_L ?k1Zk ?k2Zk ?_ ?kaZk ?kbZk; (case kaZk => rfl); (case kbZk => rfl); (case k1Zk => k_asm); (case k2Zk => with_unfolding_all assumption); k_whole))
  trivial
local macro_rules | `(tactic| k_all) => `(tactic| with_reducible assumption)
local macro_rules | `(tactic| k_mem) => `(tactic| first | with_reducible assumption | assumption)

theorem kw85 : True := by
  k_with "eval ListComp" => (k_here; (with_reducible show wpAny _ _ (eval (PySem.Expr.ListComp _ [⟨PySem.Expr.Name _ _, _, _, _⟩] _ _) _) _ _ _); k_dflt (refine LCg.ListComp_U (F₀ := by k_asm) (by with_unfolding_all rfl) (by decide) (by rfl) (by decide) (by rfl) ?_))
  k_with "compareOp Eq int int" => (k_here; k_dflt (refine' eqI ?keZk ?_; (case keZk => assumption); k_whole))
  k_with "compareOp Eq str str" => (k_here; k_dflt (refine' eqS ?keZk ?_; (case keZk => assumption); k_whole))
  k_with "compareOp IsNot bool bool" => (k_here; k_dflt (refine' isntSelf ?_; k_whole))
  k_with "compareOp Eq ref ref" => (k_here; k_dflt (refine' eqT ?knZk ?kcZk ?kdZk ?kuZk ?keZk ?_; (case knZk => k_asm); (case kcZk => k_mem); (case kdZk => k_mem); (case kuZk => exact uOk (by assumption)); (case keZk => assumption); k_whole))
  k_with "compareOp Eq ref ref" => (k_here; k_dflt (refine' eqL2 ?kcZk ?kdZk ?kuZk ?keZk ?_; (case kcZk => exact isListOf (by assumption) (by k_mem)); (case kdZk => exact isListOf (by assumption) (by k_mem)); (case kuZk => exact uOk (by assumption)); (case keZk => assumption); k_whole))
  k_with "compareOp NotEq ref ref" => (k_here; k_dflt (refine' neB3 ?kcZk ?kdZk ?kuZk ?_; (case kcZk => exact News.get (by assumption) (by k_mem)); (case kdZk => exact News.get (by assumption) (by k_mem)); (case kuZk => exact uOk (by assumption)); k_whole))
  k_with "subscriptTail" => (k_here; (with_reducible show wpAny _ _ (subscriptTail _ _ (Value.ref _) (Value.int _ _)) _ _ _); k_dflt (refine' itT ?knZk ?kmZk ?k0Zk ?k9Zk ?kxZk ?_; (case knZk => k_asm); (case kmZk => k_mem); (case k0Zk => decide); (case k9Zk => decide); (case kxZk => exact rfl); k_whole))
  k_with "subscriptTail" => (k_here; (with_reducible show wpAny _ _ (subscriptTail _ _ (Value.ref _) (Value.int _ _)) _ _ _); k_dflt (refine' itL ?knZk ?kmZk ?k0Zk ?k9Zk ?kxZk ?_; (case knZk => k_asm); (case kmZk => k_mem); (case k0Zk => first | assumption | decide); (case k9Zk => first | assumption | decide); (case kxZk => first | with_reducible assumption | assumption | exact rfl); k_whole))
  k_with "CompSrc" => (k_here; k_dflt (refine LCg.CompSrc.range (by rfl) (by k_asm) (by k_asm) (by assumption) (by first | decide | rfl) (by first | rfl | decide) (by first | size_fits | exact Nat.le_of_ble_eq_true rfl) ?_; intro g'Zk; lcg_lit))
  k_with "CompEnd" => (k_here; k_dflt (refine LCg.CompEnd.intro (by k_asm) (by k_asm) _ (fun p hp => hp) (by assumption) trivial ?_))
  k_with "subscriptTail" => (k_here; (with_reducible show wpAny _ _ (subscriptTail _ _ (Value.ref _) (Value.int 0 _)) _ _ _); k_dflt (refine' it20 ?knZk ?kmZk ?_; (case knZk => k_asm); (case kmZk => k_mem); k_whole))
  k_with "subscriptTail" => (k_here; (with_reducible show wpAny _ _ (subscriptTail _ _ (Value.ref _) (Value.int 1 _)) _ _ _); k_dflt (refine' it21 ?knZk ?kmZk ?_; (case knZk => k_asm); (case kmZk => k_mem); k_whole))
  trivial
theorem trn1 {prog : Program} {w : World} {dp un : Nat} {gd : Option (List Code)} {base h₀ : Heap} {p : Program} {loose : List Str} {mean : ExcName → Option Value} {mg mb : Str → Option Value} {A₀ : Around} {s : Shared} {L fa : Addr} {cd : Value} {m : Str → Option Value} {Q : Flow → Shared → Prop} {ob om ov oa oc od on : Obj}
    (B : Below A₀ base [] h₀) (X : (hd.heap_39 w.params).In h₀) (T : Top p loose mean mg mb h₀) (hdp : dp + 100 < 1000) (hun : un + 1000 < 9900)
    {Z : List (Addr × Obj)} {ka kb : Int} {ta tb : Tok} (hoa : oa.data = .cell (some (.int ka ta))) (hob : ob.data = .cell (some (.int kb tb))) (ka0 : 0 ≤ ka) (ka9 : ka < 1000) (kb0 : 0 ≤ kb) (kb9 : kb < 1000) {lp : Addr} {pvs : List Value} {n x y : Int} {al : Bool} (hmal : m (Str.ofString "alike") = some (.bool al)) (hmp : m (Str.ofString "pairs") = some (.ref lp)) (mlp : (lp, lst pvs) ∈ Z)
    {pa : Addr} {pa1 pa2 : Tok} (hpa : pvs[ka.toNat]? = some (.ref pa)) (mpa : (pa, tup2i (quoN n x) (rstN n x) pa1 pa2) ∈ Z)
    {pb : Addr} {pb1 pb2 : Tok} (hpb : pvs[kb.toNat]? = some (.ref pb)) (mpb : (pb, tup2i (quoN n y) (rstN n y) pb1 pb2) ∈ Z) (er : (rstN n x == rstN n y) = al)
    (F : Fr h₀ L s.heap m) (N : News h₀ L s.heap ((L + 1 + 1 + 1 + 1 + 1 + 1 + 1, ob) :: (L + 1 + 1 + 1 + 1 + 1 + 1, om) :: (L + 1 + 1 + 1 + 1 + 1, ov) :: (L + 1 + 1 + 1 + 1, oa) :: (L + 1 + 1 + 1, oc) :: (L + 1 + 1, od) :: (L + 1, on) ::  Z))
    (h : ∀ h' tk', Fr h₀ L h' m → News h₀ L h' ((L + 1 + 1 + 1 + 1 + 1 + 1 + 1, ob) :: (L + 1 + 1 + 1 + 1 + 1 + 1, om) :: (L + 1 + 1 + 1 + 1 + 1, ov) :: (L + 1 + 1 + 1 + 1, oa) :: (L + 1 + 1 + 1, oc) :: (L + 1 + 1, od) :: (L + 1, on) ::  Z) → Q .next { s with heap := h', toks := tk' }) :
    wpAny (model prog w) (Ar dp un gd [(envOfC (Str.ofString "law") (lawScope w.params) L fa cd)]) (exec (lawT1 w.params) (envOfC (Str.ofString "law") (lawScope w.params) L fa cd)) Q (fun _ _ => False) s := by
  dsimp only [lawT1, lawScope]
  k_steps
  exact h _ _ F (by assumption)
end Mine
end
/-! part L11C2 -/
section
open PySem PySem.W PyProof.Rows PySem.Calls PySem.Spec
set_option Elab.async false
set_option maxRecDepth 100000
set_option maxHeartbeats 1500000
set_option linter.unusedSimpArgs false
set_option linter.unusedVariables false
namespace Mine
open LCg
theorem kw86 : True := by
  w_top off
  k_with_none
  k_with "mine ne" => first | (with_reducible first | assumption | (refine Ne.symm ?_; assumption)) | (with_reducible ((repeat (first | (rename ((_ ≠ _ ∧ _) ∧ _) => hZk; obtain ⟨_, _⟩ := hZk) | (rename (_ ≠ _ ∧ _) => hZk; obtain ⟨_, _⟩ := hZk))); first | assumption | (refine Ne.symm ?_; assumption))) | ((repeat (refine Mine.aS ?_)); (first | refine Nat.ne_of_lt ?_ | refine Nat.ne_of_gt ?_); (repeat (first | exact Mine.lA _ | refine Mine.lB ?_)); done) | (with_reducible ((repeat (rename (@LT.lt _ _ _ _ ∧ _) => hZk; obtain ⟨_, _⟩ := hZk)); first | (refine Nat.ne_of_lt ?_; assumption) | (refine Nat.ne_of_gt ?_; assumption)))
  k_with "eval Name" => (k_here; k_dflt (refine' nameX_L ?k1Zk ?k2Zk ?_ ?kaZk ?kbZk; (case kaZk => rfl); (case kbZk => rfl); (case k1Zk => k_asm); (case k2Zk => with_unfolding_all assumption); k_whole))
  trivial
local macro_rules | `(tactic| k_all) => `(tactic| with_reducible assumption)
local macro_rules | `(tactic| k_mem) => `(tactic| first | with_reducible assumption | assumption)

theorem kw87 : True := by
  k_with "eval ListComp" => (k_here; (with_reducible show wpAny _ _ (eval (PySem.Expr.ListComp _ [⟨PySem.Expr.Name _ _, _, _, _⟩] _ _) _) _ _ _); k_dflt (refine LCg.ListComp_U (F₀ := by k_asm) (by with_unfolding_all rfl) (by decide) (by rfl) (by decide) (by rfl) ?_))
  k_with "compareOp Eq int int" => (k_here; k_dflt (refine' eqI ?keZk ?_; (case keZk => assumption); k_whole))
  k_with "compareOp Eq str str" => (k_here; k_dflt (refine' eqS ?keZk ?_; (case keZk => assumption); k_whole))
  k_with "compareOp IsNot bool bool" => (k_here; k_dflt (refine' isntSelf ?_; k_whole))
  k_with "compareOp Eq ref ref" => (k_here; k_dflt (refine' eqT ?knZk ?kcZk ?kdZk ?kuZk ?keZk ?_; (case knZk => k_asm); (case kcZk => k_mem); (case kdZk => k_mem); (case kuZk => exact uOk (by assumption)); (case keZk => assumption); k_whole))
  k_with "compareOp Eq ref ref" => (k_here; k_dflt (refine' eqL2 ?kcZk ?kdZk ?kuZk ?keZk ?_; (case kcZk => exact isListOf (by assumption) (by k_mem)); (case kdZk => exact isListOf (by assumption) (by k_mem)); (case kuZk => exact uOk (by assumption)); (case keZk => assumption); k_whole))
  k_with "compareOp NotEq ref ref" => (k_here; k_dflt (refine' neB3 ?kcZk ?kdZk ?kuZk ?_; (case kcZk => exact News.get (by assumption) (by k_mem)); (case kdZk => exact News.get (by assumption) (by k_mem)); (case kuZk => exact uOk (by assumption)); k_whole))
  k_with "subscriptTail" => (k_here; (with_reducible show wpAny _ _ (subscriptTail _ _ (Value.ref _) (Value.int _ _)) _ _ _); k_dflt (refine' itT ?knZk ?kmZk ?k0Zk ?k9Zk ?kxZk ?_; (case knZk => k_asm); (case kmZk => k_mem); (case k0Zk => decide); (case k9Zk => decide); (case kxZk => exact rfl); k_whole))
  k_with "subscriptTail" => (k_here; (with_reducible show wpAny _ _ (subscriptTail _ _ (Value.ref _) (Value.int _ _)) _ _ _); k_dflt (refine' itL ?knZk ?kmZk ?k0Zk ?k9Zk ?kxZk ?_; (case knZk => k_asm); (case kmZk => k_mem); (case k0Zk => first | assumption | decide); (case k9Zk => first | assumption | decide); (case kxZk => first | with_reducible assumption | assumption | exact rfl); k_whole))
  k_with "CompSrc" => (k_here; k_dflt (refine LCg.CompSrc.range (by rfl) (by k_asm) (by k_asm) (by assumption) (by first | decide | rfl) (by first | rfl | decide) (by first | size_fits | exact Nat.le_of_ble_eq_true rfl) ?_; intro g'Zk; lcg_lit))
  k_with "CompEnd" => (k_here; k_dflt (refine LCg.CompEnd.intro (by k_asm) (by k_asm) _ (fun p hp => hp) (by assumption) trivial ?_))
  trivial
theorem trn2 {prog : Program} {w : World} {dp un : Nat} {gd : Option (List Code)} {base h₀ : Heap} {p : Program} {loose : List Str} {mean : ExcName → Option Value} {mg mb : Str → Option Value} {A₀ : Around} {s : Shared} {L fa : Addr} {cd : Value} {m : Str → Option Value} {Q : Flow → Shared → Prop} {ob om ov oa oc od on : Obj}
    (B : Below A₀ base [] h₀) (X : (hd.heap_39 w.params).In h₀) (T : Top p loose mean mg mb h₀) (hdp : dp + 100 < 1000) (hun : un + 1000 < 9900)
    {Z : List (Addr × Obj)} {ka kb : Int} {ta tb : Tok} (hoa : oa.data = .cell (some (.int ka ta))) (hob : ob.data = .cell (some (.int kb tb))) (ka0 : 0 ≤ ka) (ka9 : ka < 1000) (kb0 : 0 ≤ kb) (kb9 : kb < 1000) {lv : Addr} {vvs : List Value} {x y : Int} {al : Bool} (hmal : m (Str.ofString "alike") = some (.bool al)) (hov : ov.data = .cell (some (.ref lv))) (mlv : (lv, lst vvs) ∈ Z)
    {va va1 va2 va3 : Addr} {wa1 wa2 wa3 wa4 wa5 wa6 : Tok} (hva : vvs[ka.toNat]? = some (.ref va)) (mva : (va, tup3r va1 va2 va3) ∈ Z) (mva1 : (va1, tup2i (5990 * (c0 x - c2 x) - 2773 * (c1 x - c2 x)) (2130 * (c0 x - c2 x) - 5251 * (c1 x - c2 x)) wa1 wa2) ∈ Z)
      (mva2 : (va2, tup2i (hueT (c0 x - c2 x) (c1 x - c2 x)) (sprT (c0 x - c2 x) (c1 x - c2 x)) wa3 wa4) ∈ Z) (mva3 : (va3, tup2i (hueT (c0 x - c2 x) (c1 x - c2 x)) (sprT (c0 x - c2 x) (c1 x - c2 x)) wa5 wa6) ∈ Z)
    {vb vb1 vb2 vb3 : Addr} {wb1 wb2 wb3 wb4 wb5 wb6 : Tok} (hvb : vvs[kb.toNat]? = some (.ref vb)) (mvb : (vb, tup3r vb1 vb2 vb3) ∈ Z) (mvb1 : (vb1, tup2i (5990 * (c0 y - c2 y) - 2773 * (c1 y - c2 y)) (2130 * (c0 y - c2 y) - 5251 * (c1 y - c2 y)) wb1 wb2) ∈ Z)
      (mvb2 : (vb2, tup2i (hueT (c0 y - c2 y) (c1 y - c2 y)) (sprT (c0 y - c2 y) (c1 y - c2 y)) wb3 wb4) ∈ Z) (mvb3 : (vb3, tup2i (hueT (c0 y - c2 y) (c1 y - c2 y)) (sprT (c0 y - c2 y) (c1 y - c2 y)) wb5 wb6) ∈ Z) (hal : decide (Alike x y) = al)
    (F : Fr h₀ L s.heap m) (N : News h₀ L s.heap ((L + 1 + 1 + 1 + 1 + 1 + 1 + 1, ob) :: (L + 1 + 1 + 1 + 1 + 1 + 1, om) :: (L + 1 + 1 + 1 + 1 + 1, ov) :: (L + 1 + 1 + 1 + 1, oa) :: (L + 1 + 1 + 1, oc) :: (L + 1 + 1, od) :: (L + 1, on) ::  Z))
    (h : ∀ h' tk', Fr h₀ L h' m → News h₀ L h' ((L + 1 + 1 + 1 + 1 + 1 + 1 + 1, ob) :: (L + 1 + 1 + 1 + 1 + 1 + 1, om) :: (L + 1 + 1 + 1 + 1 + 1, ov) :: (L + 1 + 1 + 1 + 1, oa) :: (L + 1 + 1 + 1, oc) :: (L + 1 + 1, od) :: (L + 1, on) ::  Z) → Q .next { s with heap := h', toks := tk' }) :
    wpAny (model prog w) (Ar dp un gd [(envOfC (Str.ofString "law") (lawScope w.params) L fa cd)]) (exec (lawT2 w.params) (envOfC (Str.ofString "law") (lawScope w.params) L fa cd)) Q (fun _ _ => False) s := by
  obtain ⟨e1, e2⟩ := view_al hal
  dsimp only [lawT2, lawScope]
  k_steps
  exact h _ _ (by assumption) (newsSub (by assumption) fun p hp => by repeat (first | exact hp | refine List.Mem.tail _ ?_))
end Mine
end
/-! part L11C3 -/
section
open PySem PySem.W PyProof.Rows PySem.Calls PySem.Spec
set_option Elab.async false
set_option maxRecDepth 100000
set_option maxHeartbeats 1500000
set_option linter.unusedSimpArgs false
set_option linter.unusedVariables false
namespace Mine
open LCg
theorem kw88 : True := by
  w_top off
  k_with_none
  k_with "mine ne" => first | (with_reducible first | assumption | (refine Ne.symm ?_; assumption)) | (with_reducible ((repeat (first | (rename ((_ ≠ _ ∧ _) ∧ _) => hZk; obtain ⟨_, _⟩ := hZk) | (rename (_ ≠ _ ∧ _) => hZk; obtain ⟨_, _⟩ := hZk))); first | assumption | (refine Ne.symm ?_; assumption))) | ((repeat (refine Mine.aS ?_)); (first | refine Nat.ne_of_lt ?_ | refine Nat.ne_of_gt ?_); (repeat (first | exact Mine.lA _ | refine Mine.lB ?_)); done) | (with_reducible ((repeat (rename (@LT.lt _ _ _ _ ∧ _) => hZk; obtain ⟨_, _⟩ := hZk)); first | (refine Nat.ne_of_lt ?_; assumption) | (refine Nat.ne_of_gt ?_; assumption)))
  k_with "eval Name" => (k_here; k_dflt (refine' nameX_L ?k1Zk ?k2Zk ?_ ?kaZk ?kbZk; (case kaZk => rfl); (case kbZk => rfl); (case k1Zk => k_asm); (case k2Zk => with_unfolding_all assumption); k_whole))
  trivial
local macro_rules | `(tactic| k_all) => `(tactic| with_reducible assumption)
local macro_rules | `(tactic| k_mem) => `(tactic| first | with_reducible assumption | assumption)

theorem kw89 : True := by
  k_with "eval ListComp" => (k_here; (with_reducible show wpAny _ _ (eval (PySem.Expr.ListComp _ [⟨PySem.Expr.Name _ _, _, _, _⟩] _ _) _) _ _ _); k_dflt (refine LCg.ListComp_U (F₀ := by k_asm) (by with_unfolding_all rfl) (by decide) (by rfl) (by decide) (by rfl) ?_))
  k_with "compareOp Eq int int" => (k_here; k_dflt (refine' eqI ?keZk ?_; (case keZk => assumption); k_whole))
  k_with "compareOp Eq str str" => (k_here; k_dflt (refine' eqS ?keZk ?_; (case keZk => assumption); k_whole))
  k_with "compareOp IsNot bool bool" => (k_here; k_dflt (refine' isntSelf ?_; k_whole))
  k_with "compareOp Eq ref ref" => (k_here; k_dflt (refine' eqT ?knZk ?kcZk ?kdZk ?kuZk ?keZk ?_; (case knZk => k_asm); (case kcZk => k_mem); (case kdZk => k_mem); (case kuZk => exact uOk (by assumption)); (case keZk => assumption); k_whole))
  k_with "compareOp Eq ref ref" => (k_here; k_dflt (refine' eqL2 ?kcZk ?kdZk ?kuZk ?keZk ?_; (case kcZk => exact isListOf (by assumption) (by k_mem)); (case kdZk => exact isListOf (by assumption) (by k_mem)); (case kuZk => exact uOk (by assumption)); (case keZk => assumption); k_whole))
  k_with "compareOp NotEq ref ref" => (k_here; k_dflt (refine' neB3 ?kcZk ?kdZk ?kuZk ?_; (case kcZk => exact News.get (by assumption) (by k_mem)); (case kdZk => exact News.get (by assumption) (by k_mem)); (case kuZk => exact uOk (by assumption)); k_whole))
  k_with "subscriptTail" => (k_here; (with_reducible show wpAny _ _ (subscriptTail _ _ (Value.ref _) (Value.int _ _)) _ _ _); k_dflt (refine' itT ?knZk ?kmZk ?k0Zk ?k9Zk ?kxZk ?_; (case knZk => k_asm); (case kmZk => k_mem); (case k0Zk => decide); (case k9Zk => decide); (case kxZk => exact rfl); k_whole))
  k_with "subscriptTail" => (k_here; (with_reducible show wpAny _ _ (subscriptTail _ _ (Value.ref _) (Value.int _ _)) _ _ _); k_dflt (refine' itL ?knZk ?kmZk ?k0Zk ?k9Zk ?kxZk ?_; (case knZk => k_asm); (case kmZk => k_mem); (case k0Zk => first | assumption | decide); (case k9Zk => first | assumption | decide); (case kxZk => first | with_reducible assumption | assumption | exact rfl); k_whole))
  k_with "CompSrc" => (k_here; k_dflt (refine LCg.CompSrc.range (by rfl) (by k_asm) (by k_asm) (by assumption) (by first | decide | rfl) (by first | rfl | decide) (by first | size_fits | exact Nat.le_of_ble_eq_true rfl) ?_; intro g'Zk; lcg_lit))
  k_with "CompEnd" => (k_here; k_dflt (refine LCg.CompEnd.intro (by k_asm) (by k_asm) _ (fun p hp => hp) (by assumption) trivial ?_))
  k_with "subscriptTail" => (k_here; (with_reducible show wpAny _ _ (subscriptTail _ _ (Value.ref _) (Value.int 0 _)) _ _ _); k_dflt (refine' it20 ?knZk ?kmZk ?_; (case knZk => k_asm); (case kmZk => k_mem); k_whole))
  k_with "subscriptTail" => (k_here; (with_reducible show wpAny _ _ (subscriptTail _ _ (Value.ref _) (Value.int 1 _)) _ _ _); k_dflt (refine' it21 ?knZk ?kmZk ?_; (case knZk => k_asm); (case kmZk => k_mem); k_whole))
  trivial
theorem trn3 {prog : Program} {w : World} {dp un : Nat} {gd : Option (List Code)} {base h₀ : Heap} {p : Program} {loose : List Str} {mean : ExcName → Option Value} {mg mb : Str → Option Value} {A₀ : Around} {s : Shared} {L fa : Addr} {cd : Value} {m : Str → Option Value} {Q : Flow → Shared → Prop} {ob om ov oa oc od on : Obj}
    (B : Below A₀ base [] h₀) (X : (hd.heap_39 w.params).In h₀) (T : Top p loose mean mg mb h₀) (hdp : dp + 100 < 1000) (hun : un + 1000 < 9900)
    {Z : List (Addr × Obj)} {ka kb : Int} {ta tb : Tok} (hoa : oa.data = .cell (some (.int ka ta))) (hob : ob.data = .cell (some (.int kb tb))) (ka0 : 0 ≤ ka) (ka9 : ka < 1000) (kb0 : 0 ≤ kb) (kb9 : kb < 1000) {lp : Addr} {pvs : List Value} {n x y : Int} (hmp : m (Str.ofString "pairs") = some (.ref lp)) (mlp : (lp, lst pvs) ∈ Z)
    {pa : Addr} {pa1 pa2 : Tok} (hpa : pvs[ka.toNat]? = some (.ref pa)) (mpa : (pa, tup2i (quoN n x) (rstN n x) pa1 pa2) ∈ Z)
    {pb : Addr} {pb1 pb2 : Tok} (hpb : pvs[kb.toNat]? = some (.ref pb)) (mpb : (pb, tup2i (quoN n y) (rstN n y) pb1 pb2) ∈ Z)
    (F : Fr h₀ L s.heap m) (N : News h₀ L s.heap ((L + 1 + 1 + 1 + 1 + 1 + 1 + 1, ob) :: (L + 1 + 1 + 1 + 1 + 1 + 1, om) :: (L + 1 + 1 + 1 + 1 + 1, ov) :: (L + 1 + 1 + 1 + 1, oa) :: (L + 1 + 1 + 1, oc) :: (L + 1 + 1, od) :: (L + 1, on) ::  Z))
    (h : ∀ h' tk' m', (∃ td, m' (Str.ofString "d") = some (.int (quoN n y - quoN n x) td)) ∧ (∀ z, z ≠ Str.ofString "d" → m' z = m z) → Fr h₀ L h' m' → News h₀ L h' ((L + 1 + 1 + 1 + 1 + 1 + 1 + 1, ob) :: (L + 1 + 1 + 1 + 1 + 1 + 1, om) :: (L + 1 + 1 + 1 + 1 + 1, ov) :: (L + 1 + 1 + 1 + 1, oa) :: (L + 1 + 1 + 1, oc) :: (L + 1 + 1, od) :: (L + 1, on) ::  Z) → Q .next { s with heap := h', toks := tk' }) :
    wpAny (model prog w) (Ar dp un gd [(envOfC (Str.ofString "law") (lawScope w.params) L fa cd)]) (exec (lawT3 w.params) (envOfC (Str.ofString "law") (lawScope w.params) L fa cd)) Q (fun _ _ => False) s := by
  dsimp only [lawT3, lawScope]
  k_steps
  refine h _ _ _ ?a1 (by assumption) (by assumption)
  case a1 => exact ⟨⟨_, rfl⟩, fun z hz => by first | exact if_neg hz | simp [hz]⟩
end Mine
end
/-! part L11C4 -/
section
open PySem PySem.W PyProof.Rows PySem.Calls PySem.Spec
set_option Elab.async false
set_option maxRecDepth 100000
set_option maxHeartbeats 1500000
set_option linter.unusedSimpArgs false
set_option linter.unusedVariables false
namespace Mine
open LCg
theorem kw90 : True := by
  w_top off
  k_with_none
  k_with "mine ne" => first | (with_reducible first | assumption | (refine Ne.symm ?_; assumption)) | (with_reducible ((repeat (first | (rename ((_ ≠ _ ∧ _) ∧ _) => hZk; obtain ⟨_, _⟩ := hZk) | (rename (_ ≠ _ ∧ _) => hZk; obtain ⟨_, _⟩ := hZk))); first | assumption | (refine Ne.symm ?_; assumption))) | ((repeat (refine Mine.aS ?_)); (first | refine Nat.ne_of_lt ?_ | refine Nat.ne_of_gt ?_); (repeat (first | exact Mine.lA _ | refine Mine.lB ?_)); done) | (with_reducible ((repeat (rename (@LT.lt _ _ _ _ ∧ _) => hZk; obtain ⟨_, _⟩ := hZk)); first | (refine Nat.ne_of_lt ?_; assumption) | (refine Nat.ne_of_gt ?_; assumption)))
  k_with "eval Name" => (k_here; k_dflt (refine' nameX_L ?k1Zk ?k2Zk ?_ ?kaZk ?kbZk; (case kaZk => rfl); (case kbZk => rfl); (case k1Zk => k_asm); (case k2Zk => with_unfolding_all assumption); k_whole))
  trivial
local macro_rules | `(tactic| k_all) => `(tactic| with_reducible assumption)
local macro_rules | `(tactic| k_mem) => `(tactic| first | with_reducible assumption | assumption)

theorem kw91 : True := by
  k_with "eval ListComp" => (k_here; (with_reducible show wpAny _ _ (eval (PySem.Expr.ListComp _ [⟨PySem.Expr.Name _ _, _, _, _⟩] _ _) _) _ _ _); k_dflt (refine LCg.ListComp_U (F₀ := by k_asm) (by with_unfolding_all rfl) (by decide) (by rfl) (by decide) (by rfl) ?_))
  k_with "compareOp Eq int int" => (k_here; k_dflt (refine' eqI ?keZk ?_; (case keZk => assumption); k_whole))
  k_with "compareOp Eq str str" => (k_here; k_dflt (refine' eqS ?keZk ?_; (case keZk => assumption); k_whole))
  k_with "compareOp IsNot bool bool" => (k_here; k_dflt (refine' isntSelf ?_; k_whole))
  k_with "compareOp Eq ref ref" => (k_here; k_dflt (refine' eqT ?knZk ?kcZk ?kdZk ?kuZk ?keZk ?_; (case knZk => k_asm); (case kcZk => k_mem); (case kdZk => k_mem); (case kuZk => exact uOk (by assumption)); (case keZk => assumption); k_whole))
  k_with "compareOp Eq ref ref" => (k_here; k_dflt (refine' eqL2 ?kcZk ?kdZk ?kuZk ?keZk ?_; (case kcZk => exact isListOf (by assumption) (by k_mem)); (case kdZk => exact isListOf (by assumption) (by k_mem)); (case kuZk => exact uOk (by assumption)); (case keZk => assumption); k_whole))
  k_with "compareOp NotEq ref ref" => (k_here; k_dflt (refine' neB3 ?kcZk ?kdZk ?kuZk ?_; (case kcZk => exact News.get (by assumption) (by k_mem)); (case kdZk => exact News.get (by assumption) (by k_mem)); (case kuZk => exact uOk (by assumption)); k_whole))
  k_with "subscriptTail" => (k_here; (with_reducible show wpAny _ _ (subscriptTail _ _ (Value.ref _) (Value.int _ _)) _ _ _); k_dflt (refine' itT ?knZk ?kmZk ?k0Zk ?k9Zk ?kxZk ?_; (case knZk => k_asm); (case kmZk => k_mem); (case k0Zk => decide); (case k9Zk => decide); (case kxZk => exact rfl); k_whole))
  k_with "subscriptTail" => (k_here; (with_reducible show wpAny _ _ (subscriptTail _ _ (Value.ref _) (Value.int _ _)) _ _ _); k_dflt (refine' itL ?knZk ?kmZk ?k0Zk ?k9Zk ?kxZk ?_; (case knZk => k_asm); (case kmZk => k_mem); (case k0Zk => first | assumption | decide); (case k9Zk => first | assumption | decide); (case kxZk => first | with_reducible assumption | assumption | exact rfl); k_whole))
  k_with "CompSrc" => (k_here; k_dflt (refine LCg.CompSrc.range (by rfl) (by k_asm) (by k_asm) (by assumption) (by first | decide | rfl) (by first | rfl | decide) (by first | size_fits | exact Nat.le_of_ble_eq_true rfl) ?_; intro g'Zk; lcg_lit))
  k_with "CompEnd" => (k_here; k_dflt (refine LCg.CompEnd.intro (by k_asm) (by k_asm) _ (fun p hp => hp) (by assumption) trivial ?_))
  trivial
theorem trn4 {prog : Program} {w : World} {dp un : Nat} {gd : Option (List Code)} {base h₀ : Heap} {p : Program} {loose : List Str} {mean : ExcName → Option Value} {mg mb : Str → Option Value} {A₀ : Around} {s : Shared} {L fa : Addr} {cd : Value} {m : Str → Option Value} {Q : Flow → Shared → Prop} {ob om ov oa oc od on : Obj}
    (B : Below A₀ base [] h₀) (X : (hd.heap_39 w.params).In h₀) (T : Top p loose mean mg mb h₀) (hdp : dp + 100 < 1000) (hun : un + 1000 < 9900)
    {Z : List (Addr × Obj)} {ka kb : Int} {ta tb : Tok} (hoa : oa.data = .cell (some (.int ka ta))) (hob : ob.data = .cell (some (.int kb tb))) (ka0 : 0 ≤ ka) (ka9 : ka < 1000) (kb0 : 0 ≤ kb) (kb9 : kb < 1000) {lw : Addr} {wvs : List Value} {n x y : Int} {td : Tok} (hod : od.data = .cell (some (.int (dvs n) td))) (hmw : m (Str.ofString "wholes") = some (.ref lw)) (mlw : (lw, lst wvs) ∈ Z)
    {twa : Tok} (hwa : wvs[ka.toNat]? = some (.int (whl n x) twa))
    {twb : Tok} (hwb : wvs[kb.toNat]? = some (.int (whl n y) twb)) (hn6 : 6 ≤ n) (hn37 : n ≤ 37) (hTD : TD w.params Z) (hTI : TI w.params Z)
    (F : Fr h₀ L s.heap m) (N : News h₀ L s.heap ((L + 1 + 1 + 1 + 1 + 1 + 1 + 1, ob) :: (L + 1 + 1 + 1 + 1 + 1 + 1, om) :: (L + 1 + 1 + 1 + 1 + 1, ov) :: (L + 1 + 1 + 1 + 1, oa) :: (L + 1 + 1 + 1, oc) :: (L + 1 + 1, od) :: (L + 1, on) ::  Z))
    (h : ∀ h' tk' m', (∃ td, m' (Str.ofString "q") = some (.int ((whl n y - whl n x) / dvs n) td)) ∧ (∃ td, m' (Str.ofString "r") = some (.int ((whl n y - whl n x) % dvs n) td)) ∧ (∀ z, z ≠ Str.ofString "q" → z ≠ Str.ofString "r" → m' z = m z) → Fr h₀ L h' m' → News h₀ L h' ((L + 1 + 1 + 1 + 1 + 1 + 1 + 1, ob) :: (L + 1 + 1 + 1 + 1 + 1 + 1, om) :: (L + 1 + 1 + 1 + 1 + 1, ov) :: (L + 1 + 1 + 1 + 1, oa) :: (L + 1 + 1 + 1, oc) :: (L + 1 + 1, od) :: (L + 1, on) ::  Z) → Q .next { s with heap := h', toks := tk' }) :
    wpAny (model prog w) (Ar dp un gd [(envOfC (Str.ofString "law") (lawScope w.params) L fa cd)]) (exec (lawT4 w.params) (envOfC (Str.ofString "law") (lawScope w.params) L fa cd)) Q (fun _ _ => False) s := by
  dsimp only [lawT4, lawScope]
  k_steps
  obtain ⟨d0, d1⟩ := dvs_lt hn6 hn37
  obtain ⟨w0, w1⟩ := whl_le hn6 x
  obtain ⟨y0, y1⟩ := whl_le hn6 y
  obtain ⟨s0, s1⟩ := sq_ok (D := dvs n) (a := whl n y - whl n x) d0 (by omega)
  have up : ∀ p ∈ Z, p ∈ (L + 1 + 1 + 1 + 1 + 1 + 1 + 1, ob) :: (L + 1 + 1 + 1 + 1 + 1 + 1, om) :: (L + 1 + 1 + 1 + 1 + 1, ov) :: (L + 1 + 1 + 1 + 1, oa) :: (L + 1 + 1 + 1, oc) :: (L + 1 + 1, od) :: (L + 1, on) ::  Z := fun p hq => by repeat (first | exact hq | refine List.Mem.tail _ ?_)
  k_dflt (refine' use (idm w.params (whl n y - whl n x) (dvs n) _ _ (by omega) d1 s0 s1) ?uB ?uF ?uN ?uX ?uT ?uA ?uf ?uk ?ud ?uu ?up ?_)
  (case uB => k_asm)
  (case uF => k_asm)
  (case uN => k_asm)
  (case uX => k_asm)
  (case uT => k_asm)
  (case uA => exact rfl)
  (case uf => exact rfl)
  (case uk => exact rfl)
  (case ud => first | with_reducible exact Mine.dU0 (by assumption) | with_reducible exact Mine.dU1 (by assumption) (by decide) | with_reducible exact Mine.dU2 (by assumption) (by decide) | omega | (dsimp only;  omega))
  (case uu => first | with_reducible exact Mine.dU0 (by assumption) | with_reducible exact Mine.dU1 (by assumption) (by decide) | with_reducible exact Mine.dU2 (by assumption) (by decide) | omega | (dsimp only;  omega))
  (case up => exact tabsOf (hTD.sub up) (hTI.sub up) N fun _ hp => hp)
  intro v1 h1 tk1 new1 F1 N1 ap1 P1
  obtain ⟨a1, t1, t2, rfl, rfl⟩ := P1
  simp only [List.cons_append, List.nil_append] at N1 ap1
  k_steps
  refine h _ _ _ ?a1 (by assumption) (newsSub (by assumption) fun p hp => by repeat (first | exact hp | refine List.Mem.tail _ ?_))
  case a1 => exact ⟨⟨_, rfl⟩, ⟨_, rfl⟩, fun z h1 h2 => by first | exact (if_neg h2).trans (if_neg h1) | simp [h1, h2]⟩

end Mine
end
/-! part L11C5 -/
section
open PySem PySem.W PyProof.Rows PySem.Calls PySem.Spec
set_option Elab.async false
set_option maxRecDepth 100000
set_option maxHeartbeats 1500000
set_option linter.unusedSimpArgs false
set_option linter.unusedVariables false
namespace Mine
open LCg
theorem kw92 : True := by
  w_top off
  k_with_none
  k_with "mine ne" => first | (with_reducible first | assumption | (refine Ne.symm ?_; assumption)) | (with_reducible ((repeat (first | (rename ((_ ≠ _ ∧ _) ∧ _) => hZk; obtain ⟨_, _⟩ := hZk) | (rename (_ ≠ _ ∧ _) => hZk; obtain ⟨_, _⟩ := hZk))); first | assumption | (refine Ne.symm ?_; assumption))) | ((repeat (refine Mine.aS ?_)); (first | refine Nat.ne_of_lt ?_ | refine Nat.ne_of_gt ?_); (repeat (first | exact Mine.lA _ | refine Mine.lB ?_)); done) | (with_reducible ((repeat (rename (@LT.lt _ _ _ _ ∧ _) => hZk; obtain ⟨_, _⟩ := hZk)); first | (refine Nat.ne_of_lt ?_; assumption) | (refine Nat.ne_of_gt ?_; assumption)))
  k_with "eval Name" => (k_here; k_dflt (refine' nameX_L ?k1Zk ?k2Zk ?_ ?kaZk ?kbZk; (case kaZk => rfl); (case kbZk => rfl); (case k1Zk => k_asm); (case k2Zk => with_unfolding_all assumption); k_whole))
  trivial
local macro_rules | `(tactic| k_all) => `(tactic| with_reducible assumption)
local macro_rules | `(tactic| k_mem) => `(tactic| first | with_reducible assumption | assumption)

theorem kw93 : True := by
  k_with "eval ListComp" => (k_here; (with_reducible show wpAny _ _ (eval (PySem.Expr.ListComp _ [⟨PySem.Expr.Name _ _, _, _, _⟩] _ _) _) _ _ _); k_dflt (refine LCg.ListComp_U (F₀ := by k_asm) (by with_unfolding_all rfl) (by decide) (by rfl) (by decide) (by rfl) ?_))
  k_with "compareOp Eq int int" => (k_here; k_dflt (refine' eqI ?keZk ?_; (case keZk => assumption); k_whole))
  k_with "compareOp Eq str str" => (k_here; k_dflt (refine' eqS ?keZk ?_; (case keZk => assumption); k_whole))
  k_with "compareOp IsNot bool bool" => (k_here; k_dflt (refine' isntSelf ?_; k_whole))
  k_with "compareOp Eq ref ref" => (k_here; k_dflt (refine' eqT ?knZk ?kcZk ?kdZk ?kuZk ?keZk ?_; (case knZk => k_asm); (case kcZk => k_mem); (case kdZk => k_mem); (case kuZk => exact uOk (by assumption)); (case keZk => assumption); k_whole))
  k_with "compareOp Eq ref ref" => (k_here; k_dflt (refine' eqL2 ?kcZk ?kdZk ?kuZk ?keZk ?_; (case kcZk => exact isListOf (by assumption) (by k_mem)); (case kdZk => exact isListOf (by assumption) (by k_mem)); (case kuZk => exact uOk (by assumption)); (case keZk => assumption); k_whole))
  k_with "compareOp NotEq ref ref" => (k_here; k_dflt (refine' neB3 ?kcZk ?kdZk ?kuZk ?_; (case kcZk => exact News.get (by assumption) (by k_mem)); (case kdZk => exact News.get (by assumption) (by k_mem)); (case kuZk => exact uOk (by assumption)); k_whole))
  k_with "subscriptTail" => (k_here; (with_reducible show wpAny _ _ (subscriptTail _ _ (Value.ref _) (Value.int _ _)) _ _ _); k_dflt (refine' itT ?knZk ?kmZk ?k0Zk ?k9Zk ?kxZk ?_; (case knZk => k_asm); (case kmZk => k_mem); (case k0Zk => decide); (case k9Zk => decide); (case kxZk => exact rfl); k_whole))
  k_with "subscriptTail" => (k_here; (with_reducible show wpAny _ _ (subscriptTail _ _ (Value.ref _) (Value.int _ _)) _ _ _); k_dflt (refine' itL ?knZk ?kmZk ?k0Zk ?k9Zk ?kxZk ?_; (case knZk => k_asm); (case kmZk => k_mem); (case k0Zk => first | assumption | decide); (case k9Zk => first | assumption | decide); (case kxZk => first | with_reducible assumption | assumption | exact rfl); k_whole))
  k_with "CompSrc" => (k_here; k_dflt (refine LCg.CompSrc.range (by rfl) (by k_asm) (by k_asm) (by assumption) (by first | decide | rfl) (by first | rfl | decide) (by first | size_fits | exact Nat.le_of_ble_eq_true rfl) ?_; intro g'Zk; lcg_lit))
  k_with "CompEnd" => (k_here; k_dflt (refine LCg.CompEnd.intro (by k_asm) (by k_asm) _ (fun p hp => hp) (by assumption) trivial ?_))
  trivial
theorem trn5 {prog : Program} {w : World} {dp un : Nat} {gd : Option (List Code)} {base h₀ : Heap} {p : Program} {loose : List Str} {mean : ExcName → Option Value} {mg mb : Str → Option Value} {A₀ : Around} {s : Shared} {L fa : Addr} {cd : Value} {m : Str → Option Value} {Q : Flow → Shared → Prop} {ob om ov oa oc od on : Obj}
    (B : Below A₀ base [] h₀) (X : (hd.heap_39 w.params).In h₀) (T : Top p loose mean mg mb h₀) (hdp : dp + 100 < 1000) (hun : un + 1000 < 9900)
    {Z : List (Addr × Obj)} {n x y q r : Int} {al : Bool} {td tq tr : Tok} (hmal : m (Str.ofString "alike") = some (.bool al)) (hmd : m (Str.ofString "d") = some (.int (quoN n y - quoN n x) td)) (hmq : m (Str.ofString "q") = some (.int q tq)) (hmr : m (Str.ofString "r") = some (.int r tr)) (er : (r == 0) = al) (eq : al = true → q = quoN n y - quoN n x)
    (F : Fr h₀ L s.heap m) (N : News h₀ L s.heap ((L + 1 + 1 + 1 + 1 + 1 + 1 + 1, ob) :: (L + 1 + 1 + 1 + 1 + 1 + 1, om) :: (L + 1 + 1 + 1 + 1 + 1, ov) :: (L + 1 + 1 + 1 + 1, oa) :: (L + 1 + 1 + 1, oc) :: (L + 1 + 1, od) :: (L + 1, on) ::  Z))
    (h : ∀ h' tk', Fr h₀ L h' m → News h₀ L h' ((L + 1 + 1 + 1 + 1 + 1 + 1 + 1, ob) :: (L + 1 + 1 + 1 + 1 + 1 + 1, om) :: (L + 1 + 1 + 1 + 1 + 1, ov) :: (L + 1 + 1 + 1 + 1, oa) :: (L + 1 + 1 + 1, oc) :: (L + 1 + 1, od) :: (L + 1, on) ::  Z) → Q .next { s with heap := h', toks := tk' }) :
    wpAny (model prog w) (Ar dp un gd [(envOfC (Str.ofString "law") (lawScope w.params) L fa cd)]) (exec (lawT5 w.params) (envOfC (Str.ofString "law") (lawScope w.params) L fa cd)) Q (fun _ _ => False) s := by
  dsimp only [lawT5, lawScope]
  cases al
  all_goals k_steps
  all_goals first | exact absurd (eq rfl) (by assumption) | exact h _ _ F N
end Mine
end
/-! part L11C6 -/
section
open PySem PySem.W PyProof.Rows PySem.Calls PySem.Spec
set_option Elab.async false
set_option maxRecDepth 100000
set_option maxHeartbeats 1500000
set_option linter.unusedSimpArgs false
set_option linter.unusedVariables false
namespace Mine
open LCg
theorem kw94 : True := by
  w_top off
  k_with_none
  k_with "mine ne" => first | (with_reducible first | assumption | (refine Ne.symm ?_; assumption)) | (with_reducible ((repeat (first | (rename ((_ ≠ _ ∧ _) ∧ _) => hZk; obtain ⟨_, _⟩ := hZk) | (rename (_ ≠ _ ∧ _) => hZk; obtain ⟨_, _⟩ := hZk))); first | assumption | (refine Ne.symm ?_; assumption))) | ((repeat (refine Mine.aS ?_)); (first | refine Nat.ne_of_lt ?_ | refine Nat.ne_of_gt ?_); (repeat (first | exact Mine.lA _ | refine Mine.lB ?_)); done) | (with_reducible ((repeat (rename (@LT.lt _ _ _ _ ∧ _) => hZk; obtain ⟨_, _⟩ := hZk)); first | (refine Nat.ne_of_lt ?_; assumption) | (refine Nat.ne_of_gt ?_; assumption)))
  k_with "eval Name" => (k_here; k_dflt (refine' nameX_L ?k1Zk ?k2Zk ?_ ?kaZk ?kbZk; (case kaZk => rfl); (case kbZk => rfl); (case k1Zk => k_asm); (case k2Zk => with_unfolding_all assumption); k_whole))
  trivial
local macro_rules | `(tactic| k_all) => `(tactic| with_reducible assumption)
local macro_rules | `(tactic| k_mem) => `(tactic| first | with_reducible assumption | assumption)

theorem kw95 : True := by
  k_with "eval ListComp" => (k_here; (with_reducible show wpAny _ _ (eval (PySem.Expr.ListComp _ [⟨PySem.Expr.Name _ _, _, _, _⟩] _ _) _) _ _ _); k_dflt (refine LCg.ListComp_U (F₀ := by k_asm) (by with_unfolding_all rfl) (by decide) (by rfl) (by decide) (by rfl) ?_))
  k_with "compareOp Eq int int" => (k_here; k_dflt (refine' eqI ?keZk ?_; (case keZk => assumption); k_whole))
  k_with "compareOp Eq str str" => (k_here; k_dflt (refine' eqS ?keZk ?_; (case keZk => assumption); k_whole))
  k_with "compareOp IsNot bool bool" => (k_here; k_dflt (refine' isntSelf ?_; k_whole))
  k_with "compareOp Eq ref ref" => (k_here; k_dflt (refine' eqT ?knZk ?kcZk ?kdZk ?kuZk ?keZk ?_; (case knZk => k_asm); (case kcZk => k_mem); (case kdZk => k_mem); (case kuZk => exact uOk (by assumption)); (case keZk => assumption); k_whole))
  k_with "compareOp Eq ref ref" => (k_here; k_dflt (refine' eqL2 ?kcZk ?kdZk ?kuZk ?keZk ?_; (case kcZk => exact isListOf (by assumption) (by k_mem)); (case kdZk => exact isListOf (by assumption) (by k_mem)); (case kuZk => exact uOk (by assumption)); (case keZk => assumption); k_whole))
  k_with "compareOp NotEq ref ref" => (k_here; k_dflt (refine' neB3 ?kcZk ?kdZk ?kuZk ?_; (case kcZk => exact News.get (by assumption) (by k_mem)); (case kdZk => exact News.get (by assumption) (by k_mem)); (case kuZk => exact uOk (by assumption)); k_whole))
  k_with "subscriptTail" => (k_here; (with_reducible show wpAny _ _ (subscriptTail _ _ (Value.ref _) (Value.int _ _)) _ _ _); k_dflt (refine' itT ?knZk ?kmZk ?k0Zk ?k9Zk ?kxZk ?_; (case knZk => k_asm); (case kmZk => k_mem); (case k0Zk => decide); (case k9Zk => decide); (case kxZk => exact rfl); k_whole))
  k_with "subscriptTail" => (k_here; (with_reducible show wpAny _ _ (subscriptTail _ _ (Value.ref _) (Value.int _ _)) _ _ _); k_dflt (refine' itL ?knZk ?kmZk ?k0Zk ?k9Zk ?kxZk ?_; (case knZk => k_asm); (case kmZk => k_mem); (case k0Zk => first | assumption | decide); (case k9Zk => first | assumption | decide); (case kxZk => first | with_reducible assumption | assumption | exact rfl); k_whole))
  k_with "CompSrc" => (k_here; k_dflt (refine LCg.CompSrc.range (by rfl) (by k_asm) (by k_asm) (by assumption) (by first | decide | rfl) (by first | rfl | decide) (by first | size_fits | exact Nat.le_of_ble_eq_true rfl) ?_; intro g'Zk; lcg_lit))
  k_with "CompEnd" => (k_here; k_dflt (refine LCg.CompEnd.intro (by k_asm) (by k_asm) _ (fun p hp => hp) (by assumption) trivial ?_))
  trivial
theorem trn6 {prog : Program} {w : World} {dp un : Nat} {gd : Option (List Code)} {base h₀ : Heap} {p : Program} {loose : List Str} {mean : ExcName → Option Value} {mg mb : Str → Option Value} {A₀ : Around} {s : Shared} {L fa : Addr} {cd : Value} {m : Str → Option Value} {Q : Flow → Shared → Prop} {ob om ov oa oc od on : Obj}
    (B : Below A₀ base [] h₀) (X : (hd.heap_39 w.params).In h₀) (T : Top p loose mean mg mb h₀) (hdp : dp + 100 < 1000) (hun : un + 1000 < 9900)
    {Z : List (Addr × Obj)} {ka kb : Int} {ta tb : Tok} (hoa : oa.data = .cell (some (.int ka ta))) (hob : ob.data = .cell (some (.int kb tb))) (ka0 : 0 ≤ ka) (ka9 : ka < 1000) (kb0 : 0 ≤ kb) (kb9 : kb < 1000) {lc ls : Addr} {cvs svs : List Value} {nc : Nat} {n M x y : Int} {al : Bool} {td : Tok} (hmal : m (Str.ofString "alike") = some (.bool al)) (hmd : m (Str.ofString "d") = some (.int (quoN n y - quoN n x) td)) (hoc : oc.data = .cell (some (.ref lc))) (mlc : (lc, PySem.W.listOf cvs.toArray nc) ∈ Z)
    {cb : Addr} {ncb : Nat} {ub0 ub1 ub2 : Tok} (hcb : cvs[kb.toNat]? = some (.ref cb)) (mcb : (cb, PySem.W.listOf #[.int (c0 y) ub0, .int (c1 y) ub1, .int (c2 y) ub2] ncb) ∈ Z) (hms : m (Str.ofString "stages") = some (.ref ls)) (mls : (ls, lst svs) ∈ Z) {sa : Addr} {sva : List Value} {na : Nat} (hsa : svs[ka.toNat]? = some (.ref sa)) (msa : (sa, PySem.W.listOf sva.toArray na) ∈ Z) (hSa : Rows (fun i v _ => ∃ t, v = .str (qIter (mailA x) i) t) ((M - quoN n x).toNat + 1) sva []) (hMy : quoN n y ≤ M) (hn6 : 6 ≤ n) (hal : decide (Alike x y) = al)
    (F : Fr h₀ L s.heap m) (N : News h₀ L s.heap ((L + 1 + 1 + 1 + 1 + 1 + 1 + 1, ob) :: (L + 1 + 1 + 1 + 1 + 1 + 1, om) :: (L + 1 + 1 + 1 + 1 + 1, ov) :: (L + 1 + 1 + 1 + 1, oa) :: (L + 1 + 1 + 1, oc) :: (L + 1 + 1, od) :: (L + 1, on) ::  Z))
    (h : ∀ h' tk', Fr h₀ L h' m → News h₀ L h' ((L + 1 + 1 + 1 + 1 + 1 + 1 + 1, ob) :: (L + 1 + 1 + 1 + 1 + 1 + 1, om) :: (L + 1 + 1 + 1 + 1 + 1, ov) :: (L + 1 + 1 + 1 + 1, oa) :: (L + 1 + 1 + 1, oc) :: (L + 1 + 1, od) :: (L + 1, on) ::  Z) → Q .next { s with heap := h', toks := tk' }) :
    wpAny (model prog w) (Ar dp un gd [(envOfC (Str.ofString "law") (lawScope w.params) L fa cd)]) (exec (lawT6 w.params) (envOfC (Str.ofString "law") (lawScope w.params) L fa cd)) Q (fun _ _ => False) s := by
  dsimp only [lawT6, lawScope]
  by_cases hd : 0 < quoN n y - quoN n x
  · have qx := quoN_le hn6 x
    have qy := quoN_le hn6 y
    have hlt : (quoN n y - quoN n x).toNat < sva.length := by rw [hSa.len]; omega
    obtain ⟨t, ht⟩ := hSa.all _ _ (List.getElem?_eq_getElem hlt)
    have hx := (List.getElem?_eq_getElem hlt).trans (congrArg some ht)
    have hd0 : 0 ≤ quoN n y - quoN n x := by omega
    have hd9 : quoN n y - quoN n x < 1000 := by omega
    have es : (qIter (mailA x) (quoN n y - quoN n x).toNat == mailT (c0 y) (c1 y) (c2 y) 0 1 E1) = al := by
      rw [← hal, Bool.eq_iff_iff]
      simp only [beq_iff_eq, decide_eq_true_eq]
      exact stage_iff hn6 x y hd
    k_steps
    all_goals (try exact absurd hd (by assumption))
    (rename News _ _ _ _ => Nz)
    obtain ⟨k0, k1, k2⟩ := c_le y
    have hil := isListOf Nz (.tail _ (.tail _ (.tail _ (.tail _ (.tail _ (.tail _ (.tail _ (.tail _ mcb))))))))
    have hen := endsOf1 (Nz _ (.head _)).1
    have hms := fun e tx => mail_spec cb e (c0 y) (c1 y) (c2 y) 0 ub0 ub1 ub2 tx 1 E1 (by decide) e1_len (by omega) (by omega) (by omega)
    k_dflt (refine' use (hms _ _) ?uB ?uF ?uN ?uX ?uT ?uA ?uf ?uk ?ud ?uu ?up ?_)
    (case uB => k_asm)
    (case uF => k_asm)
    (case uN => k_asm)
    (case uX => k_asm)
    (case uT => k_asm)
    (case uA => exact rfl)
    (case uf => exact rfl)
    (case uk => exact rfl)
    (case ud => first | with_reducible exact Mine.dU0 (by assumption) | with_reducible exact Mine.dU1 (by assumption) (by decide) | with_reducible exact Mine.dU2 (by assumption) (by decide) | omega | (dsimp only;  omega))
    (case uu => first | with_reducible exact Mine.dU0 (by assumption) | with_reducible exact Mine.dU1 (by assumption) (by decide) | with_reducible exact Mine.dU2 (by assumption) (by decide) | omega | (dsimp only;  omega))
    (case up => exact ⟨hil, hen⟩)
    intro v1 h1 tk1 new1 F1 N1 ap1 P1
    obtain ⟨u1, rfl, rfl⟩ := P1
    simp only [List.cons_append, List.nil_append] at N1 ap1

    k_steps
    exact h _ _ (by assumption) (newsSub (by assumption) fun p hp => by repeat (first | exact hp | refine List.Mem.tail _ ?_))
  · k_steps
    all_goals (first | exact absurd (by assumption) hd | exact h _ _ F N)
end Mine
end
/-! part L11D -/
section
open PySem PySem.W PyProof.Rows PySem.Calls PySem.Spec
set_option Elab.async false
set_option maxRecDepth 100000
set_option maxHeartbeats 1000000
set_option linter.unusedSimpArgs false
set_option linter.unusedVariables false
namespace Mine
theorem kw96 : True := by
  w_top off
  k_with_none
  k_with "mine ne" => first | (with_reducible first | assumption | (refine Ne.symm ?_; assumption)) | (with_reducible ((repeat (first | (rename ((_ ≠ _ ∧ _) ∧ _) => hZk; obtain ⟨_, _⟩ := hZk) | (rename (_ ≠ _ ∧ _) => hZk; obtain ⟨_, _⟩ := hZk))); first | assumption | (refine Ne.symm ?_; assumption))) | ((repeat (refine Mine.aS ?_)); (first | refine Nat.ne_of_lt ?_ | refine Nat.ne_of_gt ?_); (repeat (first | exact Mine.lA _ | refine Mine.lB ?_)); done) | (with_reducible ((repeat (rename (@LT.lt _ _ _ _ ∧ _) => hZk; obtain ⟨_, _⟩ := hZk)); first | (refine Nat.ne_of_lt ?_; assumption) | (refine Nat.ne_of_gt ?_; assumption)))
  trivial
open LCg

/-- what the inner turn knows of a colour: at place k, number x -/
structure Known (Z : List (Addr × Obj)) (cvs pvs vvs wvs : List Value) (n k x : Int) : Prop where
  col : ∃ (c : Addr) (nc : Nat) (u0 u1 u2 : Tok), cvs[k.toNat]? = some (.ref c) ∧ (c, PySem.W.listOf #[.int (c0 x) u0, .int (c1 x) u1, .int (c2 x) u2] nc) ∈ Z
  pair : ∃ (p : Addr) (t1 t2 : Tok), pvs[k.toNat]? = some (.ref p) ∧ (p, tup2i (quoN n x) (rstN n x) t1 t2) ∈ Z
  view : ∃ (v v1 v2 v3 : Addr) (w1 w2 w3 w4 w5 w6 : Tok), vvs[k.toNat]? = some (.ref v) ∧ (v, tup3r v1 v2 v3) ∈ Z ∧ (v1, tup2i (5990 * (c0 x - c2 x) - 2773 * (c1 x - c2 x)) (2130 * (c0 x - c2 x) - 5251 * (c1 x - c2 x)) w1 w2) ∈ Z ∧ (v2, tup2i (hueT (c0 x - c2 x) (c1 x - c2 x)) (sprT (c0 x - c2 x) (c1 x - c2 x)) w3 w4) ∈ Z ∧ (v3, tup2i (hueT (c0 x - c2 x) (c1 x - c2 x)) (sprT (c0 x - c2 x) (c1 x - c2 x)) w5 w6) ∈ Z
  whole : ∃ t : Tok, wvs[k.toNat]? = some (.int (whl n x) t)
/-- the five names the loops need -/
structure Lists (m : Str → Option Value) (lp lw ls : Addr) : Prop where
  pairs : m (Str.ofString "pairs") = some (.ref lp)
  wholes : m (Str.ofString "wholes") = some (.ref lw)
  stages : m (Str.ofString "stages") = some (.ref ls)
noncomputable def turnB (P : Params) : List Stmt := [lawT0 P, lawT1 P, lawT2 P, lawT3 P, lawT4 P, lawT5 P, lawT6 P]
theorem turn11 {prog : Program} {w : World} {dp un : Nat} {gd : Option (List Code)} {base h₀ : Heap} {p : Program} {loose : List Str} {mean : ExcName → Option Value} {mg mb : Str → Option Value} {A₀ : Around} {s : Shared} {L fa : Addr} {cd : Value} {m : Str → Option Value} {Q : Flow → Shared → Prop} {ob om ov oa oc od on : Obj}
    (B : Below A₀ base [] h₀) (X : (hd.heap_39 w.params).In h₀) (T : Top p loose mean mg mb h₀) (hdp : dp + 100 < 1000) (hun : un + 1000 < 9900)
    {Z : List (Addr × Obj)} {ka kb : Int} {ta tb : Tok} (hoa : oa.data = .cell (some (.int ka ta))) (hob : ob.data = .cell (some (.int kb tb))) (ka0 : 0 ≤ ka) (ka9 : ka < 1000) (kb0 : 0 ≤ kb) (kb9 : kb < 1000) {lc lp lv lw ls : Addr} {cvs pvs vvs wvs svs : List Value} {nc : Nat} {x y n M : Int} {td : Tok}
    (F : Fr h₀ L s.heap m) (N : News h₀ L s.heap ((L + 1 + 1 + 1 + 1 + 1 + 1 + 1, ob) :: (L + 1 + 1 + 1 + 1 + 1 + 1, om) :: (L + 1 + 1 + 1 + 1 + 1, ov) :: (L + 1 + 1 + 1 + 1, oa) :: (L + 1 + 1 + 1, oc) :: (L + 1 + 1, od) :: (L + 1, on) ::  Z)) (hod : od.data = .cell (some (.int (dvs n) td))) (hoc : oc.data = .cell (some (.ref lc))) (hov : ov.data = .cell (some (.ref lv)))
    (hn6 : 6 ≤ n) (hn37 : n ≤ 37) (hTD : TD w.params Z) (hTI : TI w.params Z) (hm : Lists m lp lw ls)
    (mlc : (lc, PySem.W.listOf cvs.toArray nc) ∈ Z) (mlp : (lp, lst pvs) ∈ Z) (mlv : (lv, lst vvs) ∈ Z) (mlw : (lw, lst wvs) ∈ Z) (mls : (ls, lst svs) ∈ Z)
    (KA : Known Z cvs pvs vvs wvs n ka x) (KB : Known Z cvs pvs vvs wvs n kb y)
    {sa : Addr} {sva : List Value} {na : Nat} (hsa : svs[ka.toNat]? = some (.ref sa)) (msa : (sa, PySem.W.listOf sva.toArray na) ∈ Z) (hSa : Rows (fun i v _ => ∃ t, v = .str (qIter (mailA x) i) t) ((M - quoN n x).toNat + 1) sva []) (hMy : quoN n y ≤ M)
    (h : ∀ h' tk' m', (∀ z, z ≠ Str.ofString "alike" → z ≠ Str.ofString "d" → z ≠ Str.ofString "q" → z ≠ Str.ofString "r" → m' z = m z) → Fr h₀ L h' m' → News h₀ L h' ((L + 1 + 1 + 1 + 1 + 1 + 1 + 1, ob) :: (L + 1 + 1 + 1 + 1 + 1 + 1, om) :: (L + 1 + 1 + 1 + 1 + 1, ov) :: (L + 1 + 1 + 1 + 1, oa) :: (L + 1 + 1 + 1, oc) :: (L + 1 + 1, od) :: (L + 1, on) ::  Z) → Q .next { s with heap := h', toks := tk' }) :
    wpAny (model prog w) (Ar dp un gd [(envOfC (Str.ofString "law") (lawScope w.params) L fa cd)]) (execs (turnB w.params) (envOfC (Str.ofString "law") (lawScope w.params) L fa cd)) Q (fun _ _ => False) s := by
  obtain ⟨al, hal⟩ : ∃ al, decide (Alike x y) = al := ⟨_, rfl⟩
  have er : (rstN n x == rstN n y) = al := by rw [← hal, Bool.eq_iff_iff]; simp [rst_iff hn6]
  obtain ⟨dz, dq⟩ := dif_eq hn6 x y
  obtain ⟨ca, nca, ua0, ua1, ua2, hca, mca⟩ := KA.col
  obtain ⟨cb, ncb, ub0, ub1, ub2, hcb, mcb⟩ := KB.col
  obtain ⟨pa, pa1, pa2, hpa, mpa⟩ := KA.pair
  obtain ⟨pb, pb1, pb2, hpb, mpb⟩ := KB.pair
  obtain ⟨va, va1, va2, va3, wa1, wa2, wa3, wa4, wa5, wa6, hva, mva, mva1, mva2, mva3⟩ := KA.view
  obtain ⟨vb, vb1, vb2, vb3, wb1, wb2, wb3, wb4, wb5, wb6, hvb, mvb, mvb1, mvb2, mvb3⟩ := KB.view
  obtain ⟨twa, hwa⟩ := KA.whole
  obtain ⟨twb, hwb⟩ := KB.whole
  refine wpAny_execs_cons (trn0 B X T hdp hun hoa hob ka0 ka9 kb0 kb9 hoc mlc hca mca hcb mcb hal F N fun h1 k1 m1 e1 F1 N1 => ?_)
  have i1 : ∀ z, z ≠ Str.ofString "alike" → m1 z = m z := e1.2
  refine wpAny_execs_cons (trn1 (m := m1) B X T hdp hun hoa hob ka0 ka9 kb0 kb9 e1.1 ((i1 _ (by decide)).trans hm.pairs) mlp hpa mpa hpb mpb er F1 N1 fun h2 k2 F2 N2 => ?_)
  refine wpAny_execs_cons (trn2 (m := m1) B X T hdp hun hoa hob ka0 ka9 kb0 kb9 e1.1 hov mlv hva mva mva1 mva2 mva3 hvb mvb mvb1 mvb2 mvb3 hal F2 N2 fun h3 k3 F3 N3 => ?_)
  refine wpAny_execs_cons (trn3 (m := m1) B X T hdp hun hoa hob ka0 ka9 kb0 kb9 ((i1 _ (by decide)).trans hm.pairs) mlp hpa mpa hpb mpb F3 N3 fun h4 k4 m4 e4 F4 N4 => ?_)
  obtain ⟨⟨td4, d4⟩, i4⟩ := e4
  refine wpAny_execs_cons (trn4 (m := m4) B X T hdp hun hoa hob ka0 ka9 kb0 kb9 hod ((i4 _ (by decide)).trans ((i1 _ (by decide)).trans hm.wholes)) mlw hwa hwb hn6 hn37 hTD hTI F4 N4 fun h5 k5 m5 e5 F5 N5 => ?_)
  obtain ⟨⟨tq5, q5⟩, ⟨tr5, r5⟩, i5⟩ := e5
  have a5 : m5 (Str.ofString "alike") = some (.bool al) := (i5 _ (by decide) (by decide)).trans ((i4 _ (by decide)).trans e1.1)
  have d5 := (i5 (Str.ofString "d") (by decide) (by decide)).trans d4
  refine wpAny_execs_cons (trn5 (m := m5) B X T hdp hun a5 d5 q5 r5 (by rw [← hal, Bool.eq_iff_iff]; simp [dz]) (fun e => dq (by rw [e] at hal; exact of_decide_eq_true hal)) F5 N5 fun h6 k6 F6 N6 => ?_)
  refine wpAny_execs_cons (trn6 (m := m5) B X T hdp hun hoa hob ka0 ka9 kb0 kb9 a5 d5 hoc mlc hcb mcb ((i5 _ (by decide) (by decide)).trans ((i4 _ (by decide)).trans ((i1 _ (by decide)).trans hm.stages))) mls hsa msa hSa hMy hn6 hal F6 N6 fun h7 k7 F7 N7 => ?_)
  exact wpAny_execs_nil (h h7 k7 m5 (fun z z1 z2 z3 z4 => (i5 z z3 z4).trans ((i4 z z2).trans (i1 z z1))) F7 N7)
end Mine
end
/-! part L11 -/
section
open PySem PySem.W PyProof.Rows PySem.Calls PySem.Spec
set_option Elab.async false
set_option maxRecDepth 100000
set_option maxHeartbeats 2000000
set_option linter.unusedSimpArgs false
set_option linter.unusedVariables false
namespace Mine
open LCg
theorem kw97 : True := by
  w_top off
  k_with_none
  k_with "mine ne" => first | (with_reducible first | assumption | (refine Ne.symm ?_; assumption)) | (with_reducible ((repeat (first | (rename ((_ ≠ _ ∧ _) ∧ _) => hZk; obtain ⟨_, _⟩ := hZk) | (rename (_ ≠ _ ∧ _) => hZk; obtain ⟨_, _⟩ := hZk))); first | assumption | (refine Ne.symm ?_; assumption))) | ((repeat (refine Mine.aS ?_)); (first | refine Nat.ne_of_lt ?_ | refine Nat.ne_of_gt ?_); (repeat (first | exact Mine.lA _ | refine Mine.lB ?_)); done) | (with_reducible ((repeat (rename (@LT.lt _ _ _ _ ∧ _) => hZk; obtain ⟨_, _⟩ := hZk)); first | (refine Nat.ne_of_lt ?_; assumption) | (refine Nat.ne_of_gt ?_; assumption)))
  k_with "exec For Name Call cons nil" => (k_here; k_dflt (refine' For_turns ?kFZk ?_; (case kFZk => k_asm); k_whole))
  k_with "exec For Name Name cons nil" => (k_here; k_dflt (refine' For_turns ?kFZk ?_; (case kFZk => k_asm); k_whole))
  k_with "exec For Tuple Call cons nil" => (k_here; k_dflt (refine' For_turns ?kFZk ?_; (case kFZk => k_asm); k_whole))
  k_with "eval Name" => (k_here; k_dflt (refine' nameX_L ?k1Zk ?k2Zk ?_ ?kaZk ?kbZk; (case kaZk => rfl); (case kbZk => rfl); (case k1Zk => k_asm); (case k2Zk => with_unfolding_all assumption); k_whole))
  trivial
local macro_rules | `(tactic| k_all) => `(tactic| with_reducible assumption)
local macro_rules | `(tactic| k_mem) => `(tactic| first | with_reducible assumption | assumption)

theorem lenL {prog : Program} {w : World} {A : Around} {E : Value → Shared → Prop} {s : Shared} {Q : Value → Shared → Prop} {h₀ : Heap} {L l : Addr} {vs : List Value} {nn : Nat} {news : List (Addr × Obj)} (N : News h₀ L s.heap news) (hm : (l, PySem.W.listOf vs.toArray nn) ∈ news) (hs : vs.length ≤ 2 ^ 20) (h : Q (.int vs.length (s.toks + 1)) { s with toks := s.toks + 1 + 1 }) : wpAny (model prog w) A (call (.builtin "len") [.ref l]) Q E s := by
  have hl := isListOf N hm
  have hlt : ((vs.toArray.size : Nat) : Int) = (vs.length : Int) := by simp
  refine len_list hl (by rw [hlt]; have : ((2 ^ 20 : Nat) : Int) < 2 ^ 63 := by decide
                         omega) ?_
  rw [hlt]
  exact h

theorem kw98 : True := by
  k_with "call builtin:len" => (k_here; k_dflt (refine' lenL ?knZk ?kmZk ?ksZk ?_; (case knZk => k_asm); (case kmZk => k_mem); (case ksZk => omega); k_whole))
  trivial
structure J11 (L : Addr) (om ov oc od on : Obj) (led : List (Addr × Obj)) (m₀ : Str → Option Value) (PA : Obj → Prop) (i : Nat) (m : Str → Option Value) (news : List (Addr × Obj)) : Prop where
  keep : ∀ z, z ≠ Str.ofString "alike" → z ≠ Str.ofString "d" → z ≠ Str.ofString "q" → z ≠ Str.ofString "r" → m z = m₀ z
  led : ∃ oa' ob' v, news = (L + 1 + 1 + 1 + 1 + 1 + 1 + 1, ob') :: (L + 1 + 1 + 1 + 1 + 1 + 1, om) :: (L + 1 + 1 + 1 + 1 + 1, ov) :: (L + 1 + 1 + 1 + 1, oa') :: (L + 1 + 1 + 1, oc) :: (L + 1 + 1, od) :: (L + 1, on) :: led ∧ PA oa' ∧ ob'.data = .cell v
theorem end11 {L : Addr} {om ov oc od on oa1 ob1 oa2 ob2 : Obj} {R own : List (Addr × Obj)} {m₀ m' : Str → Option Value} {PA : Obj → Prop} {i : Nat} {v : Option Value} {h₀ h' : Heap} {s : Shared} {tk' : Nat} {Q : Flow → Shared → Prop}
    (F : Fr h₀ L h' m') (N : News h₀ L h' ((L + 1 + 1 + 1 + 1 + 1 + 1 + 1, ob2) :: (L + 1 + 1 + 1 + 1 + 1 + 1, om) :: (L + 1 + 1 + 1 + 1 + 1, ov) :: (L + 1 + 1 + 1 + 1, oa2) :: (L + 1 + 1 + 1, oc) :: (L + 1 + 1, od) :: (L + 1, on) :: (R ++ own))) (hk : ∀ z, z ≠ Str.ofString "alike" → z ≠ Str.ofString "d" → z ≠ Str.ofString "q" → z ≠ Str.ofString "r" → m' z = m₀ z) (hPA : PA oa2) (hb : ob2.data = .cell v) :
    TEnd h₀ L own ((L + 1 + 1 + 1 + 1 + 1 + 1 + 1, ob1) :: (L + 1 + 1 + 1 + 1 + 1 + 1, om) :: (L + 1 + 1 + 1 + 1 + 1, ov) :: (L + 1 + 1 + 1 + 1, oa1) :: (L + 1 + 1 + 1, oc) :: (L + 1 + 1, od) :: (L + 1, on) :: R) (J11 L om ov oc od on R m₀ PA (i + 1)) s Q .next { s with heap := h', toks := tk' } := by
  refine ⟨h', tk', m', (L + 1 + 1 + 1 + 1 + 1 + 1 + 1, ob2) :: (L + 1 + 1 + 1 + 1 + 1 + 1, om) :: (L + 1 + 1 + 1 + 1 + 1, ov) :: (L + 1 + 1 + 1 + 1, oa2) :: (L + 1 + 1 + 1, oc) :: (L + 1 + 1, od) :: (L + 1, on) :: R, rfl, F, N, fun p hp => ?_, hk, oa2, ob2, v, rfl, hPA, hb⟩
  simp only [List.mem_cons] at hp
  rcases hp with rfl | rfl | rfl | rfl | rfl | rfl | rfl | hp
  · exact .inl ⟨_, .head _⟩
  · exact .inl ⟨_, .tail _ (.head _)⟩
  · exact .inl ⟨_, .tail _ (.tail _ (.head _))⟩
  · exact .inl ⟨_, .tail _ (.tail _ (.tail _ (.head _)))⟩
  · exact .inl ⟨_, .tail _ (.tail _ (.tail _ (.tail _ (.head _))))⟩
  · exact .inl ⟨_, .tail _ (.tail _ (.tail _ (.tail _ (.tail _ (.head _)))))⟩
  · exact .inl ⟨_, .tail _ (.tail _ (.tail _ (.tail _ (.tail _ (.tail _ (.head _))))))⟩
  · exact .inl ⟨p.2, .tail _ (.tail _ (.tail _ (.tail _ (.tail _ (.tail _ (.tail _ hp))))))⟩
theorem itemR {R : Nat → Value → List (Addr × Obj) → Prop} {n i : Nat} {vs : List Value} {led : List (Addr × Obj)} (h : Rows R n vs led) (hi : i < n) : ∃ v, vs[i]? = some v ∧ R i v led :=
  have e := List.getElem?_eq_getElem (l := vs) (i := i) (by rw [h.len]; exact hi)
  ⟨_, e, h.all i _ e⟩
theorem known {xs : List Int} {n : Int} {led Z : List (Addr × Obj)} {cvs pvs vvs wvs : List Value} {i : Nat} {x : Int} (hs : ∀ p ∈ led, p ∈ Z) (hC : Rows (RC xs) xs.length cvs led) (hP : Rows (RP n xs) xs.length pvs led) (hV : Rows (RV xs) xs.length vvs led) (hW : Rows (fun j v _ => ∃ x t, xs[j]? = some x ∧ v = .int (whl n x) t) xs.length wvs led) (hi : i < xs.length) (hx : xs[i]? = some x) : Known Z cvs pvs vvs wvs n (0 + (i : Int)) x := by
  have e : (0 + (i : Int)).toNat = i := by omega
  obtain ⟨v1, g1, x1, a, t0, t1, t2, nn, y1, rfl, m1⟩ := itemR hC hi
  obtain ⟨v2, g2, x2, b, t3, t4, y2, rfl, m2⟩ := itemR hP hi
  obtain ⟨v3, g3, x3, c, c1, c2, c3, w1, w2, w3, w4, w5, w6, y3, rfl, m3, m4, m5, m6⟩ := itemR hV hi
  obtain ⟨v4, g4, x4, t5, y4, rfl⟩ := itemR hW hi
  rw [hx] at y1 y2 y3 y4
  cases y1
  cases y2
  cases y3
  cases y4
  refine ⟨⟨a, nn, t0, t1, t2, ?_, hs _ m1⟩, ⟨b, t3, t4, ?_, hs _ m2⟩, ⟨c, c1, c2, c3, w1, w2, w3, w4, w5, w6, ?_, hs _ m3, hs _ m4, hs _ m5, hs _ m6⟩, ⟨t5, ?_⟩⟩ <;> rw [e] <;> assumption
def withB (s : Stmt) (b : List Stmt) : Stmt := match s with
  | .For t i [.For t2 i2 _ o2 p2] o p => .For t i [.For t2 i2 b o2 p2] o p
  | s => s
theorem stm11 {prog : Program} {w : World} {dp un : Nat} {gd : Option (List Code)} {base h₀ : Heap} {p : Program} {loose : List Str} {mean : ExcName → Option Value} {mg mb : Str → Option Value} {A₀ : Around} {s : Shared} {L fa : Addr} {cd : Value} {m : Str → Option Value} {Q : Flow → Shared → Prop} {ob om ov oa oc od on : Obj}
    (B : Below A₀ base [] h₀) (X : (hd.heap_39 w.params).In h₀) (T : Top p loose mean mg mb h₀) (hdp : dp + 100 < 1000) (hun : un + 1000 < 9900)
    {led : List (Addr × Obj)} {lc lp lv lw ls : Addr} {cvs pvs vvs wvs svs : List Value} {nc : Nat} {xs : List Int} {n M : Int} {td : Tok} {va vb : Option Value}
    (F : Fr h₀ L s.heap m) (N : News h₀ L s.heap ((L + 1 + 1 + 1 + 1 + 1 + 1 + 1, ob) :: (L + 1 + 1 + 1 + 1 + 1 + 1, om) :: (L + 1 + 1 + 1 + 1 + 1, ov) :: (L + 1 + 1 + 1 + 1, oa) :: (L + 1 + 1 + 1, oc) :: (L + 1 + 1, od) :: (L + 1, on) ::  led)) (hoa : oa.data = .cell va) (hob : ob.data = .cell vb) (hod : od.data = .cell (some (.int (dvs n) td))) (hoc : oc.data = .cell (some (.ref lc))) (hov : ov.data = .cell (some (.ref lv)))
    (hn6 : 6 ≤ n) (hn37 : n ≤ 37) (hTD : TD w.params led) (hTI : TI w.params led) (hm : Lists m lp lw ls) (hk : xs.length ≤ 5) (hM : ∀ x ∈ xs, quoN n x ≤ M)
    (hoffA : ∀ p ∈ led, p.1 ≠ L + 1 + 1 + 1 + 1) (hoffB : ∀ p ∈ led, p.1 ≠ L + 1 + 1 + 1 + 1 + 1 + 1 + 1)
    (mlc : (lc, PySem.W.listOf cvs.toArray nc) ∈ led) (mlp : (lp, lst pvs) ∈ led) (mlv : (lv, lst vvs) ∈ led) (mlw : (lw, lst wvs) ∈ led) (mls : (ls, lst svs) ∈ led)
    (hC : Rows (RC xs) xs.length cvs led) (hP : Rows (RP n xs) xs.length pvs led) (hV : Rows (RV xs) xs.length vvs led) (hW : Rows (fun j v _ => ∃ x t, xs[j]? = some x ∧ v = .int (whl n x) t) xs.length wvs led) (hS : Rows (RS n M xs) xs.length svs led)
    (h : ∀ h' tk' m', Fr h₀ L h' m' → News h₀ L h' led → Q .next { s with heap := h', toks := tk' }) :
    wpAny (model prog w) (Ar dp un gd [(envOfC (Str.ofString "law") (lawScope w.params) L fa cd)]) (exec (lawS11 w.params) (envOfC (Str.ofString "law") (lawScope w.params) L fa cd)) Q (fun _ _ => False) s := by
  have hkl : cvs.length ≤ 100 := by rw [hC.len]; omega
  show wpAny _ _ (exec (withB (lawS11 w.params) (turnB w.params)) _) _ _ _
  dsimp only [lawS11, lawScope, withB]
  generalize htb : turnB w.params = tb
  k_steps
  (k_dflt (refine' range_for (n := cvs.length) (J11 L om ov oc od on led m (fun o => ∃ v, o.data = .cell v)) rfl (by assumption) (rangeS _ hkl).1 (rangeS _ hkl).2 ?uF ?uN ⟨fun _ _ _ _ _ => rfl, oa, ob, _, rfl, ⟨_, hoa⟩, hob⟩ ?uturn ?udone))
  (case uF => k_asm)
  (case uN => k_asm)
  (case udone =>
    intro h' tk m' news' hJ F' N'
    obtain ⟨_, _, _, _, rfl, _, _⟩ := hJ
    exact h h' tk m' F' (newsSub N' fun p hp => by repeat (first | exact hp | refine List.Mem.tail _ ?_)))
  intro i t m₁ news₁ own h' tk hi hJ F' N' o1
  obtain ⟨hk1, oa', ob', vb', rfl, ⟨va', hoa'⟩, hob'⟩ := hJ
  simp only [List.cons_append] at N'
  have hA : ∀ p ∈ led ++ own, p.1 ≠ L + 1 + 1 + 1 + 1 := fun p hp => (List.mem_append.mp hp).elim (hoffA p) fun hq => Ne.symm (o1 p hq (L + 1 + 1 + 1 + 1, oa') (by simp))
  have hB : ∀ p ∈ led ++ own, p.1 ≠ L + 1 + 1 + 1 + 1 + 1 + 1 + 1 := fun p hp => (List.mem_append.mp hp).elim (hoffB p) fun hq => Ne.symm (o1 p hq (L + 1 + 1 + 1 + 1 + 1 + 1 + 1, ob') (by simp))
  generalize hZ : led ++ own = Z at N' hA hB
  have hsub : ∀ p ∈ led, p ∈ Z := fun p hp => hZ ▸ List.mem_append_left _ hp
  have mlc' := hsub _ mlc
  k_steps
  (k_dflt (refine' For_turns ?kF ?_; (case kF => k_asm)))
  k_steps
  (rename (_ : Obj).data = Data.cell (some (Value.int (0 + (i : Int)) _)) => dz)
  (k_dflt (refine' range_for (n := cvs.length) (J11 L om ov oc od on Z m (fun o => ∃ t, o.data = .cell (some (.int (0 + (i : Int)) t)))) rfl (by assumption) (rangeS _ hkl).1 (rangeS _ hkl).2 ?vF ?vN ⟨hk1, _, ob', _, rfl, ⟨_, dz⟩, hob'⟩ ?vturn ?vdone))
  (case vF => k_asm)
  (case vN => k_asm)
  (case vdone =>
    intro h2 tk2 m2 news2 hJ2 F2 N2
    obtain ⟨hk2, oa2, ob2, vb2, rfl, ⟨t2, ha2⟩, hb2⟩ := hJ2
    k_steps
    subst hZ
    exact end11 F2 N2 hk2 ⟨_, ha2⟩ hb2)
  clear hA
  intro j tj m2 news2 own2 h2 tk2 hj hJ2 F2 N2 o2
  obtain ⟨hk2, oa2, ob2, vb2, rfl, ⟨ta2, ha2⟩, hb2⟩ := hJ2
  simp only [List.cons_append] at N2
  have hB2 : ∀ p ∈ Z ++ own2, p.1 ≠ L + 1 + 1 + 1 + 1 + 1 + 1 + 1 := fun p hp => (List.mem_append.mp hp).elim (hB p) fun hq => Ne.symm (o2 p hq (L + 1 + 1 + 1 + 1 + 1 + 1 + 1, ob2) (by simp))
  clear hB
  generalize hY : Z ++ own2 = Y at N2 hB2
  have hs : ∀ p ∈ led, p ∈ Y := fun p hp => hY ▸ List.mem_append_left _ (hsub p hp)
  clear mlc'
  k_steps
  (rename (_ : Obj).data = Data.cell (some (Value.int (0 + (j : Int)) _)) => db)
  have hi' : i < xs.length := hC.len ▸ hi
  have hj' : j < xs.length := hC.len ▸ hj
  obtain ⟨x, hx⟩ : ∃ x, xs[i]? = some x := ⟨_, List.getElem?_eq_getElem hi'⟩
  obtain ⟨y, hy⟩ : ∃ y, xs[j]? = some y := ⟨_, List.getElem?_eq_getElem hj'⟩
  obtain ⟨v5, g5, x5, sa, sva, na, y5, rfl, m5, hSa⟩ := itemR hS hi'
  rw [hx] at y5
  cases y5
  have ei : (0 + (i : Int)).toNat = i := by omega
  subst htb
  refine turn11 (om := om) (on := on) (x := x) (y := y) (sa := sa) B X T hdp hun ha2 db (by omega) (by omega) (by omega) (by omega) ?wF ?wN hod hoc hov hn6 hn37 (hTD.sub hs) (hTI.sub hs) ⟨(hk2 _ (by decide) (by decide) (by decide) (by decide)).trans hm.pairs, (hk2 _ (by decide) (by decide) (by decide) (by decide)).trans hm.wholes, (hk2 _ (by decide) (by decide) (by decide) (by decide)).trans hm.stages⟩ (hs _ mlc) (hs _ mlp) (hs _ mlv) (hs _ mlw) (hs _ mls) (known hs hC hP hV hW hi' hx) (known hs hC hP hV hW hj' hy) (by rw [ei]; exact g5) (hs _ m5) hSa (hM y (List.mem_of_getElem? hy)) ?wh
  case wF => k_asm
  case wN => k_asm
  intro h3 tk3 m3 e3 F3 N3
  subst hY
  exact end11 F3 N3 (fun z z1 z2 z3 z4 => (e3 z z1 z2 z3 z4).trans (hk2 z z1 z2 z3 z4)) ⟨_, ha2⟩ db
end Mine
end
/-! part L12 -/
section
open PySem PySem.W PyProof.Rows PySem.Calls PySem.Spec
set_option Elab.async false
set_option maxRecDepth 100000
set_option maxHeartbeats 2000000
set_option linter.unusedSimpArgs false
set_option linter.unusedVariables false
namespace Mine
theorem kw99 : True := by
  w_top off
  k_with_none
  k_with "mine ne" => first | (with_reducible first | assumption | (refine Ne.symm ?_; assumption)) | (with_reducible ((repeat (first | (rename ((_ ≠ _ ∧ _) ∧ _) => hZk; obtain ⟨_, _⟩ := hZk) | (rename (_ ≠ _ ∧ _) => hZk; obtain ⟨_, _⟩ := hZk))); first | assumption | (refine Ne.symm ?_; assumption))) | ((repeat (refine Mine.aS ?_)); (first | refine Nat.ne_of_lt ?_ | refine Nat.ne_of_gt ?_); (repeat (first | exact Mine.lA _ | refine Mine.lB ?_)); done) | (with_reducible ((repeat (rename (@LT.lt _ _ _ _ ∧ _) => hZk; obtain ⟨_, _⟩ := hZk)); first | (refine Nat.ne_of_lt ?_; assumption) | (refine Nat.ne_of_gt ?_; assumption)))
  trivial
open LCg
noncomputable def lawS0 (P : Params) : Stmt := by
  refine Subtype.val (p := fun S => (bodyOf (fdAt (hd.heap_39 P) 170)).getD 0 default = S) ⟨?d, ?h⟩
  case h =>
    conv => lhs; whnf
noncomputable def lawS1 (P : Params) : Stmt := by
  refine Subtype.val (p := fun S => (bodyOf (fdAt (hd.heap_39 P) 170)).getD 1 default = S) ⟨?d, ?h⟩
  case h =>
    conv => lhs; whnf
noncomputable def lawS2 (P : Params) : Stmt := by
  refine Subtype.val (p := fun S => (bodyOf (fdAt (hd.heap_39 P) 170)).getD 2 default = S) ⟨?d, ?h⟩
  case h =>
    conv => lhs; whnf
noncomputable def lawS3 (P : Params) : Stmt := by
  refine Subtype.val (p := fun S => (bodyOf (fdAt (hd.heap_39 P) 170)).getD 3 default = S) ⟨?d, ?h⟩
  case h =>
    conv => lhs; whnf
noncomputable def lawS12 (P : Params) : Stmt := by
  refine Subtype.val (p := fun S => (bodyOf (fdAt (hd.heap_39 P) 170)).getD 12 default = S) ⟨?d, ?h⟩
  case h =>
    conv => lhs; whnf
end Mine
end
/-! part L13 -/
section
open PySem PySem.W PyProof.Rows PySem.Calls PySem.Spec
set_option Elab.async false
set_option maxRecDepth 100000
set_option maxHeartbeats 2000000
set_option linter.unusedSimpArgs false
set_option linter.unusedVariables false
namespace Mine
open LCg
theorem kw100 : True := by
  w_top off
  k_with_none
  k_with "mine ne" => first | (with_reducible first | assumption | (refine Ne.symm ?_; assumption)) | (with_reducible ((repeat (first | (rename ((_ ≠ _ ∧ _) ∧ _) => hZk; obtain ⟨_, _⟩ := hZk) | (rename (_ ≠ _ ∧ _) => hZk; obtain ⟨_, _⟩ := hZk))); first | assumption | (refine Ne.symm ?_; assumption))) | ((repeat (refine Mine.aS ?_)); (first | refine Nat.ne_of_lt ?_ | refine Nat.ne_of_gt ?_); (repeat (first | exact Mine.lA _ | refine Mine.lB ?_)); done) | (with_reducible ((repeat (rename (@LT.lt _ _ _ _ ∧ _) => hZk; obtain ⟨_, _⟩ := hZk)); first | (refine Nat.ne_of_lt ?_; assumption) | (refine Nat.ne_of_gt ?_; assumption)))
  k_with "eval Name" => (k_here; k_dflt (refine' nameX_L ?k1Zk ?k2Zk ?_ ?kaZk ?kbZk; (case kaZk => rfl); (case kbZk => rfl); (case k1Zk => k_asm); (case k2Zk => with_unfolding_all assumption); k_whole))
  trivial
local macro_rules | `(tactic| k_all) => `(tactic| with_reducible assumption)
local macro_rules | `(tactic| k_mem) => `(tactic| first | with_reducible assumption | assumption)

theorem intsC {ys : List Value} {ns : List Int} (h : CarriedAll ys (ns.map PyData.int)) : IntsAre ys ns := IntsAre.ofCarried h
theorem stm0 {prog : Program} {w : World} {dp un : Nat} {gd : Option (List Code)} {base h₀ : Heap} {p : Program} {loose : List Str} {mean : ExcName → Option Value} {mg mb : Str → Option Value} {A₀ : Around} {s : Shared} {L fa : Addr} {cd : Value} {m : Str → Option Value} {Q : Flow → Shared → Prop} {ob om ov oa oc od on : Obj}
    (B : Below A₀ base [] h₀) (X : (hd.heap_39 w.params).In h₀) (T : Top p loose mean mg mb h₀) (hdp : dp + 100 < 1000) (hun : un + 1000 < 9900)
    {led : List (Addr × Obj)} {sl : Addr} {svs : List Value} {ns : List Int}
    (F : Fr h₀ L s.heap m) (N : News h₀ L s.heap ((L + 1 + 1 + 1 + 1 + 1 + 1 + 1, ob) :: (L + 1 + 1 + 1 + 1 + 1 + 1, om) :: (L + 1 + 1 + 1 + 1 + 1, ov) :: (L + 1 + 1 + 1 + 1, oa) :: (L + 1 + 1 + 1, oc) :: (L + 1 + 1, od) :: (L + 1, on) ::  led)) (hsl : h₀.IsList sl svs.toArray) (hI : IntsAre svs ns) (hlen : ns.length ≤ 63) (hm : m (Str.ofString "script") = some (.ref sl))
    (h : ∀ h' tk' m' ln xvs xs, xs.length ≤ 5 → 0 < xs.length → m' (Str.ofString "numbers") = some (.ref ln) → Fr h₀ L h' m' → News h₀ L h' ((ln, PySem.W.listOf (List.toArray xvs) 0) :: (L + 1 + 1 + 1 + 1 + 1 + 1 + 1, ob) :: (L + 1 + 1 + 1 + 1 + 1 + 1, om) :: (L + 1 + 1 + 1 + 1 + 1, ov) :: (L + 1 + 1 + 1 + 1, oa) :: (L + 1 + 1 + 1, oc) :: (L + 1 + 1, od) :: (L + 1, on) ::  led) → (∀ p ∈ (L + 1 + 1 + 1 + 1 + 1 + 1 + 1, ob) :: (L + 1 + 1 + 1 + 1 + 1 + 1, om) :: (L + 1 + 1 + 1 + 1 + 1, ov) :: (L + 1 + 1 + 1 + 1, oa) :: (L + 1 + 1 + 1, oc) :: (L + 1 + 1, od) :: (L + 1, on) ::  led, @LT.lt Nat _ p.1 ln) → IntsAre xvs xs → Q .next { s with heap := h', toks := tk' }) :
    wpAny (model prog w) (Ar dp un gd [(envOfC (Str.ofString "law") (lawScope w.params) L fa cd)]) (exec (lawS0 w.params) (envOfC (Str.ofString "law") (lawScope w.params) L fa cd)) Q (fun _ _ => False) s := by
  dsimp only [lawS0, lawScope]
  k_steps
  (rename CarriedAll _ _ => hca)
  (rename PySem.Heap.IsList _ _ _ => hD)
  (rename News _ _ _ _ => Nz)
  (rename Fr _ _ _ _ => Fz)
  have hI2 := intsC (ns := ((List.take 2 ns).map fun a => a.fmod (10 ^ Int.toNat 6))) (by
    rw [List.filter_eq_self.mpr (fun _ _ => rfl)] at hca
    rw [List.map_map]
    exact hca)
  have h2 : ((List.take 2 ns).map fun a => a.fmod (10 ^ Int.toNat 6)).length ≤ 2 := by simp only [List.length_map, List.length_take]; omega
  generalize ((List.take 2 ns).map fun a => a.fmod (10 ^ Int.toNat 6)) = ms at hI2 h2
  k_dflt (refine kmk_add_ints Fz Nz (vs := [.int 2 _, .int 83 _, .int 1 _]) (ns := [2, 83, 1]) (isListOf Nz (.tail _ (.head _))) hD (.cons _ _ (.cons _ _ (.cons _ _ .nil))) hI2 ?_ ?hz)
  case hz => exact Nat.le_trans (m := 5) (by simp only [List.length_cons, List.length_nil]; omega) (Nat.le_of_ble_eq_true rfl)
  intro D us h' F' N' l1 hI'
  k_steps
  (rename News _ _ _ _ => Nw)
  refine h _ _ _ D us _ ?a1 ?a2 ?a3 (by assumption) (newsSub Nw fun p hp => ?a4) (fun p hp => l1 p (.tail _ (.tail _ hp))) hI'
  case a1 => simp only [List.length_append, List.length_cons, List.length_nil]; omega
  case a2 => simp
  case a3 => first | rfl | simp
  case a4 =>
    rcases List.mem_cons.mp hp with e | hp
    · rw [e]; exact .head _
    · exact .tail _ (.tail _ (.tail _ hp))
end Mine
end
/-! part L14 -/
section
open PySem PySem.W PyProof.Rows PySem.Calls PySem.Spec
set_option Elab.async false
set_option maxRecDepth 100000
set_option maxHeartbeats 2000000
set_option linter.unusedSimpArgs false
set_option linter.unusedVariables false
namespace Mine
open LCg
theorem kw101 : True := by
  w_top off
  k_with_none
  k_with "mine ne" => first | (with_reducible first | assumption | (refine Ne.symm ?_; assumption)) | (with_reducible ((repeat (first | (rename ((_ ≠ _ ∧ _) ∧ _) => hZk; obtain ⟨_, _⟩ := hZk) | (rename (_ ≠ _ ∧ _) => hZk; obtain ⟨_, _⟩ := hZk))); first | assumption | (refine Ne.symm ?_; assumption))) | ((repeat (refine Mine.aS ?_)); (first | refine Nat.ne_of_lt ?_ | refine Nat.ne_of_gt ?_); (repeat (first | exact Mine.lA _ | refine Mine.lB ?_)); done) | (with_reducible ((repeat (rename (@LT.lt _ _ _ _ ∧ _) => hZk; obtain ⟨_, _⟩ := hZk)); first | (refine Nat.ne_of_lt ?_; assumption) | (refine Nat.ne_of_gt ?_; assumption)))
  k_with "eval Name" => (k_here; k_dflt (refine' nameX_L ?k1Zk ?k2Zk ?_ ?kaZk ?kbZk; (case kaZk => rfl); (case kbZk => rfl); (case k1Zk => k_asm); (case k2Zk => with_unfolding_all assumption); k_whole))
  trivial
local macro_rules | `(tactic| k_all) => `(tactic| with_reducible assumption)
local macro_rules | `(tactic| k_mem) => `(tactic| first | with_reducible assumption | assumption)

theorem kw102 : True := by
  k_with "binaryOp Mod int int" => (refine modP (by decide) ?_; try dsimp only)
  k_with "binaryOp FloorDiv int int" => (refine divP (by decide) (by decide) ?_; try dsimp only)
  trivial
theorem stm1 {prog : Program} {w : World} {dp un : Nat} {gd : Option (List Code)} {base h₀ : Heap} {p : Program} {loose : List Str} {mean : ExcName → Option Value} {mg mb : Str → Option Value} {A₀ : Around} {s : Shared} {L fa : Addr} {cd : Value} {m : Str → Option Value} {Q : Flow → Shared → Prop} {ob om ov oa oc od on : Obj}
    (B : Below A₀ base [] h₀) (X : (hd.heap_39 w.params).In h₀) (T : Top p loose mean mg mb h₀) (hdp : dp + 100 < 1000) (hun : un + 1000 < 9900)
    {led : List (Addr × Obj)} {ln : Addr} {xvs : List Value} {nx : Nat} {xs : List Int} {vn : Option Value}
    (F : Fr h₀ L s.heap m) (N : News h₀ L s.heap ((L + 1 + 1 + 1 + 1 + 1 + 1 + 1, ob) :: (L + 1 + 1 + 1 + 1 + 1 + 1, om) :: (L + 1 + 1 + 1 + 1 + 1, ov) :: (L + 1 + 1 + 1 + 1, oa) :: (L + 1 + 1 + 1, oc) :: (L + 1 + 1, od) :: (L + 1, on) ::  led)) (hon : on.data = .cell vn) (hm : m (Str.ofString "numbers") = some (.ref ln)) (hln : (ln, PySem.W.listOf xvs.toArray nx) ∈ led) (hX : IntsAre xvs xs) (hk : xs.length ≤ 5) (hoff : ∀ p ∈ led, p.1 ≠ L + 1)
    (h : ∀ h' tk' on' n tn, 6 ≤ n → n ≤ 37 → on'.data = .cell (some (.int n tn)) → Fr h₀ L h' m → News h₀ L h' ((L + 1 + 1 + 1 + 1 + 1 + 1 + 1, ob) :: (L + 1 + 1 + 1 + 1 + 1 + 1, om) :: (L + 1 + 1 + 1 + 1 + 1, ov) :: (L + 1 + 1 + 1 + 1, oa) :: (L + 1 + 1 + 1, oc) :: (L + 1 + 1, od) :: (L + 1, on') ::  led) → Q .next { s with heap := h', toks := tk' }) :
    wpAny (model prog w) (Ar dp un gd [(envOfC (Str.ofString "law") (lawScope w.params) L fa cd)]) (exec (lawS1 w.params) (envOfC (Str.ofString "law") (lawScope w.params) L fa cd)) Q (fun _ _ => False) s := by
  have hl := isListOf N (.tail _ (.tail _ (.tail _ (.tail _ (.tail _ (.tail _ (.tail _ hln)))))))
  dsimp only [lawS1, lawScope]
  k_steps
  have hS := Int.emod_nonneg xs.sum (b := 32) (by decide)
  have hS2 := Int.emod_lt_of_pos xs.sum (b := 32) (by decide)
  exact h _ _ _ (6 + xs.sum % 32) _ (by omega) (by omega) (by assumption) (by assumption) (by assumption)
theorem stm3 {prog : Program} {w : World} {dp un : Nat} {gd : Option (List Code)} {base h₀ : Heap} {p : Program} {loose : List Str} {mean : ExcName → Option Value} {mg mb : Str → Option Value} {A₀ : Around} {s : Shared} {L fa : Addr} {cd : Value} {m : Str → Option Value} {Q : Flow → Shared → Prop} {ob om ov oa oc od on : Obj}
    (B : Below A₀ base [] h₀) (X : (hd.heap_39 w.params).In h₀) (T : Top p loose mean mg mb h₀) (hdp : dp + 100 < 1000) (hun : un + 1000 < 9900)
    {led : List (Addr × Obj)} {vc : Option Value}
    (F : Fr h₀ L s.heap m) (N : News h₀ L s.heap ((L + 1 + 1 + 1 + 1 + 1 + 1 + 1, ob) :: (L + 1 + 1 + 1 + 1 + 1 + 1, om) :: (L + 1 + 1 + 1 + 1 + 1, ov) :: (L + 1 + 1 + 1 + 1, oa) :: (L + 1 + 1 + 1, oc) :: (L + 1 + 1, od) :: (L + 1, on) ::  led)) (hoc : oc.data = .cell vc) (hoff : ∀ p ∈ led, p.1 ≠ L + 1 + 1 + 1)
    (h : ∀ h' tk' oc' lc, oc'.data = .cell (some (.ref lc)) → Fr h₀ L h' m → News h₀ L h' ((lc, PySem.W.listOf #[] 0) :: (L + 1 + 1 + 1 + 1 + 1 + 1 + 1, ob) :: (L + 1 + 1 + 1 + 1 + 1 + 1, om) :: (L + 1 + 1 + 1 + 1 + 1, ov) :: (L + 1 + 1 + 1 + 1, oa) :: (L + 1 + 1 + 1, oc') :: (L + 1 + 1, od) :: (L + 1, on) ::  led) → (∀ p ∈ (L + 1 + 1 + 1 + 1 + 1 + 1 + 1, ob) :: (L + 1 + 1 + 1 + 1 + 1 + 1, om) :: (L + 1 + 1 + 1 + 1 + 1, ov) :: (L + 1 + 1 + 1 + 1, oa) :: (L + 1 + 1 + 1, oc) :: (L + 1 + 1, od) :: (L + 1, on) ::  led, @LT.lt Nat _ p.1 lc) → Q .next { s with heap := h', toks := tk' }) :
    wpAny (model prog w) (Ar dp un gd [(envOfC (Str.ofString "law") (lawScope w.params) L fa cd)]) (exec (lawS3 w.params) (envOfC (Str.ofString "law") (lawScope w.params) L fa cd)) Q (fun _ _ => False) s := by
  dsimp only [lawS3, lawScope]
  k_steps
  (rename _ ∧ _ => l1)
  exact h _ _ _ _ (by assumption) (by assumption) (by assumption) (AllLt.mem (l := (L + 1 + 1 + 1 + 1 + 1 + 1 + 1, ob) :: (L + 1 + 1 + 1 + 1 + 1 + 1, om) :: (L + 1 + 1 + 1 + 1 + 1, ov) :: (L + 1 + 1 + 1 + 1, oa) :: (L + 1 + 1 + 1, oc) :: (L + 1 + 1, od) :: (L + 1, on) ::  led) l1)
theorem stm12 {prog : Program} {w : World} {dp un : Nat} {gd : Option (List Code)} {base h₀ : Heap} {p : Program} {loose : List Str} {mean : ExcName → Option Value} {mg mb : Str → Option Value} {A₀ : Around} {s : Shared} {L fa : Addr} {cd : Value} {m : Str → Option Value} {Q : Flow → Shared → Prop} {ob om ov oa oc od on : Obj}
    (B : Below A₀ base [] h₀) (X : (hd.heap_39 w.params).In h₀) (T : Top p loose mean mg mb h₀) (hdp : dp + 100 < 1000) (hun : un + 1000 < 9900)
    (F : Fr h₀ L s.heap m) (h : ∀ tk', Q (.ret (.bool true)) { s with toks := tk' }) :
    wpAny (model prog w) (Ar dp un gd [(envOfC (Str.ofString "law") (lawScope w.params) L fa cd)]) (exec (lawS12 w.params) (envOfC (Str.ofString "law") (lawScope w.params) L fa cd)) Q (fun _ _ => False) s := by
  dsimp only [lawS12, lawScope]
  k_steps
  exact h _
end Mine
end
/-! part L15 -/
section
open PySem PySem.W PyProof.Rows PySem.Calls PySem.Spec
set_option Elab.async false
set_option maxRecDepth 100000
set_option maxHeartbeats 2000000
set_option linter.unusedSimpArgs false
set_option linter.unusedVariables false
namespace Mine
open LCg
theorem kw103 : True := by
  w_top off
  k_with_none
  k_with "mine ne" => first | (with_reducible first | assumption | (refine Ne.symm ?_; assumption)) | (with_reducible ((repeat (first | (rename ((_ ≠ _ ∧ _) ∧ _) => hZk; obtain ⟨_, _⟩ := hZk) | (rename (_ ≠ _ ∧ _) => hZk; obtain ⟨_, _⟩ := hZk))); first | assumption | (refine Ne.symm ?_; assumption))) | ((repeat (refine Mine.aS ?_)); (first | refine Nat.ne_of_lt ?_ | refine Nat.ne_of_gt ?_); (repeat (first | exact Mine.lA _ | refine Mine.lB ?_)); done) | (with_reducible ((repeat (rename (@LT.lt _ _ _ _ ∧ _) => hZk; obtain ⟨_, _⟩ := hZk)); first | (refine Nat.ne_of_lt ?_; assumption) | (refine Nat.ne_of_gt ?_; assumption)))
  k_with "eval Name" => (k_here; k_dflt (refine' nameX_L ?k1Zk ?k2Zk ?_ ?kaZk ?kbZk; (case kaZk => rfl); (case kbZk => rfl); (case k1Zk => k_asm); (case k2Zk => with_unfolding_all assumption); k_whole))
  trivial
local macro_rules | `(tactic| k_all) => `(tactic| with_reducible assumption)
local macro_rules | `(tactic| k_mem) => `(tactic| first | with_reducible assumption | assumption)

theorem cellsP {L P : Addr} {ob om ov oa oc od on : Obj} {Z : List (Addr × Obj)} (h : @LT.lt Nat _ P L) (hZ : ∀ p ∈ Z, p.1 ≠ P) : ∀ p ∈ (L + 1 + 1 + 1 + 1 + 1 + 1 + 1, ob) :: (L + 1 + 1 + 1 + 1 + 1 + 1, om) :: (L + 1 + 1 + 1 + 1 + 1, ov) :: (L + 1 + 1 + 1 + 1, oa) :: (L + 1 + 1 + 1, oc) :: (L + 1 + 1, od) :: (L + 1, on) ::  Z, p.1 ≠ P := by
  intro p hp
  simp only [List.mem_cons] at hp
  have h' : @LT.lt Nat _ P L := h
  rcases hp with rfl | rfl | rfl | rfl | rfl | rfl | rfl | hp
  · exact neA (by omega)
  · exact neA (by omega)
  · exact neA (by omega)
  · exact neA (by omega)
  · exact neA (by omega)
  · exact neA (by omega)
  · exact neA (by omega)
  · exact hZ p hp
theorem stm2 {prog : Program} {w : World} {dp un : Nat} {gd : Option (List Code)} {base h₀ : Heap} {p : Program} {loose : List Str} {mean : ExcName → Option Value} {mg mb : Str → Option Value} {A₀ : Around} {s : Shared} {L fa : Addr} {cd : Value} {m : Str → Option Value} {Q : Flow → Shared → Prop} {ob om ov oa oc od on : Obj}
    (B : Below A₀ base [] h₀) (X : (hd.heap_39 w.params).In h₀) (T : Top p loose mean mg mb h₀) (hdp : dp + 100 < 1000) (hun : un + 1000 < 9900)
    {Z : List (Addr × Obj)} {n : Int} {tn : Tok} {vd : Option Value}
    (F : Fr h₀ L s.heap m) (N : News h₀ L s.heap ((L + 1 + 1 + 1 + 1 + 1 + 1 + 1, ob) :: (L + 1 + 1 + 1 + 1 + 1 + 1, om) :: (L + 1 + 1 + 1 + 1 + 1, ov) :: (L + 1 + 1 + 1 + 1, oa) :: (L + 1 + 1 + 1, oc) :: (L + 1 + 1, od) :: (L + 1, on) ::  ((54, tabObj #[]) :: Z))) (hod : od.data = .cell vd) (hon : on.data = .cell (some (.int n tn))) (hn6 : 6 ≤ n) (hn37 : n ≤ 37) (h54 : @LT.lt Nat _ 54 L) (hZ54 : ∀ p ∈ Z, p.1 ≠ (54 : Addr)) (hoff : ∀ p ∈ Z, p.1 ≠ L + 1 + 1)
    (h : ∀ h' tk' od' td c oc2, od'.data = .cell (some (.int (dvs n) td)) → Fr h₀ L h' m → News h₀ L h' ((L + 1 + 1 + 1 + 1 + 1 + 1 + 1, ob) :: (L + 1 + 1 + 1 + 1 + 1 + 1, om) :: (L + 1 + 1 + 1 + 1 + 1, ov) :: (L + 1 + 1 + 1 + 1, oa) :: (L + 1 + 1 + 1, oc) :: (L + 1 + 1, od') :: (L + 1, on) ::  (((54 : Addr), tabObj #[rawInt (dInn w.params).pos.line, rawInt (dInn w.params).pos.col, .ref c]) :: (c, oc2) :: Z)) → (∃ vs t, oc2.data = .fields vs ∧ vs[1]? = some (.str dQual t)) → (c ≠ (54 : Addr)) → (∀ q ∈ (L + 1 + 1 + 1 + 1 + 1 + 1 + 1, ob) :: (L + 1 + 1 + 1 + 1 + 1 + 1, om) :: (L + 1 + 1 + 1 + 1 + 1, ov) :: (L + 1 + 1 + 1 + 1, oa) :: (L + 1 + 1 + 1, oc) :: (L + 1 + 1, od) :: (L + 1, on) ::  Z, q.1 ≠ c) → Q .next { s with heap := h', toks := tk' }) :
    wpAny (model prog w) (Ar dp un gd [(envOfC (Str.ofString "law") (lawScope w.params) L fa cd)]) (exec (lawS2 w.params) (envOfC (Str.ofString "law") (lawScope w.params) L fa cd)) Q (fun _ _ => False) s := by
  obtain ⟨D0, D1⟩ := dvs_big hn6
  obtain ⟨D2, D3⟩ := dvs_lt hn6 hn37
  have hb : (1 : Int).natAbs < 2 ^ 1000 := by decide
  have hb2 : ((1 : Int) * 2 ^ n.toNat + 1).natAbs < 2 ^ 1000 := by
    have e1 : ((2 ^ 400 : Nat) : Int) = (2 : Int) ^ 400 := by simp
    have e2 : 2 ^ 400 ≤ 2 ^ 1000 := Nat.pow_le_pow_right (by decide) (by decide)
    generalize (2 : Int) ^ n.toNat = Bn at D0 D1 ⊢
    omega
  dsimp only [lawS2, lawScope]
  k_steps
  (rename News _ _ _ _ => Nz)
  (rename Fr _ _ _ _ => Fz)
  (rename _ ∧ _ => l1)
  (rename Addr => l)
  have l54 : @LT.lt Nat _ 54 l := l1.2.2.2.2.2.2.2.1
  have N0 : News h₀ L _ ((54, tabObj #[]) :: (l, _) :: (L + 1 + 1 + 1 + 1 + 1 + 1 + 1, ob) :: (L + 1 + 1 + 1 + 1 + 1 + 1, om) :: (L + 1 + 1 + 1 + 1 + 1, ov) :: (L + 1 + 1 + 1 + 1, oa) :: (L + 1 + 1 + 1, oc) :: (L + 1 + 1, od) :: (L + 1, on) ::  Z) := newsSub Nz (b := (54, tabObj #[]) :: (l, PySem.W.listOf #[Value.int 1 s.toks, Value.int 1 (s.toks + 1), Value.int 1 (s.toks + 1 + 1)] 0) :: (L + 1 + 1 + 1 + 1 + 1 + 1 + 1, ob) :: (L + 1 + 1 + 1 + 1 + 1 + 1, om) :: (L + 1 + 1 + 1 + 1 + 1, ov) :: (L + 1 + 1 + 1 + 1, oa) :: (L + 1 + 1 + 1, oc) :: (L + 1 + 1, od) :: (L + 1, on) ::  Z) fun p hp => by
    simp only [List.mem_cons] at hp ⊢
    rcases hp with h | h | h | h | h | h | h | h | h | h <;> simp [h]
  have hr : ∀ q ∈ (l, PySem.W.listOf #[Value.int 1 s.toks, Value.int 1 (s.toks + 1), Value.int 1 (s.toks + 1 + 1)] 0) :: (L + 1 + 1 + 1 + 1 + 1 + 1 + 1, ob) :: (L + 1 + 1 + 1 + 1 + 1 + 1, om) :: (L + 1 + 1 + 1 + 1 + 1, ov) :: (L + 1 + 1 + 1 + 1, oa) :: (L + 1 + 1 + 1, oc) :: (L + 1 + 1, od) :: (L + 1, on) ::  Z, q.1 ≠ (54 : Addr) := fun q hq => (List.mem_cons.mp hq).elim (fun e => e ▸ (neA (by omega) : l ≠ 54)) (cellsP h54 hZ54 q)
  have hg := (N0 _ (.head _)).1
  refine useT (K := hd.heap_39 w.params) (P := 54) (fun G => d2i3F w.params l n 1 1 1 _ _ _ tn (by omega) (by omega) hb hb2 prog w dp un gd base _ p loose mean mg mb _ G (by omega) (by omega) hg ⟨_, hideAll_get _ (N0 _ (.tail _ (.head _))).1 (fun z => hr _ (.head _) (List.mem_singleton.mp z)), rfl, _, rfl⟩) B Fz N0 hr X T rfl rfl rfl ?_
  intro v h2 tk2 c oc2 vs t new F2 N2 hdt hv hap hne hp
  obtain ⟨t', rfl, rfl⟩ := hp
  have hcl : ∀ q ∈ (L + 1 + 1 + 1 + 1 + 1 + 1 + 1, ob) :: (L + 1 + 1 + 1 + 1 + 1 + 1, om) :: (L + 1 + 1 + 1 + 1 + 1, ov) :: (L + 1 + 1 + 1 + 1, oa) :: (L + 1 + 1 + 1, oc) :: (L + 1 + 1, od) :: (L + 1, on) ::  Z, q.1 ≠ c := fun q hq => hap q (.tail _ hq) (c, oc2) (.head _)
  have N3 : News h₀ L h2 ((L + 1 + 1 + 1 + 1 + 1 + 1 + 1, ob) :: (L + 1 + 1 + 1 + 1 + 1 + 1, om) :: (L + 1 + 1 + 1 + 1 + 1, ov) :: (L + 1 + 1 + 1 + 1, oa) :: (L + 1 + 1 + 1, oc) :: (L + 1 + 1, od) :: (L + 1, on) ::  (((54 : Addr), tabObj #[rawInt (dInn w.params).pos.line, rawInt (dInn w.params).pos.col, .ref c]) :: (c, oc2) :: Z)) := newsSub N2 fun p hp => by
    simp only [List.mem_cons, List.nil_append] at hp ⊢
    rcases hp with h | h | h | h | h | h | h | h | h | h <;> simp [h]
  have hR : ∀ p ∈ ((54 : Addr), tabObj #[rawInt (dInn w.params).pos.line, rawInt (dInn w.params).pos.col, .ref c]) :: (c, oc2) :: Z, p.1 ≠ L + 1 + 1 := fun p hp => by
    rcases List.mem_cons.mp hp with rfl | hp
    · exact neA (by omega)
    · rcases List.mem_cons.mp hp with rfl | hp
      · exact Ne.symm (hcl (L + 1 + 1, od) (by simp))
      · exact hoff p hp
  have hc54 : c ≠ (54 : Addr) := hne (c, oc2) (.head _)
  clear Nz N0 N2 Fz hg hr hap l1
  replace h := fun h' tk' od' td a b d => h h' tk' od' td c oc2 a b d ⟨vs, t, hdt, hv⟩ hc54 hcl
  generalize ((54 : Addr), tabObj #[rawInt (dInn w.params).pos.line, rawInt (dInn w.params).pos.col, .ref c]) :: (c, oc2) :: Z = R at N3 hR h
  k_steps
  exact h _ _ _ _ (by assumption) (by assumption) (by assumption)
end Mine
end
/-! part L16 -/
section
open PySem PySem.W PyProof.Rows PySem.Calls PySem.Spec
set_option Elab.async false
set_option maxRecDepth 100000
set_option maxHeartbeats 2000000
set_option linter.unusedSimpArgs false
set_option linter.unusedVariables false
namespace Mine
theorem kw104 : True := by
  w_top off
  k_with_none
  k_with "mine ne" => first | (with_reducible first | assumption | (refine Ne.symm ?_; assumption)) | (with_reducible ((repeat (first | (rename ((_ ≠ _ ∧ _) ∧ _) => hZk; obtain ⟨_, _⟩ := hZk) | (rename (_ ≠ _ ∧ _) => hZk; obtain ⟨_, _⟩ := hZk))); first | assumption | (refine Ne.symm ?_; assumption))) | ((repeat (refine Mine.aS ?_)); (first | refine Nat.ne_of_lt ?_ | refine Nat.ne_of_gt ?_); (repeat (first | exact Mine.lA _ | refine Mine.lB ?_)); done) | (with_reducible ((repeat (rename (@LT.lt _ _ _ _ ∧ _) => hZk; obtain ⟨_, _⟩ := hZk)); first | (refine Nat.ne_of_lt ?_; assumption) | (refine Nat.ne_of_gt ?_; assumption)))
  trivial
open LCg

def Apt (L : Addr) (led : List (Addr × Obj)) : Prop := ∀ p ∈ led, p.1 ≠ L + 1 ∧ p.1 ≠ L + 1 + 1 ∧ p.1 ≠ L + 1 + 1 + 1 ∧ p.1 ≠ L + 1 + 1 + 1 + 1 ∧ p.1 ≠ L + 1 + 1 + 1 + 1 + 1 ∧ p.1 ≠ L + 1 + 1 + 1 + 1 + 1 + 1 ∧ p.1 ≠ L + 1 + 1 + 1 + 1 + 1 + 1 + 1
section
variable {L a : Addr} {ob om ov oa oc od on o : Obj} {led R Z : List (Addr × Obj)}
theorem apt7 (h : ∀ q ∈ (L + 1 + 1 + 1 + 1 + 1 + 1 + 1, ob) :: (L + 1 + 1 + 1 + 1 + 1 + 1, om) :: (L + 1 + 1 + 1 + 1 + 1, ov) :: (L + 1 + 1 + 1 + 1, oa) :: (L + 1 + 1 + 1, oc) :: (L + 1 + 1, od) :: (L + 1, on) ::  Z, a ≠ q.1) : a ≠ L + 1 ∧ a ≠ L + 1 + 1 ∧ a ≠ L + 1 + 1 + 1 ∧ a ≠ L + 1 + 1 + 1 + 1 ∧ a ≠ L + 1 + 1 + 1 + 1 + 1 ∧ a ≠ L + 1 + 1 + 1 + 1 + 1 + 1 ∧ a ≠ L + 1 + 1 + 1 + 1 + 1 + 1 + 1 :=
  ⟨h (L + 1, on) (.tail _ (.tail _ (.tail _ (.tail _ (.tail _ (.tail _ (.head _))))))), h (L + 1 + 1, od) (.tail _ (.tail _ (.tail _ (.tail _ (.tail _ (.head _)))))), h (L + 1 + 1 + 1, oc) (.tail _ (.tail _ (.tail _ (.tail _ (.head _))))), h (L + 1 + 1 + 1 + 1, oa) (.tail _ (.tail _ (.tail _ (.head _)))), h (L + 1 + 1 + 1 + 1 + 1, ov) (.tail _ (.tail _ (.head _))), h (L + 1 + 1 + 1 + 1 + 1 + 1, om) (.tail _ (.head _)), h (L + 1 + 1 + 1 + 1 + 1 + 1 + 1, ob) (.head _)⟩
theorem aptCons (hl : Apt L led) (h : ∀ q ∈ (L + 1 + 1 + 1 + 1 + 1 + 1 + 1, ob) :: (L + 1 + 1 + 1 + 1 + 1 + 1, om) :: (L + 1 + 1 + 1 + 1 + 1, ov) :: (L + 1 + 1 + 1 + 1, oa) :: (L + 1 + 1 + 1, oc) :: (L + 1 + 1, od) :: (L + 1, on) ::  Z, q.1 ≠ a) : Apt L ((a, o) :: led) := fun p hp => by
  rcases List.mem_cons.mp hp with rfl | hp
  · exact apt7 fun q hq => Ne.symm (h q hq)
  · exact hl p hp
theorem aptSub (hl : Apt L led) (h : ∀ p ∈ R, p ∈ led ∨ ∀ q ∈ (L + 1 + 1 + 1 + 1 + 1 + 1 + 1, ob) :: (L + 1 + 1 + 1 + 1 + 1 + 1, om) :: (L + 1 + 1 + 1 + 1 + 1, ov) :: (L + 1 + 1 + 1 + 1, oa) :: (L + 1 + 1 + 1, oc) :: (L + 1 + 1, od) :: (L + 1, on) ::  Z, p.1 ≠ q.1) : Apt L R := fun p hp => (h p hp).elim (hl p) apt7
theorem aptLt {P : Addr} (h : @LT.lt Nat _ P L) (hl : Apt L led) : Apt L ((P, o) :: led) := fun p hp => by
  rcases List.mem_cons.mp hp with rfl | hp
  · exact ⟨neA (by omega), neA (by omega), neA (by omega), neA (by omega), neA (by omega), neA (by omega), neA (by omega)⟩
  · exact hl p hp
end
theorem n5447 : (54 : Addr) ≠ (47 : Addr) := (by decide : (54 : Nat) ≠ 47)
theorem keepRC {xs : List Int} {k : Nat} {vs : List Value} {l l' : List (Addr × Obj)} (h : Rows (RC xs) k vs l) (hs : ∀ a vs nn, (a, PySem.W.listOf vs nn) ∈ l → (a, PySem.W.listOf vs nn) ∈ l') : Rows (RC xs) k vs l' :=
  ⟨h.len, fun j v e => (h.all j v e).imp fun x => .imp fun a => .imp fun t0 => .imp fun t1 => .imp fun t2 => .imp fun nn e => ⟨e.1, e.2.1, hs _ _ _ e.2.2⟩⟩
noncomputable def lawB (P : Params) : List Stmt := [lawS0 P, lawS1 P, lawS2 P, lawS3 P, lawS4 P, lawS5 P, lawS6 P, lawS7 P, lawS8 P, lawS9 P, lawS10 P, lawS11 P, lawS12 P]
theorem mv7 {α : Type} {x a b c d e f g p : α} {R : List α} (h : p ∈ a :: b :: c :: d :: e :: f :: g :: x :: R) : p ∈ x :: a :: b :: c :: d :: e :: f :: g :: R := by
  simp only [List.mem_cons] at h ⊢
  rcases h with h | h | h | h | h | h | h | h | h <;> simp [h]
theorem mv7x {α : Type} {x y a b c d e f g t p : α} {R R' : List α} (ht : t ∈ R) (hs : p ∈ R' → p ∈ R) (h : p ∈ t :: a :: b :: c :: d :: e :: f :: g :: x :: y :: R') : p ∈ x :: a :: b :: c :: d :: e :: f :: g :: y :: R := by
  rcases List.mem_cons.mp h with h | h
  · subst h
    exact .tail _ (.tail _ (.tail _ (.tail _ (.tail _ (.tail _ (.tail _ (.tail _ (.tail _ ht))))))))
  · rcases List.mem_cons.mp (mv7 h) with h | h
    · rw [h]; exact .head _
    · simp only [List.mem_cons] at h ⊢
      exact .inr (h.imp id fun h => h.imp id fun h => h.imp id fun h => h.imp id fun h => h.imp id fun h => h.imp id fun h => h.imp id fun h => h.imp id hs)
theorem mv79 {α : Type} {x y z a b c d e f g p : α} (h : p ∈ a :: b :: c :: d :: e :: f :: g :: y :: z :: [x]) : p ∈ x :: a :: b :: c :: d :: e :: f :: g :: y :: [z] := by
  simp only [List.mem_cons, List.not_mem_nil, or_false] at h ⊢
  rcases h with h | h | h | h | h | h | h | h | h | h <;> simp [h]
theorem aptG {L q : Addr} (h : @LT.lt Nat _ (L + 1 + 1 + 1 + 1 + 1 + 1 + 1) q) : q ≠ L + 1 ∧ q ≠ L + 1 + 1 ∧ q ≠ L + 1 + 1 + 1 ∧ q ≠ L + 1 + 1 + 1 + 1 ∧ q ≠ L + 1 + 1 + 1 + 1 + 1 ∧ q ≠ L + 1 + 1 + 1 + 1 + 1 + 1 ∧ q ≠ L + 1 + 1 + 1 + 1 + 1 + 1 + 1 :=
  ⟨neA (by omega), neA (by omega), neA (by omega), neA (by omega), neA (by omega), neA (by omega), neA (by omega)⟩
theorem lawMain {prog : Program} {w : World} {dp un : Nat} {gd : Option (List Code)} {base h₀ : Heap} {p : Program} {loose : List Str} {mean : ExcName → Option Value} {mg mb : Str → Option Value} {A₀ : Around} {s : Shared} {L fa : Addr} {cd : Value} {m : Str → Option Value} {Q : Flow → Shared → Prop} {ob om ov oa oc od on : Obj}
    (B : Below A₀ base [] h₀) (X : (hd.heap_39 w.params).In h₀) (T : Top p loose mean mg mb h₀) (hdp : dp + 100 < 1000) (hun : un + 1000 < 9900)
    (XB : (hd.heap_39 w.params).In base) (TB : Top p loose mean mg mb base) {sl : Addr} {svs : List Value} {ns : List Int}
    (F : Fr h₀ L s.heap m) (N : News h₀ L s.heap ((L + 1 + 1 + 1 + 1 + 1 + 1 + 1, ob) :: (L + 1 + 1 + 1 + 1 + 1 + 1, om) :: (L + 1 + 1 + 1 + 1 + 1, ov) :: (L + 1 + 1 + 1 + 1, oa) :: (L + 1 + 1 + 1, oc) :: (L + 1 + 1, od) :: (L + 1, on) ::  [((54 : Addr), tabObj #[]), ((47 : Addr), tabObj #[])])) (h54 : @LT.lt Nat _ 54 L) (h47 : @LT.lt Nat _ 47 L)
    (hob : ob.data = .cell none) (hom : om.data = .cell none) (hov : ov.data = .cell none) (hoa : oa.data = .cell none) (hoc : oc.data = .cell none) (hod : od.data = .cell none) (hon : on.data = .cell none)
    (hsl : h₀.IsList sl svs.toArray) (hI : IntsAre svs ns) (hlen : ns.length ≤ 63) (hm : m (Str.ofString "script") = some (.ref sl)) (h : ∀ h' tk' m' led' ps qs, Fr h₀ L h' m' → News h₀ L h' led' → ((54 : Addr), tabObj ps) ∈ led' → ((47 : Addr), tabObj qs) ∈ led' → Q (.ret (.bool true)) { s with heap := h', toks := tk' }) :
    wpAny (model prog w) (Ar dp un gd [(envOfC (Str.ofString "law") (lawScope w.params) L fa cd)]) (execs (lawB w.params) (envOfC (Str.ofString "law") (lawScope w.params) L fa cd)) Q (fun _ _ => False) s := by
  refine wpAny_execs_cons (stm0 B X T hdp hun F N hsl hI hlen hm fun g0 k0 m0 ln xvs xs hk5 hk0 hmn F0 N0 lt0 hX => ?_)
  have a0 : Apt L [] := fun p hp => nomatch hp
  have aln : Apt L [(ln, PySem.W.listOf xvs.toArray 0)] := aptCons a0 fun q hq => Nat.ne_of_lt (lt0 q hq)
  have l54 : @LT.lt Nat _ 54 ln := lt0 ((54 : Addr), tabObj #[]) (by repeat (first | exact List.Mem.head _ | refine List.Mem.tail _ ?_))
  have l47 : @LT.lt Nat _ 47 ln := lt0 ((47 : Addr), tabObj #[]) (by repeat (first | exact List.Mem.head _ | refine List.Mem.tail _ ?_))
  have aZ : Apt L (((47 : Addr), tabObj #[]) :: [(ln, PySem.W.listOf xvs.toArray 0)]) := aptLt h47 aln
  have a1 : Apt L (((54 : Addr), tabObj #[]) :: ((47 : Addr), tabObj #[]) :: [(ln, PySem.W.listOf xvs.toArray 0)]) := aptLt h54 aZ
  have N0' : News h₀ L g0 ((L + 1 + 1 + 1 + 1 + 1 + 1 + 1, ob) :: (L + 1 + 1 + 1 + 1 + 1 + 1, om) :: (L + 1 + 1 + 1 + 1 + 1, ov) :: (L + 1 + 1 + 1 + 1, oa) :: (L + 1 + 1 + 1, oc) :: (L + 1 + 1, od) :: (L + 1, on) ::  (((54 : Addr), tabObj #[]) :: ((47 : Addr), tabObj #[]) :: [(ln, PySem.W.listOf xvs.toArray 0)])) := newsSub N0 fun p hp => mv79 hp
  clear N0 lt0 F
  refine wpAny_execs_cons (stm1 (m := m0) B X T hdp hun F0 N0' hon hmn (.tail _ (.tail _ (.head _))) hX hk5 (fun p hp => (a1 p hp).1) fun g1 k1 on1 n tn hn6 hn37 hon1 F1 N1 => ?_)
  refine wpAny_execs_cons (stm2 (m := m0) B X T hdp hun F1 N1 hod hon1 hn6 hn37 h54 (fun p hp => ?z54) (fun p hp => (aZ p hp).2.1) fun g2 k2 od2 td c oc2 hod2 F2 N2 hTD hc54 hcl => ?_)
  case z54 =>
    simp only [List.mem_cons, List.not_mem_nil, or_false] at hp
    rcases hp with rfl | rfl
    · exact Ne.symm n5447
    · exact neA (by omega)
  have c47 : c ≠ (47 : Addr) := Ne.symm (hcl ((47 : Addr), tabObj #[]) (by repeat (first | exact List.Mem.head _ | refine List.Mem.tail _ ?_)))
  have a2 : Apt L (((54 : Addr), tabObj #[rawInt (dInn w.params).pos.line, rawInt (dInn w.params).pos.col, .ref c]) :: (c, oc2) :: ((47 : Addr), tabObj #[]) :: [(ln, PySem.W.listOf xvs.toArray 0)]) := aptLt h54 (aptCons aZ hcl)
  have mln : (ln, PySem.W.listOf xvs.toArray 0) ∈ ((54 : Addr), tabObj #[rawInt (dInn w.params).pos.line, rawInt (dInn w.params).pos.col, .ref c]) :: (c, oc2) :: ((47 : Addr), tabObj #[]) :: [(ln, PySem.W.listOf xvs.toArray 0)] := .tail _ (.tail _ (.tail _ (.head _)))
  have m47 : ((47 : Addr), tabObj #[]) ∈ ((54 : Addr), tabObj #[rawInt (dInn w.params).pos.line, rawInt (dInn w.params).pos.col, .ref c]) :: (c, oc2) :: ((47 : Addr), tabObj #[]) :: [(ln, PySem.W.listOf xvs.toArray 0)] := .tail _ (.tail _ (.head _))
  have only47 : ∀ p ∈ ((54 : Addr), tabObj #[rawInt (dInn w.params).pos.line, rawInt (dInn w.params).pos.col, .ref c]) :: (c, oc2) :: ((47 : Addr), tabObj #[]) :: [(ln, PySem.W.listOf xvs.toArray 0)], p.1 = (47 : Addr) → p.2 = tabObj #[] := fun p hp e => by
    simp only [List.mem_cons, List.not_mem_nil, or_false] at hp
    rcases hp with rfl | rfl | rfl | rfl
    · exact absurd e n5447
    · exact absurd e c47
    · rfl
    · exact absurd e (neA (by omega))
  obtain ⟨tvs, tt, tdt, thv⟩ := hTD
  have mkTD : ∀ R, ((54 : Addr), tabObj #[rawInt (dInn w.params).pos.line, rawInt (dInn w.params).pos.col, .ref c]) ∈ R → (c, oc2) ∈ R → TD w.params R := fun R x1 x2 => ⟨c, oc2, tvs, tt, x1, x2, tdt, thv⟩
  clear N1 N0' F1 F0
  refine wpAny_execs_cons (stm3 (m := m0) B X T hdp hun F2 N2 hoc (fun p hp => (a2 p hp).2.2.1) fun g3 k3 oc3 lc hoc3 F3 N3 lt3 => ?_)
  have lcL : @LT.lt Nat _ (L + 1 + 1 + 1 + 1 + 1 + 1 + 1) lc := lt3 (L + 1 + 1 + 1 + 1 + 1 + 1 + 1, ob) (by repeat (first | exact List.Mem.head _ | refine List.Mem.tail _ ?_))
  have hlc : ∀ p ∈ ((54 : Addr), tabObj #[rawInt (dInn w.params).pos.line, rawInt (dInn w.params).pos.col, .ref c]) :: (c, oc2) :: ((47 : Addr), tabObj #[]) :: [(ln, PySem.W.listOf xvs.toArray 0)], @LT.lt Nat _ p.1 lc := fun p hp => lt3 p (by repeat (first | exact hp | refine List.Mem.tail _ ?_))
  clear N2 F2 lt3
  refine wpAny_execs_cons (stm4 (m := m0) B X T hdp hun F3 N3 hoc3 hmn mln hX hk5 lcL (fun p hp => Nat.ne_of_lt (hlc p hp)) fun g4 k4 m4 cvs nc R4 i4 F4 N4 s4 hC o4 => ?_)
  have a4 : Apt L R4 := fun p hp => by
    rcases o4 p hp with h | h
    · exact a2 p h
    · have h' : @LT.lt Nat _ lc p.1 := h
      exact aptG (Nat.lt_trans lcL h')
  have lc47 : @LT.lt Nat _ 47 lc := by omega
  have R47 : ∀ p ∈ R4, p.1 = (47 : Addr) → p.2 = tabObj #[] := fun p hp e => by
    rcases o4 p hp with h | h
    · exact only47 p h e
    · have h' : @LT.lt Nat _ lc p.1 := h
      have e' : @Eq Nat p.1 47 := e
      omega
  have a4c : Apt L ((lc, PySem.W.listOf cvs.toArray nc) :: R4) := fun p hp => by
    rcases List.mem_cons.mp hp with rfl | hp
    · exact aptG lcL
    · exact a4 p hp
  have N4' : News h₀ L g4 ((L + 1 + 1 + 1 + 1 + 1 + 1 + 1, ob) :: (L + 1 + 1 + 1 + 1 + 1 + 1, om) :: (L + 1 + 1 + 1 + 1 + 1, ov) :: (L + 1 + 1 + 1 + 1, oa) :: (L + 1 + 1 + 1, oc3) :: (L + 1 + 1, od2) :: (L + 1, on1) ::  ((lc, PySem.W.listOf cvs.toArray nc) :: R4)) := newsSub N4 fun p hp => mv7 hp
  have hC5 : Rows (RC xs) xs.length cvs ((lc, PySem.W.listOf cvs.toArray nc) :: R4) := hC.mono (RC.mono fun p hp => .tail _ hp)
  clear N3 F3 N4
  refine wpAny_execs_cons (stm5 (m := m4) B X T hdp hun F4 N4' hon1 hn6 hn37 hoc3 (.head _) hC5 hk5 (mkTD _ (.tail _ (s4 _ (.head _))) (.tail _ (s4 _ (.tail _ (.head _))))) fun g5 k5 lw wvs F5 N5 hW o5 => ?_)
  have lw47 : lw ≠ (47 : Addr) := Ne.symm (o5 ((47 : Addr), tabObj #[]) (by
    have : ((47 : Addr), tabObj #[]) ∈ (lc, PySem.W.listOf cvs.toArray nc) :: R4 := .tail _ (s4 _ m47)
    repeat (first | exact this | refine List.Mem.tail _ ?_)))
  have a5 : Apt L ((lw, lst wvs) :: (lc, PySem.W.listOf cvs.toArray nc) :: R4) := aptCons a4c o5
  generalize hR6 : R4.filter (fun p => decide (@Ne Nat p.1 47)) = R6
  have in6 : ∀ p ∈ R4, p.1 ≠ (47 : Addr) → p ∈ R6 := fun p hp e => hR6 ▸ List.mem_filter.mpr ⟨hp, decide_eq_true e⟩
  have of6 : ∀ p ∈ R6, p ∈ R4 ∧ p.1 ≠ (47 : Addr) := fun p hp => by
    rw [← hR6] at hp
    exact ⟨(List.mem_filter.mp hp).1, of_decide_eq_true (List.mem_filter.mp hp).2⟩
  have N5' : News h₀ L g5 (((47 : Addr), tabObj #[]) :: (L + 1 + 1 + 1 + 1 + 1 + 1 + 1, ob) :: (L + 1 + 1 + 1 + 1 + 1 + 1, om) :: (L + 1 + 1 + 1 + 1 + 1, ov) :: (L + 1 + 1 + 1 + 1, oa) :: (L + 1 + 1 + 1, oc3) :: (L + 1 + 1, od2) :: (L + 1, on1) ::  ((lw, lst wvs) :: (lc, PySem.W.listOf cvs.toArray nc) :: R6)) := newsSub N5 fun p hp => mv7x (s4 _ m47) (fun h => (of6 _ h).1) hp
  have hC6 : Rows (RC xs) xs.length cvs ((lw, lst wvs) :: (lc, PySem.W.listOf cvs.toArray nc) :: R6) := keepRC hC fun a vs nn x => .tail _ (.tail _ (in6 _ x fun e => absurd (R47 _ x e) (by
    intro y
    have := congrArg Obj.cls y
    exact absurd this (by first | decide | simp [PySem.W.listOf, tabObj]))))
  have a6 : Apt L ((lw, lst wvs) :: (lc, PySem.W.listOf cvs.toArray nc) :: R6) := fun p hp => a5 p (by
    simp only [List.mem_cons] at hp ⊢
    exact hp.imp id fun h => h.imp id fun h => (of6 _ h).1)
  have z47 : ∀ p ∈ (lw, lst wvs) :: (lc, PySem.W.listOf cvs.toArray nc) :: R6, p.1 ≠ (47 : Addr) := fun p hp => by
    simp only [List.mem_cons] at hp
    rcases hp with rfl | rfl | hp
    · exact lw47
    · exact neA (by omega)
    · exact (of6 _ hp).2
  have mT : ((54 : Addr), tabObj #[rawInt (dInn w.params).pos.line, rawInt (dInn w.params).pos.col, .ref c]) ∈ R6 := in6 _ (s4 _ (.head _)) n5447
  have mc : (c, oc2) ∈ R6 := in6 _ (s4 _ (.tail _ (.head _))) c47
  have mn : (ln, PySem.W.listOf xvs.toArray 0) ∈ R6 := in6 _ (s4 _ mln) (neA (by omega))
  clear N4' F4 N5 hC5
  refine wpAny_execs_cons (stm6 (lw := lw) B X T hdp hun XB TB F5 N5' h47 z47 (fun p hp => (a6 p hp).2.2.2.1) hoa hon1 hod2 hn6 hn37 hoc3 (by simp) (.head _) (hW.mono fun _ _ y => y) (.tail _ (.head _)) hC6 hk5 hk0 (mkTD _ (.tail _ (.tail _ mT)) (.tail _ (.tail _ mc))) fun g6 k6 m6 oa6 v6 o47 R7 i6 F6 N6 hoa6 s7 hF47 o7 => ?_)
  have a7 : Apt L R7 := aptSub (Z := []) a6 fun p hp => (o7 p hp).imp id fun h q hq => h q (.tail _ hq)
  have a7' : Apt L (((47 : Addr), o47) :: R7) := aptLt h47 a7
  have hTI7 : TI w.params (((47 : Addr), o47) :: R7) := by
    obtain ⟨c', oc', vs, t, e1, e2, e3, e4⟩ := hF47
    exact ⟨c', oc', vs, t, e1 ▸ .head _, .tail _ e2, e3, e4⟩
  have N6' : News h₀ L g6 ((L + 1 + 1 + 1 + 1 + 1 + 1 + 1, ob) :: (L + 1 + 1 + 1 + 1 + 1 + 1, om) :: (L + 1 + 1 + 1 + 1 + 1, ov) :: (L + 1 + 1 + 1 + 1, oa6) :: (L + 1 + 1 + 1, oc3) :: (L + 1 + 1, od2) :: (L + 1, on1) ::  (((47 : Addr), o47) :: R7)) := newsSub N6 fun p hp => mv7 hp
  clear N5' F5 N6
  have mw6 : m6 (Str.ofString "wholes") = some (.ref lw) := (i6 _ (by decide)).trans (by simp)
  have mn6 : m6 (Str.ofString "numbers") = some (.ref ln) := (i6 _ (by decide)).trans (by
    rw [if_neg (by decide)]
    exact (i4 _ (by decide) (by decide)).trans hmn)
  refine wpAny_execs_cons (stm7 (tn := tn) (m := m6) B X T hdp hun F6 N6' hod2 hn6 hn37 mw6 (.tail _ (s7 _ (.head _))) (hW.mono fun _ _ y => y) hk5 (mkTD _ (.tail _ (s7 _ (.tail _ (.tail _ mT)))) (.tail _ (s7 _ (.tail _ (.tail _ mc))))) hTI7 fun g7 k7 lp pvs R8 F7 N7 s8 hP o8 q8 => ?_)
  have a8 : Apt L ((lp, lst pvs) :: R8) := aptCons (aptSub a7' q8) o8
  have N7' : News h₀ L g7 ((L + 1 + 1 + 1 + 1 + 1 + 1 + 1, ob) :: (L + 1 + 1 + 1 + 1 + 1 + 1, om) :: (L + 1 + 1 + 1 + 1 + 1, ov) :: (L + 1 + 1 + 1 + 1, oa6) :: (L + 1 + 1 + 1, oc3) :: (L + 1 + 1, od2) :: (L + 1, on1) ::  ((lp, lst pvs) :: R8)) := newsSub N7 fun p hp => mv7 hp
  have up8 : ∀ p ∈ (lw, lst wvs) :: (lc, PySem.W.listOf cvs.toArray nc) :: R6, p ∈ R8 := fun p hp => s8 p (.tail _ (s7 p hp))
  clear F6 N6' N7
  refine wpAny_execs_cons (stm8 B X T hdp hun F7 N7' hov hoc3 (.tail _ (up8 _ (.tail _ (.head _)))) (hC6.mono (RC.mono fun p hp => .tail _ (up8 p hp))) hk5 (fun p hp => (a8 p hp).2.2.2.2.1) fun g8 k8 lv vvs R9 ov8 F8 N8 hov8 s9 hV o9 q9 => ?_)
  have a9 : Apt L ((lv, lst vvs) :: R9) := aptCons (aptSub a8 q9) o9
  have N8' : News h₀ L g8 ((L + 1 + 1 + 1 + 1 + 1 + 1 + 1, ob) :: (L + 1 + 1 + 1 + 1 + 1 + 1, om) :: (L + 1 + 1 + 1 + 1 + 1, ov8) :: (L + 1 + 1 + 1 + 1, oa6) :: (L + 1 + 1 + 1, oc3) :: (L + 1 + 1, od2) :: (L + 1, on1) ::  ((lv, lst vvs) :: R9)) := newsSub N8 fun p hp => mv7 hp
  have up9 : ∀ p ∈ (lp, lst pvs) :: R8, p ∈ (lv, lst vvs) :: R9 := fun p hp => .tail _ (s9 p hp)
  clear F7 N7' N8
  have mp8 : (fun z => if z = Str.ofString "pairs" then some (Value.ref lp) else m6 z) (Str.ofString "pairs") = some (.ref lp) := by simp
  have mw8 : (fun z => if z = Str.ofString "pairs" then some (Value.ref lp) else m6 z) (Str.ofString "wholes") = some (.ref lw) := by
    dsimp only
    rw [if_neg (by decide)]
    exact mw6
  have mn8 : (fun z => if z = Str.ofString "pairs" then some (Value.ref lp) else m6 z) (Str.ofString "numbers") = some (.ref ln) := by
    dsimp only
    rw [if_neg (by decide)]
    exact mn6
  generalize (fun z => if z = Str.ofString "pairs" then some (Value.ref lp) else m6 z) = m8 at F8 mp8 mw8 mn8
  have hP9 : Rows (RP n xs) xs.length pvs ((lv, lst vvs) :: R9) := hP.mono (RP.mono fun p hp => up9 p (.tail _ hp))
  refine wpAny_execs_cons (stm9 (m := m8) B X T hdp hun F8 N8' hom mp8 (up9 _ (.head _)) hP9 hk5 hk0 (fun p hp => (a9 p hp).2.2.2.2.2.1) fun g9 k9 M tM om9 F9 N9 hom9 hM hM2 => ?_)
  have hM6 : M ≤ 6 := by
    obtain ⟨x, _, e⟩ := hM2
    rw [e]
    exact (quoN_le hn6 x).2
  clear F8 N8'
  refine wpAny_execs_cons (stm10 (m := m8) B X T hdp hun F9 N9 hom9 hoc3 mn8 (up9 _ (.tail _ (s8 _ (.tail _ (s7 _ (.tail _ (.tail _ mn))))))) hX (up9 _ (.tail _ (up8 _ (.tail _ (.head _))))) (hC6.mono (RC.mono fun p hp => up9 _ (.tail _ (up8 p hp)))) mp8 (up9 _ (.head _)) hP9 hk5 hn6 hM hM6 fun g10 k10 ls svs10 R11 F10 N10 s11 hS o11 q11 => ?_)
  have a11 : Apt L ((ls, lst svs10) :: R11) := aptCons (aptSub a9 q11) o11
  have N10' : News h₀ L g10 ((L + 1 + 1 + 1 + 1 + 1 + 1 + 1, ob) :: (L + 1 + 1 + 1 + 1 + 1 + 1, om9) :: (L + 1 + 1 + 1 + 1 + 1, ov8) :: (L + 1 + 1 + 1 + 1, oa6) :: (L + 1 + 1 + 1, oc3) :: (L + 1 + 1, od2) :: (L + 1, on1) ::  ((ls, lst svs10) :: R11)) := newsSub N10 fun p hp => mv7 hp
  have up11 : ∀ p ∈ (lv, lst vvs) :: R9, p ∈ (ls, lst svs10) :: R11 := fun p hp => .tail _ (s11 p hp)
  have upP : ∀ p ∈ (lp, lst pvs) :: R8, p ∈ (ls, lst svs10) :: R11 := fun p hp => up11 p (up9 p hp)
  have upC : ∀ p ∈ (lw, lst wvs) :: (lc, PySem.W.listOf cvs.toArray nc) :: R6, p ∈ (ls, lst svs10) :: R11 := fun p hp => upP p (.tail _ (up8 p hp))
  have hm10 : Lists (fun z => if z = Str.ofString "stages" then some (Value.ref ls) else m8 z) lp lw ls := ⟨(if_neg (by decide)).trans mp8, (if_neg (by decide)).trans mw8, if_pos rfl⟩
  clear F9 N9 N10
  refine wpAny_execs_cons (stm11 (m := fun z => if z = Str.ofString "stages" then some (Value.ref ls) else m8 z) B X T hdp hun F10 N10' hoa6 hob hod2 hoc3 hov8 hn6 hn37 (mkTD _ (upC _ (.tail _ (.tail _ mT))) (upC _ (.tail _ (.tail _ mc)))) (hTI7.sub fun p hp => upP _ (.tail _ (s8 p hp))) hm10 hk5 hM (fun p hp => (a11 p hp).2.2.2.1) (fun p hp => (a11 p hp).2.2.2.2.2.2) (upC _ (.tail _ (.head _))) (upP _ (.head _)) (up11 _ (.head _)) (upC _ (.head _)) (.head _) (hC6.mono (RC.mono upC)) (hP.mono (RP.mono fun p hp => upP p (.tail _ hp))) (hV.mono (RV.mono fun p hp => up11 p (.tail _ hp))) (hW.mono fun _ _ y => y) (hS.mono (RS.mono fun p hp => .tail _ hp)) fun g11 k11 m11 F11 N11 => ?_)
  obtain ⟨_, _, _, _, x47', _⟩ := (hTI7.sub (l' := (ls, lst svs10) :: R11) fun p hp => upP _ (.tail _ (s8 p hp))).ex
  have x54 := upC _ (.tail _ (.tail _ mT))
  exact wpAny_execs_cons (stm12 (ob := ob) (om := om9) (ov := ov8) (oa := oa6) (oc := oc3) (od := od2) (on := on1) B X T hdp hun F11 fun tk => h g11 tk m11 _ _ _ F11 N11 x54 x47')
end Mine
end
/-! part L17 -/
open PySem PySem.W PyProof.Rows PySem.Calls PySem.Spec
set_option Elab.async false
set_option maxRecDepth 100000
set_option maxHeartbeats 4000000
set_option linter.unusedSimpArgs false
set_option linter.unusedVariables false
namespace Mine
open LCg

end Mine
theorem PySem.Challenge.cw_pe0162_01_holds : PySem.Challenge.rw_pe0162_01.Holds :=
  Mine.hd (by
    k_go0
    (all_goals try k_fold)
    (rename _ ∧ _ => l0)
    refine wpAny_mono (Mine.lawMain (by assumption) (by assumption) (by assumption) ?h1 ?h2 (by assumption) (by assumption) (by assumption) (by assumption) l0.1 l0.2 ?c1 ?c2 ?c3 ?c4 ?c5 ?c6 ?c7 (by assumption) (by assumption) ?h3 ?h4 ?post) (fun _ _ x => x) fun _ _ y => y.elim
    case h1 => decide
    case h2 => decide
    case c1 => assumption
    case c2 => assumption
    case c3 => assumption
    case c4 => assumption
    case c5 => assumption
    case c6 => assumption
    case c7 => assumption
    case h3 => omega
    case h4 => first | rfl | with_unfolding_all rfl
    case post =>
      intro h' tk' m' led' ps qs Fz Nz x54 x47
      refine ⟨?good, GrownAt.of Nz x54, GrownAt.of Nz x47, trivial⟩
      wrow_close)
