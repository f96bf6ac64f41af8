import PyProof.Rows.All
import Wide.All
import OpenK.AllK
import Wide.FinOn
import Lean
import PySem.Challenge.RW_lh0028_01
open PySem PySem.W PyProof.Rows
set_option Elab.async false
set_option maxRecDepth 100000
set_option maxHeartbeats 8000000
set_option rowWalk.seconds 0
lay_quick PySem.Challenge.pw_lh0028_01
namespace Mine
open PySem.Calls in
theorem left_boot {p q : Program} {loose : List Str} {Xt : Shared → Bool} {α : Type} {Yf : Shared → α} {Ya : World → α} {N : Nat} {g0 : Bool}
    (e : opening p = plainProg p.main.scope.names) (hN : Nat.ble 600 N = true) (f : ∀ s, fenceModules? p s = some s)
    (h : ∀ (w : World) (os : OsState), (topFrom treeTable p w N ⟨boot_heap w.params, Array.mk [], boot_drawn, boot_toks, os⟩).map (fun s => (openSeen q loose (importedModules p.main.body) Xt g0 s, Yf s)) = some (openGood q loose, Ya w)) : LeftO p q loose Xt Yf Ya N g0 := fun w => by
  obtain ⟨s, hs, hv⟩ := Option.map_eq_some_iff.mp (boot_open e hN f w)
  obtain ⟨hp, g, d, t, os⟩ := s
  simp only [Prod.mk.injEq] at hv
  obtain ⟨h1, h2, h3, h4⟩ := hv
  subst h1 h2 h3 h4
  unfold openEnds
  rw [hs]
  exact h w os
def vw : Program := view PySem.Challenge.pw_lh0028_01 [0, 2, 3, 4, 5, 6, 8, 10, 11, 13, 15, 17, 18, 19, 20, 21, 22, 23, 24, 25]
def lo : List Str := [Str.ofString "POW_2_381", Str.ofString "POW_2_382", Str.ofString "POW_2_383", Str.ofString "is_point_at_infinity", Str.ofString "FQ"]
def lv : List (Str × WData) := [(Str.ofString "POW_2_381", WData.int 4925250774549309901534880012517951725634967408808180833493536675530715221437151326426783281860614455100828498788352),
  (Str.ofString "POW_2_382", WData.int 9850501549098619803069760025035903451269934817616361666987073351061430442874302652853566563721228910201656997576704),
  (Str.ofString "POW_2_383", WData.int 19701003098197239606139520050071806902539869635232723333974146702122860885748605305707133127442457820403313995153408)]


open PySem.Calls
/-- the top's run over a tree of objects -/
def topRunT (stp : SharedT → Thread → Option (SharedT × Thread)) (ok : Thread → Bool) : Nat → SharedT → Thread → Option SharedT
  | 0, _, _ => none
  | n + 1, s, t => match through t with
    | true => some s
    | false => match ok t with
      | false => none
      | true => match stp s t with
        | some (s', t') => topRunT stp ok n s' t'
        | none => none
theorem topRun_ofT {tb : String → Option Builtin} {p : Program} {w : World} {n₀ : Nat} {ann : Option Value} : ∀ {n : Nat} {s s' : SharedT} {t : Thread}, topRunT (stepT (denote tb) p w) (stepOk n₀ ann) n s t = some s' → topRun tb p w n₀ ann n s.abs t = some s'.abs
  | 0, _, _, _, h => by cases h
  | n + 1, s, s', t, h => by
    unfold topRunT at h
    unfold topRun
    cases he : through t with
    | true => rw [he] at h; cases h; rfl
    | false =>
      rw [he] at h
      cases hk : stepOk n₀ ann t with
      | false => rw [hk] at h; cases h
      | true =>
        rw [hk] at h
        cases hs : stepT (denote tb) p w s t with
        | none => rw [hs] at h; cases h
        | some r => obtain ⟨s₂, t₂⟩ := r; rw [hs] at h; rw [stepT_spec hs]; exact topRun_ofT h
def layT : List Obj → Nat → BT → BT
  | [], _, t => t
  | o :: r, i, t => layT r (i + 1) (t.ins i o)
noncomputable def bootT (P : Params) : BT := layT (boot_heap P).objs.toList 0 .nil
noncomputable def boot0 (P : Params) (os : OsState) : SharedT := ⟨bootT P, (boot_heap P).objs.size, (boot_heap P).life, Array.mk [], boot_drawn, boot_toks, os⟩
theorem boot0_abs (P : Params) (os : OsState) : (boot0 P os).abs = ⟨boot_heap P, Array.mk [], boot_drawn, boot_toks, os⟩ := by kernel_rfl!
theorem boot_ns (P : Params) (os : OsState) : ((⟨boot_heap P, Array.mk [], boot_drawn, boot_toks, os⟩ : Shared).heap.isNs mainGlobals && (⟨boot_heap P, Array.mk [], boot_drawn, boot_toks, os⟩ : Shared).gens.size == 0) = true := by kernel_rfl!
theorem left_bootT {p q : Program} {loose : List Str} {Xt : Shared → Bool} {α : Type} {Yf : Shared → α} {Ya : World → α} {N : Nat}
    (e : opening p = plainProg p.main.scope.names) (hN : Nat.ble 600 N = true) (f : ∀ s, fenceModules? p s = some s)
    (h : ∀ w : World, (fun os => (topRunT (stepT (denote treeTable) p w) (stepOk (boot_heap w.params).objs.size ((boot_heap w.params).nsMap mainGlobals "__annotations__")) N (boot0 w.params os) (topStub p)).map (fun s => (staticsOk (importedModules p.main.body) (boot_heap w.params) s.abs.heap && namesBound p s.abs.heap && gensDone s.abs && laidKept (boot_heap w.params) s.abs.heap, openSeen q loose (importedModules p.main.body) Xt true s.abs, Yf s.abs))) = fun _ => some (true, openGood q loose, Ya w)) :
    LeftO p q loose Xt Yf Ya N := left_boot e hN f fun w os => by
  have hw := congrFun (h w) os
  obtain ⟨s, hs, hv⟩ := Option.map_eq_some_iff.mp hw
  have hr := topRun_ofT hs
  rw [boot0_abs] at hr
  unfold topFrom
  rw [boot_ns]
  have e1 : (_ && _) = true := congrArg Prod.fst hv
  show ((topRun treeTable p w (boot_heap w.params).objs.size ((boot_heap w.params).nsMap mainGlobals "__annotations__") N ⟨boot_heap w.params, Array.mk [], boot_drawn, boot_toks, os⟩ (topStub p)).bind _).map _ = _
  rw [hr]
  show (match staticsOk (importedModules p.main.body) (boot_heap w.params) s.abs.heap && namesBound p s.abs.heap && gensDone s.abs && laidKept (boot_heap w.params) s.abs.heap with
      | true => some s.abs
      | false => none).map _ = _
  rw [e1]
  exact congrArg some (congrArg Prod.snd hv)
local macro_rules | `(tactic| o_head $H) => `(tactic| (
  refine holds_open (q := vw) (loose := lo) (Xt := fun s => xlAt vw lv s && recOk (RowW.records (PySem.Challenge.rw_lh0028_01.row.toRowW)) s) (XP := XL vw lv) (Yf := Hook.obs $H) (Ya := Hook.val $H) (YP := Hook.says $H) (N := 3264) (left_bootT (p := PySem.Challenge.pw_lh0028_01) ?e ?n ?f ?hl) (Hook.of $H) (Hook.keeps $H) (fun s e => xl_of s (Bool.and_eq_true_iff.mp e).1) XL.keeps (by rfl) (by rfl) (by rfl) (fun s e => recFacts_of (Bool.and_eq_true_iff.mp e).2) (by rfl) (by first | assumption | decide +kernel) (by decide +kernel) ⟨rfl, rfl, rfl, rfl, rfl, by decide +kernel⟩ ?hw ?hc
  (case e => with_unfolding_all rfl)
  (case n => rfl)
  (case f => intro s; with_unfolding_all rfl)
  (case hl => intro w; (rewrite [PySem.W.Fast.te10156331382660048174, PySem.W.Fast.te11892475500146522536, PySem.W.Fast.te14364793385576792824, PySem.W.Fast.te6613529449190102663, PySem.W.Fast.te4187177175401517315, PySem.W.Fast.te14723022809934033145]); kernel_rfl!)))
open_top hd for PySem.Challenge.rw_lh0028_01
end Mine
namespace Mine
theorem ipow3 (a : Int) (t : Tok) (b : Int) (u : Tok) (c : Int) (v : Tok) (hc0 : ¬(c == 0) = true) (hc1 : ¬(c.natAbs == 1) = true) (hb : ¬ b < 0) (hm : ¬ c < 0) :
    Gives (Builtin.«int.__pow__» ⟨[.int a t, .int b u, .int c v], []⟩) (.int ((Builtin.powMod ((a % (c.natAbs : Int)).toNat) b.natAbs c.natAbs : Nat) : Int)) :=
  .of_wp fun M A E s Q h => by
    obtain ⟨hp, g, d, tk, os⟩ := s
    wp_walk
    have e : decide (c < 0) = false := by simpa using hm
    rw [e]
    exact ⟨_, rfl, h⟩
theorem kind_pow : builtinKind "pow" = none := by decide +kernel
theorem plain_pow : plainId "pow" = true := by decide +kernel
theorem entry_pow : entryFor table "pow" = some Builtin.«pow» := entryFor_of_fast (by kernel_rfl)
theorem args_pow3 (a b c : Value) : argsOk "pow" ⟨[a, b, c], []⟩ := by unfold argsOk; kernel_rfl
theorem args_ipow3 (a b c : Value) : argsOk "int.__pow__" ⟨[a, b, c], []⟩ := by unfold argsOk; kernel_rfl

/-- b to the e-th, modulo m -/
def pwm (a b c : Int) : Int := ((Builtin.powMod ((a % (c.natAbs : Int)).toNat) b.natAbs c.natAbs : Nat) : Int)

theorem call_pow3 {prog : Program} {w : World} {A : Around} {E : Value → Shared → Prop} {s : Shared} {a b c : Int} {t u v : Tok} {Q : Value → Shared → Prop} (hb : 0 ≤ b) (hc : 1 < c)
    (h : ∀ r tk, Q (.int (pwm a b c) r) { s with toks := tk }) :
    wpAny (model prog w) A (call (.builtin "pow") [.int a t, .int b u, .int c v]) Q E s := by
  refine Calls.call_function_entry kind_pow plain_pow entry_pow (args_pow3 _ _ _) ?_
  unfold Builtin.«pow»
  refine wpAny_bind (m := Builtin.Builtins.bindParams "pow" ["base", "exp", "mod"] 2 _) (wpAny_pure ?_)
  have hi := call_meets (prog := prog) (w := w) (A := A.in1) (E := E) (s := s) (Q := fun x s' => x ≠ .notImplemented ∧ Q x s') F.slot_int_pow (typeIs_int s a t) F.entry_int_pow (args_ipow3 (.int a t) (.int b u) (.int c v))
    (ipow3 a t b u c v (by simp; omega) (by simp; omega) (by omega) (by omega)).meets ⟨(by intro e; cases e), h _ _⟩
  show wpAny _ _ (do rule "pow.mod"; _) _ _ s
  wp_walk
  rw [show typeLookup (Value.type "int") (Str.ofString "__pow__") = pure (some (.builtin "int.__pow__")) from F.slot_int_pow.lookup]
  refine wpAny_pure ?_
  dsimp only
  refine wpAny_bind (wpAny_callSpecial?_slot (name := Str.ofString "__pow__") (typeIs_int s a t) F.slot_int_pow (wpAny_mono hi (fun x s' hx => ?_) fun _ _ x => x))
  dsimp only
  rw [if_pos (by simpa using hx.1)]
  exact wpAny_pure ⟨_, rfl, hx.2⟩
theorem fold_lt {m b e : Nat} (hm : 0 < m) : ∀ (l : List Nat) (p : Nat), p < m → l.foldl (fun p i => if e.testBit i then p * p % m * b % m else p * p % m) p < m
  | [], _, h => h
  | i :: l, p, _ => by
    rw [List.foldl_cons]
    refine fold_lt hm l _ ?_
    split <;> exact Nat.mod_lt _ hm
theorem pwm_range {a e P : Int} (h : 0 < P) : 0 ≤ pwm a e P ∧ pwm a e P < P := by
  unfold pwm Builtin.powMod
  have hm : 0 < P.natAbs := by omega
  have hl := fold_lt (b := (a % (P.natAbs : Int)).toNat) (e := e.natAbs) hm (List.range (Builtin.Int.intBits (e.natAbs : Int))).reverse (1 % P.natAbs) (Nat.mod_lt _ hm)
  omega
theorem mulOk_pwm {a e P c : Int} (h : 0 < P) (h1 : P ≤ 127) : IntMulOk (pwm a e P) c := .of_left (PySem.intBits_le_64 (by have := pwm_range (a := a) (e := e) h; omega) (by have := pwm_range (a := a) (e := e) h; omega))
end Mine
namespace Mine
theorem item_mem {prog : Program} {w : World} {A : Around} {E : Value → Shared → Prop} {s : Shared} {value slice : PySem.Expr} {l : Addr} {vs : List Value} {ns : List Int} {k : Int} {u : Tok} {Q : Value → Shared → Prop}
    (hl : s.heap.IsList l vs.toArray) (hi : IntsAre vs ns) (h0 : 0 ≤ k) (h1 : k < ns.length) (h2 : k < 2 ^ 63) (h : ∀ (v : Int) (t : Tok), v ∈ ns → Q (.int v t) s)
    (hs : subscripted slice false (.ref l) (.int k u) = operate [.ref l, .int k u] (getItem (.ref l) (.int k u)) := by with_unfolding_all rfl) :
    wpAny (model prog w) A (subscriptTail value slice (.ref l) (.int k u)) Q E s := by
  have hk : k.toNat < ns.length := by omega
  obtain ⟨t, hx⟩ := hi.get k.toNat _ (List.getElem?_eq_getElem hk)
  exact tail_any hl.typeIs slot_list_getitem.lookup (wpAny_getItem_list hl h0 h2 (by simpa using hx) (h _ t (List.getElem_mem hk))) hs
end Mine
namespace Mine
def primes : List Int := [7, 19, 31, 43, 67, 79, 103, 127]

/-- the loop's test in the curve's search -/
def bad (p b : Int) : Bool := b == 0 || pwm (p - b) ((p - 1).fdiv 3) p == 1
def dist (p : Int) : Nat → Int → Nat
  | 0, _ => 0
  | n + 1, b => if bad p b then dist p n ((b + 1).fmod p) + 1 else 0
theorem dist_all : (primes.all fun p => (List.range p.toNat).all fun b => !bad p b || decide (dist p 24 (((b : Int) + 1).fmod p) < dist p 24 b)) = true := by decide +kernel
theorem dist_lt {p b : Int} (hp : p ∈ primes) (h0 : 0 ≤ b) (h1 : b < p) (hb : bad p b = true) : dist p 24 ((b + 1).fmod p) < dist p 24 b := by
  have h := List.all_eq_true.mp (List.all_eq_true.mp dist_all p hp) b.toNat (List.mem_range.mpr (by omega))
  have e : ((b.toNat : Nat) : Int) = b := by omega
  rw [e, hb] at h
  simpa using h
theorem bad_l {p b : Int} (h : b = 0) : bad p b = true := by subst h; rfl
theorem bad_r {p b : Int} (h : pwm (p - b) ((p - 1).fdiv 3) p = 1) : bad p b = true := by unfold bad; rw [h]; simp
theorem bad_n {p b : Int} (h0 : ¬ b = 0) (h : ¬ pwm (p - b) ((p - 1).fdiv 3) p = 1) : bad p b = false := by unfold bad; simp [h0, h]

theorem fm_pos {a p : Int} (h : 0 < p) : 0 ≤ a.fmod p ∧ a.fmod p < p := ⟨Int.fmod_nonneg_of_pos a h, Int.fmod_lt_of_pos a h⟩

local macro_rules | `(tactic| walk_at "call builtin:pow") => `(tactic| (k_here; (with_reducible show wpAny _ _ (call (Value.builtin "pow") [Value.int _ _, Value.int _ _, Value.int _ _]) _ _ _); (refine call_pow3 ?_ ?_ ?_); (first | omega | l_fact); (first | omega | l_fact); intro _ _))

theorem curve_ok {w : World} {dp un : Nat} {gd : Option (List Code)} {cn : Str} {cs : Scope} {a : Addr} {ccd : Value} {cl : List (Str × Addr)} {outer : List Env} {A₀ : Around} {base h₀ : Heap} {L : Addr} {m : Str → Option Value} {s : Shared} {Q E : Value → Shared → Prop}
   {news : List (Addr × Obj)} {p : Program} {loose : List Str} {mean : ExcName → Option Value} {mg mb : Str → Option Value}
   (B : Below A₀ base outer h₀) (F : Fr h₀ L s.heap m) (X : (hd.heap_39 w.params).In h₀) (N : News h₀ L s.heap news) (T : Top p loose mean mg mb h₀) (hk : cs.kind = .function) (hdp : dp + 10 < recursionLimit) (hun : un + 100 < cLine)
   (P n : Int) (t1 t2 : Tok) (hP : P ∈ primes) (h7 : 7 ≤ P) (h127 : P ≤ 127)
   (hret : ∀ (b : Int) (t : Tok) (h' : Heap) (tk' : Nat), Fr h₀ L h' m → News h₀ L h' news → 0 ≤ b → b < P → bad P b = false → Q (.int b t) { s with heap := h', toks := tk' }) :
   wpAny (model PySem.Challenge.rw_lh0028_01.row.prog w) (ktrTop dp un gd cn cs L a ccd cl outer) (call (.ref 261) [.int P t1, .int n t2]) Q E s := by
  revert X; k_fill; intro X
  k_with_none
  k_with "exec While BoolOp cons nil" => k_while_given ["p"] (fun p script b => 0 ≤ b ∧ b < p) (fun p script b => dist p 24 b) "b"
  k_with "state" => exact fm_pos (by omega)
  k_with "measure" => first | exact dist_lt hP (by omega) (by omega) (bad_l (by assumption)) | exact dist_lt hP (by omega) (by omega) (bad_r (by assumption))
  refine wpAny_call ?_
  k_dflt cell_enter
  k_steps
  all_goals exact hret _ _ _ _ (by assumption) (by assumption) (by omega) (by omega) (bad_n (by assumption) (by assumption))
end Mine
namespace Mine
abbrev fqD (w : World) (p n : Int) (k1 k2 t1 t2 : Tok) : Obj := dictOf [⟨PyData.keyHash w.params "field_modulus", .str "field_modulus" k1, .int p t1⟩, ⟨PyData.keyHash w.params "n", .str "n" k2, .int n t2⟩] 2
theorem mem_tl {α : Type} {a b : α} {l : List α} (h : a ∈ l) : a ∈ b :: l := List.Mem.tail _ h
theorem ne_of_lts {d : Addr} {l : List (Addr × Obj)} (h : ∀ p ∈ l, p.1 < d) : ∀ p ∈ l, p.1 ≠ d := fun p hp => Nat.ne_of_lt (h p hp)
local macro_rules | `(tactic| k_all) => `(tactic| exact ne_of_lts (by assumption))

local macro_rules | `(tactic| k_room) => `(tactic| ktr_room)
local macro_rules | `(tactic| k_units) => `(tactic| ktr_units)
theorem fq_ok {w : World} {dp un : Nat} {gd : Option (List Code)} {cn : Str} {cs : Scope} {a : Addr} {ccd : Value} {cl : List (Str × Addr)} {outer : List Env} {A₀ : Around} {base h₀ : Heap} {L : Addr} {m : Str → Option Value} {s : Shared} {Q E : Value → Shared → Prop}
   {news : List (Addr × Obj)} {p : Program} {loose : List Str} {mean : ExcName → Option Value} {mg mb : Str → Option Value}
   (B : Below A₀ base outer h₀) (F : Fr h₀ L s.heap m) (X : (hd.heap_39 w.params).In h₀) (N : News h₀ L s.heap news) (T : Top p loose mean mg mb h₀) (hk : cs.kind = .function) (hdp : dp + 10 < recursionLimit) (hun : un + 100 < cLine)
   (v P : Int) (t1 t2 : Tok) (hP : 0 < P)
   (hret : ∀ (x dx : Addr) (k1 k2 t t' : Tok) (h' : Heap) (tk' : Nat), Fr h₀ L h' m → News h₀ L h' ((x, instObj 229 dx) :: (dx, fqD w P (v.fmod P) k1 k2 t t') :: news) → (∀ q ∈ news, q.1 < dx) → dx < x → Q (.ref x) { s with heap := h', toks := tk' }) :
   wpAny (model PySem.Challenge.rw_lh0028_01.row.prog w) (ktrTop dp un gd cn cs L a ccd cl outer) (call (.ref 229) [.int v t1, .int P t2]) Q E s := by
  revert X; k_fill; intro X
  k_with_none
  k_dflt (refine' call_cls ?k1 ?k2 ?k3 ?k4 ?k5 ?k6 ?_; (case k1 => k_asm); (case k2 => k_asm); (case k3 => k_asm); (case k4 => k_is); (case k5 => k_is); (case k6 => k_is); k_whole; intro x' d' h' F' N' l1 l2; (try k_lt l1); (try k_lt2 l2); (try k_sweep); cell_enter)
  k_steps
  all_goals exact hret _ _ _ _ _ _ _ _ (by assumption) (by assumption) (by assumption) (by assumption)
theorem fq_ok2 {w : World} {dp un : Nat} {gd : Option (List Code)} {cn : Str} {cs : Scope} {a : Addr} {ccd : Value} {cl : List (Str × Addr)} {outer : List Env} {A₀ : Around} {base h₀ : Heap} {L : Addr} {m : Str → Option Value} {s : Shared} {Q E : Value → Shared → Prop}
   {news : List (Addr × Obj)} {p : Program} {loose : List Str} {mean : ExcName → Option Value} {mg mb : Str → Option Value}
   (B : Below A₀ base outer h₀) (F : Fr h₀ L s.heap m) (X : (hd.heap_39 w.params).In h₀) (N : News h₀ L s.heap news) (T : Top p loose mean mg mb h₀) (hk : cs.kind = .function) (hdp : dp + 10 < recursionLimit) (hun : un + 100 < cLine)
   (v P : Int) (t1 t2 : Tok) (h0 : 0 ≤ v) (h1 : v < P)
   (hret : ∀ (x dx : Addr) (k1 k2 t t' : Tok) (h' : Heap) (tk' : Nat), Fr h₀ L h' m → News h₀ L h' ((x, instObj 229 dx) :: (dx, fqD w P v k1 k2 t t') :: news) → (∀ q ∈ news, q.1 < dx) → dx < x → Q (.ref x) { s with heap := h', toks := tk' }) :
   wpAny (model PySem.Challenge.rw_lh0028_01.row.prog w) (ktrTop dp un gd cn cs L a ccd cl outer) (call (.ref 229) [.int v t1, .int P t2]) Q E s := by
  have e : v.fmod P = v := Int.fmod_eq_of_lt h0 h1
  exact fq_ok B F X N T hk hdp hun v P t1 t2 (by omega) (by rw [e]; exact hret)
end Mine
namespace Mine
/-- the loop runs out within the fuel, in bounds, and ends at an inverse -/
def eucl (a n : Int) : Nat → Int → Int → Int → Int → Bool
  | 0, _, _, _, _ => false
  | k + 1, lm, low, hm, high => decide (-200 ≤ lm) && decide (lm ≤ 200) && decide (-200 ≤ hm) && decide (hm ≤ 200) && decide (1 ≤ low) && decide (low ≤ 127) && decide (1 ≤ high) && decide (high ≤ 127) &&
      (if 1 < low then eucl a n k (hm - lm * high.fdiv low) (high - low * high.fdiv low) lm low else (a * lm.fmod n).fmod n == 1)
theorem eucl_all : (primes.all fun n => (List.range n.toNat).all fun a => decide (a = 0) || eucl a n 14 1 a 0 n) = true := by decide +kernel
def Eu (a n lm low hm high : Int) : Prop := ∃ k, eucl a n k lm low hm high = true
theorem eu_start {a n : Int} (hn : n ∈ primes) (h0 : 0 ≤ a) (h1 : a < n) (ha : a ≠ 0) : Eu a n 1 (a.fmod n) 0 n := by
  have h := List.all_eq_true.mp (List.all_eq_true.mp eucl_all n hn) a.toNat (List.mem_range.mpr (by omega))
  have e : ((a.toNat : Nat) : Int) = a := by omega
  have e0 : ¬ a.toNat = 0 := by omega
  rw [e, decide_eq_false e0] at h
  have e2 : a.fmod n = a := Int.fmod_eq_of_lt h0 h1
  rw [e2]
  exact ⟨14, by simpa using h⟩
theorem eu_bounds {a n lm low hm high : Int} (h : Eu a n lm low hm high) : -200 ≤ lm ∧ lm ≤ 200 ∧ -200 ≤ hm ∧ hm ≤ 200 ∧ 1 ≤ low ∧ low ≤ 127 ∧ 1 ≤ high ∧ high ≤ 127 := by
  obtain ⟨k, h⟩ := h
  cases k with
  | zero => cases h
  | succ k =>
    unfold eucl at h
    simp only [Bool.and_eq_true, decide_eq_true_eq] at h
    omega
theorem eu_turn {a n lm low hm high : Int} (h : Eu a n lm low hm high) (hl : 1 < low) : Eu a n (hm - lm * high.fdiv low) (high - low * high.fdiv low) lm low := by
  obtain ⟨k, h⟩ := h
  cases k with
  | zero => cases h
  | succ k =>
    unfold eucl at h
    rw [Bool.and_eq_true, if_pos hl] at h
    exact ⟨k, h.2⟩
theorem eu_end {a n lm low hm high : Int} (h : Eu a n lm low hm high) (hl : ¬ 1 < low) : (a * lm.fmod n).fmod n = 1 := by
  obtain ⟨k, h⟩ := h
  cases k with
  | zero => cases h
  | succ k =>
    unfold eucl at h
    rw [Bool.and_eq_true, if_neg hl] at h
    simpa using h.2
theorem eu_less {low high : Int} (hl : 1 < low) : (high - low * high.fdiv low).toNat < low.toNat := by
  have h1 := Int.fmod_lt_of_pos high (by omega : 0 < low)
  have h2 := Int.mul_fdiv_add_fmod high low
  omega
theorem eu_word {a n lm low hm high : Int} (h : Eu a n lm low hm high) : (-200 ≤ lm ∧ lm ≤ 200 ∧ -200 ≤ hm ∧ hm ≤ 200 ∧ 1 ≤ low ∧ low ≤ 127 ∧ 1 ≤ high ∧ high ≤ 127) ∧ Eu a n lm low hm high := ⟨eu_bounds h, h⟩
local macro_rules | `(tactic| k_room) => `(tactic| ktr_room)
local macro_rules | `(tactic| k_units) => `(tactic| ktr_units)
theorem inv_ok {w : World} {dp un : Nat} {gd : Option (List Code)} {cn : Str} {cs : Scope} {a : Addr} {ccd : Value} {cl : List (Str × Addr)} {outer : List Env} {A₀ : Around} {base h₀ : Heap} {L : Addr} {m : Str → Option Value} {s : Shared} {Q E : Value → Shared → Prop}
   {news : List (Addr × Obj)} {p : Program} {loose : List Str} {mean : ExcName → Option Value} {mg mb : Str → Option Value}
   (B : Below A₀ base outer h₀) (F : Fr h₀ L s.heap m) (X : (hd.heap_39 w.params).In h₀) (N : News h₀ L s.heap news) (T : Top p loose mean mg mb h₀) (hk : cs.kind = .function) (hdp : dp + 10 < recursionLimit) (hun : un + 100 < cLine)
   (z P : Int) (t1 t2 : Tok) (hP : P ∈ primes) (h7 : 7 ≤ P) (h127 : P ≤ 127)
   (hret : ∀ (r : Int) (t : Tok) (h' : Heap) (tk' : Nat), Fr h₀ L h' m → News h₀ L h' news → 0 ≤ r → r < P → (z.fmod P ≠ 0 → (z.fmod P * r).fmod P = 1) → Q (.int r t) { s with heap := h', toks := tk' }) :
   wpAny (model PySem.Challenge.rw_lh0028_01.row.prog w) (ktrTop dp un gd cn cs L a ccd cl outer) (call (.ref 71) [.int z t1, .int P t2]) Q E s := by
  revert X; k_fill; intro X
  k_with_none
  k_with "exec While Compare cons nil" => k_while_given ["a", "n"] (fun a n script lm low hm high => (-200 ≤ lm ∧ lm ≤ 200 ∧ -200 ≤ hm ∧ hm ≤ 200 ∧ 1 ≤ low ∧ low ≤ 127 ∧ 1 ≤ high ∧ high ≤ 127) ∧ Eu a n lm low hm high) (fun a n script lm low hm high => low.toNat) "lm" "low" "hm" "high"
  k_with "state" => first | exact eu_word (eu_start hP (fm_pos (by omega)).1 (fm_pos (by omega)).2 (by assumption)) | exact eu_word (eu_turn (by assumption) (by omega))
  k_with "measure" => exact eu_less (by omega)
  refine wpAny_call ?_
  k_dflt cell_enter
  k_steps
  · exact hret _ _ _ _ (by assumption) (by assumption) (by omega) (by omega) (fun e => absurd (by assumption) e)
  · exact hret _ _ _ _ (by assumption) (cb_drop (by assumption) fun _ hp => .tail _ (.tail _ hp)) (fm_pos (by omega)).1 (fm_pos (by omega)).2 (fun _ => eu_end (by assumption) (by omega))
end Mine
namespace Mine
local macro_rules | `(tactic| k_room) => `(tactic| ktr_room)
local macro_rules | `(tactic| k_units) => `(tactic| ktr_units)
local macro_rules | `(tactic| k_mem) => `(tactic| first | ktr_member | exact List.Mem.head _ | (refine' mem_tl ?_; k_mem))
local macro_rules | `(tactic| walk_at "call builtin:pow") => `(tactic| (k_here; (with_reducible show wpAny _ _ (call (Value.builtin "pow") [Value.int _ _, Value.int _ _, Value.int _ _]) _ _ _); (refine call_pow3 ?_ ?_ ?_); (first | omega | l_fact); (first | omega | l_fact); intro _ _))
/-- what a reader of a written point answers: refused, the point at infinity, or a point -/
inductive Res where
  | refused
  | inf
  | pt (x y : Int)
abbrev tup3 (x y : Int) (t1 t2 t3 : Tok) : Obj := { cls := .type "tuple", data := .seq #[.int x t1, .int y t2, .int 1 t3] }
def ResRet (h₀ : Heap) (L : Addr) (m : Str → Option Value) (news : List (Addr × Obj)) (s : Shared) (Q : Value → Shared → Prop) : Res → Prop
  | .refused => ∀ (t : Tok) (h' : Heap) (tk' : Nat), Fr h₀ L h' m → News h₀ L h' news → Q (.str (Str.ofString "refused") t) { s with heap := h', toks := tk' }
  | .inf => ∀ (h' : Heap) (tk' : Nat), Fr h₀ L h' m → News h₀ L h' news → Q .none { s with heap := h', toks := tk' }
  | .pt x y => ∀ (a : Addr) (t1 t2 t3 : Tok) (h' : Heap) (tk' : Nat), Fr h₀ L h' m → News h₀ L h' ((a, tup3 x y t1 t2 t3) :: news) → Q (.ref a) { s with heap := h', toks := tk' }
/-- a size that the walk need not look at -/
structure Big (x : Int) : Prop where
  lo : 0 ≤ x
  hi : x < 2 ^ 381
theorem Big.bits {x : Int} (h : Big x) : Builtin.Int.intBits x ≤ 381 := PySem.intBits_le_iff.mpr (by
  have h1 := h.lo
  have h2 := h.hi
  have e : ((2 ^ 381 : Nat) : Int) = 2 ^ 381 := by decide +kernel
  generalize (2 : Int) ^ 381 = c at h2 e
  generalize 2 ^ 381 = d at e ⊢
  omega)
theorem mulOk_b1 {x : Int} (h : Big x) : IntMulOk x x := mulOk_of_bits h.bits h.bits (by decide)
theorem mulOk_b2 {x : Int} (h : Big x) : IntMulOk (x * x) x := mulOk_of_bits (bits_mul h.bits h.bits) h.bits (by decide)
local macro_rules | `(tactic| mul_fits) => `(tactic| first | exact mulOk_b1 (by assumption) | exact mulOk_b2 (by assumption))

/-- the root that the law takes -/
def root (P b x : Int) : Int := pwm ((x * x * x + b).fmod P) ((P + 1).fdiv 4) P
/-- the law's own answer, test by test -/
def dueR (P b mk x : Int) : Res :=
  if mk < 4 then .refused
  else if (([6, 7].any fun y => y == mk) != (x == 0)) = true then .refused
  else if mk = 7 then .refused
  else if x = 0 then .inf
  else if P ≤ x then .refused
  else if pwm ((x * x * x + b).fmod P) ((P - 1).fdiv 2) P ≠ 1 then .refused
  else if (decide (P - root P b x < root P b x) != (mk == 5)) = true then .pt x (P - root P b x) else .pt x (root P b x)
section
variable {P b mk x : Int}
theorem nft {c : Bool} (h : c = false) : ¬ c = true := by rw [h]; exact Bool.false_ne_true
theorem due1 (h1 : mk < 4) : dueR P b mk x = .refused := by unfold dueR; rw [if_pos h1]
theorem due2 (h1 : ¬ mk < 4) (h2 : (([6, 7].any fun y => y == mk) != (x == 0)) = true) : dueR P b mk x = .refused := by unfold dueR; rw [if_neg h1, if_pos h2]
theorem due3 (h1 : ¬ mk < 4) (h2 : (([6, 7].any fun y => y == mk) != (x == 0)) = false) (h3 : mk = 7) : dueR P b mk x = .refused := by unfold dueR; rw [if_neg h1, if_neg (nft h2), if_pos h3]
theorem due4 (h1 : ¬ mk < 4) (h2 : (([6, 7].any fun y => y == mk) != (x == 0)) = false) (h3 : mk ≠ 7) (h4 : x = 0) : dueR P b mk x = .inf := by unfold dueR; rw [if_neg h1, if_neg (nft h2), if_neg h3, if_pos h4]
theorem due5 (h1 : ¬ mk < 4) (h2 : (([6, 7].any fun y => y == mk) != (x == 0)) = false) (h3 : mk ≠ 7) (h4 : x ≠ 0) (h5 : P ≤ x) : dueR P b mk x = .refused := by unfold dueR; rw [if_neg h1, if_neg (nft h2), if_neg h3, if_neg h4, if_pos h5]
theorem due6 (h1 : ¬ mk < 4) (h2 : (([6, 7].any fun y => y == mk) != (x == 0)) = false) (h3 : mk ≠ 7) (h4 : x ≠ 0) (h5 : ¬ P ≤ x) (h6 : pwm ((x * x * x + b).fmod P) ((P - 1).fdiv 2) P ≠ 1) : dueR P b mk x = .refused := by unfold dueR; rw [if_neg h1, if_neg (nft h2), if_neg h3, if_neg h4, if_neg h5, if_pos h6]
theorem due7 (h1 : ¬ mk < 4) (h2 : (([6, 7].any fun y => y == mk) != (x == 0)) = false) (h3 : mk ≠ 7) (h4 : x ≠ 0) (h5 : ¬ P ≤ x) (h6 : pwm ((x * x * x + b).fmod P) ((P - 1).fdiv 2) P = 1) (h7 : (decide (P - root P b x < root P b x) != (mk == 5)) = true) : dueR P b mk x = .pt x (P - root P b x) := by
  unfold dueR; rw [if_neg h1, if_neg (nft h2), if_neg h3, if_neg h4, if_neg h5, if_neg (fun e => e h6), if_pos h7]
theorem due8 (h1 : ¬ mk < 4) (h2 : (([6, 7].any fun y => y == mk) != (x == 0)) = false) (h3 : mk ≠ 7) (h4 : x ≠ 0) (h5 : ¬ P ≤ x) (h6 : pwm ((x * x * x + b).fmod P) ((P - 1).fdiv 2) P = 1) (h7 : (decide (P - root P b x < root P b x) != (mk == 5)) = false) : dueR P b mk x = .pt x (root P b x) := by
  unfold dueR; rw [if_neg h1, if_neg (nft h2), if_neg h3, if_neg h4, if_neg h5, if_neg (fun e => e h6), if_neg (nft h7)]
end
theorem resRet_of {h₀ : Heap} {L : Addr} {m : Str → Option Value} {news : List (Addr × Obj)} {s : Shared} {Q : Value → Shared → Prop} {r r' : Res} (h : ResRet h₀ L m news s Q r) (e : r = r') : ResRet h₀ L m news s Q r' := e ▸ h
/-- garbage of a call goes from the ledger -/
theorem drop0 {h₀ h : Heap} {L : Addr} {g : Addr × Obj} {news : List (Addr × Obj)} (N : News h₀ L h (g :: news)) : News h₀ L h news := cb_drop N fun _ hp => .tail _ hp
theorem drop1 {h₀ h : Heap} {L : Addr} {a g : Addr × Obj} {news : List (Addr × Obj)} (N : News h₀ L h (a :: g :: news)) : News h₀ L h (a :: news) := cb_drop N fun _ hp => by
  cases hp with
  | head => exact .head _
  | tail _ h => exact .tail _ (.tail _ h)

theorem due_ok {w : World} {dp un : Nat} {gd : Option (List Code)} {cn : Str} {cs : Scope} {a : Addr} {ccd : Value} {cl : List (Str × Addr)} {outer : List Env} {A₀ : Around} {base h₀ : Heap} {L : Addr} {m : Str → Option Value} {s : Shared} {Q E : Value → Shared → Prop}
   {news : List (Addr × Obj)} {p : Program} {loose : List Str} {mean : ExcName → Option Value} {mg mb : Str → Option Value}
   (B : Below A₀ base outer h₀) (F : Fr h₀ L s.heap m) (X : (hd.heap_39 w.params).In h₀) (N : News h₀ L s.heap news) (T : Top p loose mean mg mb h₀) (hk : cs.kind = .function) (hdp : dp + 10 < recursionLimit) (hun : un + 100 < cLine)
   (P b mk x : Int) (t1 t2 t3 t4 : Tok) (h7 : 7 ≤ P) (h127 : P ≤ 127) (b0 : 0 ≤ b) (b1 : b < P) (m0 : 0 ≤ mk) (m1 : mk ≤ 7) (x0 : 0 ≤ x) (xb : Big x) 
   (hret : ResRet h₀ L m news s Q (dueR P b mk x)) :
   wpAny (model PySem.Challenge.rw_lh0028_01.row.prog w) (ktrTop dp un gd cn cs L a ccd cl outer) (call (.ref 289) [.int P t1, .int b t2, .int mk t3, .int x t4]) Q E s := by
  revert X; k_fill; intro X
  k_with_none
  refine wpAny_call ?_
  k_dflt cell_enter
  k_steps
  · exact resRet_of hret (due1 (by assumption)) _ _ _ (by assumption) (by assumption)
  · exact resRet_of hret (due2 (by assumption) (by assumption)) _ _ _ (by assumption) (drop0 (by assumption))
  · exact resRet_of hret (due3 (by assumption) (by assumption) (by assumption)) _ _ _ (by assumption) (drop0 (by assumption))
  · exact resRet_of hret (due4 (by assumption) (by assumption) (by assumption) (by assumption)) _ _ (by assumption) (drop0 (by assumption))
  · exact resRet_of hret (due5 (by assumption) (by assumption) (by assumption) (by assumption) (by assumption)) _ _ _ (by assumption) (drop0 (by assumption))
  · exact resRet_of hret (due6 (by assumption) (by assumption) (by assumption) (by assumption) (by assumption) (by assumption)) _ _ _ (by assumption) (drop0 (by assumption))
  · exact resRet_of hret (due7 (by assumption) (by assumption) (by assumption) (by assumption) (by assumption) (by assumption) (by assumption)) _ _ _ _ _ _ (by assumption) (drop1 (by assumption))
  · exact resRet_of hret (due8 (by assumption) (by assumption) (by assumption) (by assumption) (by assumption) (by assumption) (by assumption)) _ _ _ _ _ _ (by assumption) (drop1 (by assumption))
end Mine
namespace Mine
/-- a number is a square by Euler's test just where the root that is taken is one; the root is no border -/
theorem root_all : (primes.all fun p => (List.range p.toNat).all fun c => decide (c = 0) || ((pwm (pwm c ((p + 1).fdiv 4) p) 2 p == (c : Int)) == (pwm c ((p - 1).fdiv 2) p == 1) && decide (0 < pwm c ((p + 1).fdiv 4) p))) = true := by decide +kernel
/-- where a point has y = 0, its curve is passed over -/
theorem zero_all : (primes.all fun p => (List.range p.toNat).all fun x => bad p ((-((x : Int) * x * x)).fmod p)) = true := by decide +kernel
theorem root_of {p c : Int} (hp : p ∈ primes) (h0 : 0 < c) (h1 : c < p) : (pwm (pwm c ((p + 1).fdiv 4) p) 2 p = c ↔ pwm c ((p - 1).fdiv 2) p = 1) ∧ 0 < pwm c ((p + 1).fdiv 4) p := by
  have h := List.all_eq_true.mp (List.all_eq_true.mp root_all p hp) c.toNat (List.mem_range.mpr (by omega))
  have e : ((c.toNat : Nat) : Int) = c := by omega
  have e0 : ¬ c.toNat = 0 := by omega
  rw [e, decide_eq_false e0, Bool.false_or, Bool.and_eq_true, decide_eq_true_eq] at h
  refine ⟨?_, h.2⟩
  have h2 := h.1
  rw [beq_iff_eq, Bool.eq_iff_iff, beq_iff_eq, beq_iff_eq] at h2
  exact h2
theorem cube_ne {p b x : Int} (hp : p ∈ primes) (h7 : 7 ≤ p) (hb : bad p b = false) (b0 : 0 ≤ b) (b1 : b < p) (x0 : 0 ≤ x) (x1 : x < p) : (x * x * x + b).fmod p ≠ 0 := by
  intro h
  have hz := List.all_eq_true.mp (List.all_eq_true.mp zero_all p hp) x.toNat (List.mem_range.mpr (by omega))
  have e : ((x.toNat : Nat) : Int) = x := by omega
  rw [e] at hz
  have eb : (-(x * x * x)).fmod p = b := by
    have h1 := Int.mul_fdiv_add_fmod (x * x * x + b) p
    rw [h] at h1
    have h3 : -(x * x * x) = b + p * (-((x * x * x + b).fdiv p)) := by rw [Int.mul_neg]; omega
    rw [h3, Int.add_mul_fmod_self_left]
    exact Int.fmod_eq_of_lt b0 b1
  rw [eb, hb] at hz
  cases hz
theorem pow3 (x : Int) : x ^ Int.toNat 3 = x * x * x := by
  show x ^ 3 = x * x * x
  rw [Int.pow_succ, Int.pow_succ, Int.pow_succ, Int.pow_zero, Int.one_mul]
section
variable {P b x mk z : Int}
/-- how a number is written: a flag field over 381 digits -/
structure Wr (x mk z : Int) : Prop where
  x0 : 0 ≤ x
  x1 : x < 2 ^ 381
  m0 : 0 ≤ mk
  m1 : mk ≤ 7
  e : z = x + mk * 2 ^ 381
theorem wr_fmod (h : Wr x mk z) : z.fmod 4925250774549309901534880012517951725634967408808180833493536675530715221437151326426783281860614455100828498788352 = x := by
  obtain ⟨x0, x1, m0, m1, e⟩ := h
  rw [e]
  have e2 : (2 : Int) ^ 381 = 4925250774549309901534880012517951725634967408808180833493536675530715221437151326426783281860614455100828498788352 := by decide +kernel
  rw [e2] at x1 ⊢
  rw [Int.add_mul_fmod_self_right]
  exact Int.fmod_eq_of_lt x0 x1
theorem fdiv_of {a c q r : Int} (h : a = q * c + r) (h0 : 0 ≤ r) (h1 : r < c) : a.fdiv c = q := by
  have hc : 0 < c := by omega
  have h2 := Int.mul_fdiv_add_fmod a c
  have h3 := Int.fmod_nonneg_of_pos a hc
  have h4 := Int.fmod_lt_of_pos a hc
  have h5 : c * (a.fdiv c - q) = r - a.fmod c := by rw [Int.mul_sub, Int.mul_comm c q]; omega
  rcases Int.lt_trichotomy (a.fdiv c - q) 0 with g | g | g
  · have : c * (a.fdiv c - q) ≤ c * (-1) := Int.mul_le_mul_of_nonneg_left (by omega) (by omega)
    omega
  · omega
  · have : c * 1 ≤ c * (a.fdiv c - q) := Int.mul_le_mul_of_nonneg_left (by omega) (by omega)
    omega
theorem wr_381 (h : Wr x mk z) : z.fdiv (2 ^ Int.toNat 381) = mk := by
  refine fdiv_of (r := x) ?_ h.x0 h.x1
  rw [h.e]
  exact Int.add_comm _ _
theorem wr_382 (h : Wr x mk z) : z.fdiv (2 ^ Int.toNat 382) = mk / 2 := by
  have e2 : (2 : Int) ^ Int.toNat 382 = 2 * 2 ^ 381 := by decide +kernel
  have h0 := h.x0
  have h1 := h.x1
  have hm := h.m0
  have hn := h.m1
  have e := h.e
  rw [e2]
  generalize (2 : Int) ^ 381 = c at *
  refine fdiv_of (r := x + (mk % 2) * c) ?_ ?_ ?_
  all_goals (rcases (by omega : mk = 0 ∨ mk = 1 ∨ mk = 2 ∨ mk = 3 ∨ mk = 4 ∨ mk = 5 ∨ mk = 6 ∨ mk = 7) with r | r | r | r | r | r | r | r <;> subst r <;> (try simp only [Int.reduceDiv, Int.reduceMod, Int.reduceNeg]) <;> omega)
theorem wr_383 (h : Wr x mk z) : z.fdiv (2 ^ Int.toNat 383) = mk / 4 := by
  have e2 : (2 : Int) ^ Int.toNat 383 = 4 * 2 ^ 381 := by decide +kernel
  have h0 := h.x0
  have h1 := h.x1
  have hm := h.m0
  have hn := h.m1
  have e := h.e
  rw [e2]
  generalize (2 : Int) ^ 381 = c at *
  refine fdiv_of (r := x + (mk % 4) * c) ?_ ?_ ?_
  all_goals (rcases (by omega : mk = 0 ∨ mk = 1 ∨ mk = 2 ∨ mk = 3 ∨ mk = 4 ∨ mk = 5 ∨ mk = 6 ∨ mk = 7) with r | r | r | r | r | r | r | r <;> subst r <;> (try simp only [Int.reduceDiv, Int.reduceMod, Int.reduceNeg]) <;> omega)
theorem wr_cases (h : Wr x mk z) : mk = 0 ∨ mk = 1 ∨ mk = 2 ∨ mk = 3 ∨ mk = 4 ∨ mk = 5 ∨ mk = 6 ∨ mk = 7 := by
  have := h.m0
  have := h.m1
  omega
theorem flC (h : Wr x mk z) : Builtin.bitAnd (z.fdiv (2 ^ Int.toNat 383)) 1 = mk / 4 := by
  rw [wr_383 h]
  rcases wr_cases h with r | r | r | r | r | r | r | r <;> subst r <;> decide
theorem flB (h : Wr x mk z) : Builtin.bitAnd (z.fdiv (2 ^ Int.toNat 382)) 1 = mk / 2 % 2 := by
  rw [wr_382 h]
  rcases wr_cases h with r | r | r | r | r | r | r | r <;> subst r <;> decide
theorem flA (h : Wr x mk z) : Builtin.bitAnd (z.fdiv (2 ^ Int.toNat 381)) 1 = mk % 2 := by
  rw [wr_381 h]
  rcases wr_cases h with r | r | r | r | r | r | r | r <;> subst r <;> decide
/-- the law's field and curve -/
structure Cv (P b : Int) : Prop where
  pr : P ∈ primes
  lo : 7 ≤ P
  hi : P ≤ 127
  bd : bad P b = false
  b0 : 0 ≤ b
  b1 : b < P
theorem told1 (h : Wr x mk z) (c : Builtin.bitAnd (z.fdiv (2 ^ Int.toNat 383)) 1 = 0) : dueR P b mk x = .refused := by
  rw [flC h] at c
  have := h.m0
  exact due1 (by omega)
theorem told2 (h : Wr x mk z) (c : Builtin.bitAnd (z.fdiv (2 ^ Int.toNat 383)) 1 ≠ 0) (e : z.fmod 4925250774549309901534880012517951725634967408808180833493536675530715221437151326426783281860614455100828498788352 = 0) (B : ((Builtin.bitAnd (z.fdiv (2 ^ Int.toNat 382)) 1 != 0) != true) = true) : dueR P b mk x = .refused := by
  rw [wr_fmod h] at e
  rw [flC h] at c
  rw [flB h] at B
  rcases wr_cases h with r | r | r | r | r | r | r | r <;> subst r <;> first | (exfalso; revert c; decide) | (exfalso; revert B; decide) | exact due2 (by decide) (by rw [e]; decide)
theorem told3 (h : Wr x mk z) (c : Builtin.bitAnd (z.fdiv (2 ^ Int.toNat 383)) 1 ≠ 0) (e : z.fmod 4925250774549309901534880012517951725634967408808180833493536675530715221437151326426783281860614455100828498788352 = 0) (B : ((Builtin.bitAnd (z.fdiv (2 ^ Int.toNat 382)) 1 != 0) != true) = false) (A : Builtin.bitAnd (z.fdiv (2 ^ Int.toNat 381)) 1 ≠ 0) : dueR P b mk x = .refused := by
  rw [wr_fmod h] at e
  rw [flC h] at c
  rw [flB h] at B
  rw [flA h] at A
  rcases wr_cases h with r | r | r | r | r | r | r | r <;> subst r <;> first | (exfalso; revert c; decide) | (exfalso; revert B; decide) | (exfalso; revert A; decide) | exact due3 (by decide) (by rw [e]; decide) rfl
theorem told4 (h : Wr x mk z) (c : Builtin.bitAnd (z.fdiv (2 ^ Int.toNat 383)) 1 ≠ 0) (e : z.fmod 4925250774549309901534880012517951725634967408808180833493536675530715221437151326426783281860614455100828498788352 = 0) (B : ((Builtin.bitAnd (z.fdiv (2 ^ Int.toNat 382)) 1 != 0) != true) = false) (A : Builtin.bitAnd (z.fdiv (2 ^ Int.toNat 381)) 1 = 0) : dueR P b mk x = .inf := by
  rw [wr_fmod h] at e
  rw [flC h] at c
  rw [flB h] at B
  rw [flA h] at A
  rcases wr_cases h with r | r | r | r | r | r | r | r <;> subst r <;> first | (exfalso; revert c; decide) | (exfalso; revert B; decide) | (exfalso; revert A; decide) | exact due4 (by decide) (by rw [e]; decide) (by decide) e
theorem told5 (h : Wr x mk z) (c : Builtin.bitAnd (z.fdiv (2 ^ Int.toNat 383)) 1 ≠ 0) (e : z.fmod 4925250774549309901534880012517951725634967408808180833493536675530715221437151326426783281860614455100828498788352 ≠ 0) (B : ((Builtin.bitAnd (z.fdiv (2 ^ Int.toNat 382)) 1 != 0) != (z.fmod 4925250774549309901534880012517951725634967408808180833493536675530715221437151326426783281860614455100828498788352 == 0)) = true) : dueR P b mk x = .refused := by
  rw [wr_fmod h] at e B
  rw [flC h] at c
  rw [flB h] at B
  have hx : (x == 0) = false := by simpa using e
  rw [hx] at B
  rcases wr_cases h with r | r | r | r | r | r | r | r <;> subst r <;> first | (exfalso; revert c; decide) | (exfalso; revert B; decide) | exact due2 (by decide) (by rw [hx]; decide)
/-- behind the first tests the marks are 4 or 5 -/
theorem wr_mid (h : Wr x mk z) (c : Builtin.bitAnd (z.fdiv (2 ^ Int.toNat 383)) 1 ≠ 0) (e : z.fmod 4925250774549309901534880012517951725634967408808180833493536675530715221437151326426783281860614455100828498788352 ≠ 0) (B : ((Builtin.bitAnd (z.fdiv (2 ^ Int.toNat 382)) 1 != 0) != (z.fmod 4925250774549309901534880012517951725634967408808180833493536675530715221437151326426783281860614455100828498788352 == 0)) = false) : (mk = 4 ∨ mk = 5) ∧ x ≠ 0 ∧ (([6, 7].any fun y => y == mk) != (x == 0)) = false := by
  rw [wr_fmod h] at e B
  rw [flC h] at c
  rw [flB h] at B
  have hx : (x == 0) = false := by simpa using e
  rw [hx] at B
  refine ⟨?_, e, ?_⟩
  · rcases wr_cases h with r | r | r | r | r | r | r | r <;> subst r <;> first | (exfalso; revert c; decide) | (exfalso; revert B; decide) | decide
  · rw [hx]
    rcases wr_cases h with r | r | r | r | r | r | r | r <;> subst r <;> first | (exfalso; revert c; decide) | (exfalso; revert B; decide) | decide
theorem told6 (h : Wr x mk z) (c : Builtin.bitAnd (z.fdiv (2 ^ Int.toNat 383)) 1 ≠ 0) (e : z.fmod 4925250774549309901534880012517951725634967408808180833493536675530715221437151326426783281860614455100828498788352 ≠ 0) (B : ((Builtin.bitAnd (z.fdiv (2 ^ Int.toNat 382)) 1 != 0) != (z.fmod 4925250774549309901534880012517951725634967408808180833493536675530715221437151326426783281860614455100828498788352 == 0)) = false) (g : P ≤ z.fmod 4925250774549309901534880012517951725634967408808180833493536675530715221437151326426783281860614455100828498788352) : dueR P b mk x = .refused := by
  obtain ⟨m, hx, a⟩ := wr_mid h c e B
  rw [wr_fmod h] at g
  exact due5 (by omega) a (by omega) hx g
theorem cube_pos (v : Cv P b) (h : Wr x mk z) (g : ¬ P ≤ x) : 0 < (x * x * x + b).fmod P ∧ (x * x * x + b).fmod P < P := by
  have h1 := cube_ne v.pr v.lo v.bd v.b0 v.b1 h.x0 (by omega)
  have h2 := fm_pos (a := x * x * x + b) (p := P) (by have := v.lo; omega)
  omega
theorem told7 (v : Cv P b) (h : Wr x mk z) (c : Builtin.bitAnd (z.fdiv (2 ^ Int.toNat 383)) 1 ≠ 0) (e : z.fmod 4925250774549309901534880012517951725634967408808180833493536675530715221437151326426783281860614455100828498788352 ≠ 0) (B : ((Builtin.bitAnd (z.fdiv (2 ^ Int.toNat 382)) 1 != 0) != (z.fmod 4925250774549309901534880012517951725634967408808180833493536675530715221437151326426783281860614455100828498788352 == 0)) = false) (g : ¬ P ≤ z.fmod 4925250774549309901534880012517951725634967408808180833493536675530715221437151326426783281860614455100828498788352)
    (r : pwm (pwm ((z.fmod 4925250774549309901534880012517951725634967408808180833493536675530715221437151326426783281860614455100828498788352 ^ Int.toNat 3 + b).fmod P) ((P + 1).fdiv 4) P) 2 P ≠ (z.fmod 4925250774549309901534880012517951725634967408808180833493536675530715221437151326426783281860614455100828498788352 ^ Int.toNat 3 + b).fmod P) : dueR P b mk x = .refused := by
  obtain ⟨m, hx, a⟩ := wr_mid h c e B
  rw [wr_fmod h] at g
  rw [wr_fmod h, pow3] at r
  obtain ⟨c0, c1⟩ := cube_pos v h g
  exact due6 (by omega) a (by omega) hx g (fun q => r ((root_of v.pr c0 c1).1.mpr q))
/-- the greater root is told by its double -/
theorem twice {y P : Int} (h0 : 0 < y) (h1 : y < P) (ho : P % 2 = 1) : (y * 2).fdiv P = if P - y < y then 1 else 0 := by
  split
  · exact fdiv_of (r := y * 2 - P) (by omega) (by omega) (by omega)
  · exact fdiv_of (r := y * 2) (by omega) (by omega) (by omega)
theorem odd_all : (primes.all fun p => p % 2 == 1) = true := by decide
theorem odd_of (h : P ∈ primes) : P % 2 = 1 := by simpa using List.all_eq_true.mp odd_all P h
theorem root_z (h : Wr x mk z) : pwm ((z.fmod 4925250774549309901534880012517951725634967408808180833493536675530715221437151326426783281860614455100828498788352 ^ Int.toNat 3 + b).fmod P) ((P + 1).fdiv 4) P = root P b x := by rw [wr_fmod h, pow3]; rfl
theorem root_rng (v : Cv P b) (h : Wr x mk z) (g : ¬ P ≤ x) : 0 < root P b x ∧ root P b x < P := by
  obtain ⟨c0, c1⟩ := cube_pos v h g
  exact ⟨(root_of v.pr c0 c1).2, (pwm_range (by have := v.lo; omega)).2⟩
theorem flag_is (v : Cv P b) (h : Wr x mk z) (g : ¬ P ≤ x) (m : mk = 4 ∨ mk = 5) : ((pwm ((z.fmod 4925250774549309901534880012517951725634967408808180833493536675530715221437151326426783281860614455100828498788352 ^ Int.toNat 3 + b).fmod P) ((P + 1).fdiv 4) P * 2).fdiv P = if (Builtin.bitAnd (z.fdiv (2 ^ Int.toNat 381)) 1 != 0) = true then 1 else 0) ↔ (decide (P - root P b x < root P b x) != (mk == 5)) = false := by
  obtain ⟨r0, r1⟩ := root_rng v h g
  rw [root_z h, flA h, twice r0 r1 (odd_of v.pr)]
  rcases m with r | r <;> subst r <;> by_cases q : P - root P b x < root P b x <;> simp [q]
theorem told8 (v : Cv P b) (h : Wr x mk z) (c : Builtin.bitAnd (z.fdiv (2 ^ Int.toNat 383)) 1 ≠ 0) (e : z.fmod 4925250774549309901534880012517951725634967408808180833493536675530715221437151326426783281860614455100828498788352 ≠ 0) (B : ((Builtin.bitAnd (z.fdiv (2 ^ Int.toNat 382)) 1 != 0) != (z.fmod 4925250774549309901534880012517951725634967408808180833493536675530715221437151326426783281860614455100828498788352 == 0)) = false) (g : ¬ P ≤ z.fmod 4925250774549309901534880012517951725634967408808180833493536675530715221437151326426783281860614455100828498788352)
    (r : pwm (pwm ((z.fmod 4925250774549309901534880012517951725634967408808180833493536675530715221437151326426783281860614455100828498788352 ^ Int.toNat 3 + b).fmod P) ((P + 1).fdiv 4) P) 2 P = (z.fmod 4925250774549309901534880012517951725634967408808180833493536675530715221437151326426783281860614455100828498788352 ^ Int.toNat 3 + b).fmod P)
    (f : (pwm ((z.fmod 4925250774549309901534880012517951725634967408808180833493536675530715221437151326426783281860614455100828498788352 ^ Int.toNat 3 + b).fmod P) ((P + 1).fdiv 4) P * 2).fdiv P ≠ if (Builtin.bitAnd (z.fdiv (2 ^ Int.toNat 381)) 1 != 0) = true then 1 else 0) :
    dueR P b mk x = .pt ((z.fmod 4925250774549309901534880012517951725634967408808180833493536675530715221437151326426783281860614455100828498788352).fmod P) ((P - pwm ((z.fmod 4925250774549309901534880012517951725634967408808180833493536675530715221437151326426783281860614455100828498788352 ^ Int.toNat 3 + b).fmod P) ((P + 1).fdiv 4) P).fmod P) := by
  obtain ⟨m, hx, a⟩ := wr_mid h c e B
  have g' := g
  rw [wr_fmod h] at g
  have hf := fun q => f ((flag_is v h g m).mpr q)
  rw [wr_fmod h, pow3] at r
  obtain ⟨c0, c1⟩ := cube_pos v h g
  obtain ⟨r0, r1⟩ := root_rng v h g
  rw [root_z h, wr_fmod h, Int.fmod_eq_of_lt h.x0 (by omega), Int.fmod_eq_of_lt (by omega : 0 ≤ P - root P b x) (by omega)]
  exact due7 (by omega) a (by omega) hx g ((root_of v.pr c0 c1).1.mp r) (by simpa using hf)
theorem told9 (v : Cv P b) (h : Wr x mk z) (c : Builtin.bitAnd (z.fdiv (2 ^ Int.toNat 383)) 1 ≠ 0) (e : z.fmod 4925250774549309901534880012517951725634967408808180833493536675530715221437151326426783281860614455100828498788352 ≠ 0) (B : ((Builtin.bitAnd (z.fdiv (2 ^ Int.toNat 382)) 1 != 0) != (z.fmod 4925250774549309901534880012517951725634967408808180833493536675530715221437151326426783281860614455100828498788352 == 0)) = false) (g : ¬ P ≤ z.fmod 4925250774549309901534880012517951725634967408808180833493536675530715221437151326426783281860614455100828498788352)
    (r : pwm (pwm ((z.fmod 4925250774549309901534880012517951725634967408808180833493536675530715221437151326426783281860614455100828498788352 ^ Int.toNat 3 + b).fmod P) ((P + 1).fdiv 4) P) 2 P = (z.fmod 4925250774549309901534880012517951725634967408808180833493536675530715221437151326426783281860614455100828498788352 ^ Int.toNat 3 + b).fmod P)
    (f : (pwm ((z.fmod 4925250774549309901534880012517951725634967408808180833493536675530715221437151326426783281860614455100828498788352 ^ Int.toNat 3 + b).fmod P) ((P + 1).fdiv 4) P * 2).fdiv P = if (Builtin.bitAnd (z.fdiv (2 ^ Int.toNat 381)) 1 != 0) = true then 1 else 0) :
    dueR P b mk x = .pt ((z.fmod 4925250774549309901534880012517951725634967408808180833493536675530715221437151326426783281860614455100828498788352).fmod P) ((pwm ((z.fmod 4925250774549309901534880012517951725634967408808180833493536675530715221437151326426783281860614455100828498788352 ^ Int.toNat 3 + b).fmod P) ((P + 1).fdiv 4) P).fmod P) := by
  obtain ⟨m, hx, a⟩ := wr_mid h c e B
  rw [wr_fmod h] at g
  have hf := (flag_is v h g m).mp f
  rw [wr_fmod h, pow3] at r
  obtain ⟨c0, c1⟩ := cube_pos v h g
  obtain ⟨r0, r1⟩ := root_rng v h g
  rw [root_z h, wr_fmod h, Int.fmod_eq_of_lt h.x0 (by omega), Int.fmod_eq_of_lt (by omega : 0 ≤ root P b x) (by omega)]
  exact due8 (by omega) a (by omega) hx g ((root_of v.pr c0 c1).1.mp r) hf
end
end Mine
namespace Mine
local macro_rules | `(tactic| k_room) => `(tactic| ktr_room)
local macro_rules | `(tactic| k_units) => `(tactic| ktr_units)
local macro_rules | `(tactic| k_mem) => `(tactic| first | ktr_member | exact List.Mem.head _ | (refine' mem_tl ?_; k_mem))
theorem at_ok {w : World} {dp un : Nat} {gd : Option (List Code)} {cn : Str} {cs : Scope} {a : Addr} {ccd : Value} {cl : List (Str × Addr)} {outer : List Env} {A₀ : Around} {base h₀ : Heap} {L : Addr} {m : Str → Option Value} {s : Shared} {Q E : Value → Shared → Prop}
   {news : List (Addr × Obj)} {p : Program} {loose : List Str} {mean : ExcName → Option Value} {mg mb : Str → Option Value}
   (B : Below A₀ base outer h₀) (F : Fr h₀ L s.heap m) (X : (hd.heap_39 w.params).In h₀) (N : News h₀ L s.heap news) (T : Top p loose mean mg mb h₀) (hk : cs.kind = .function) (hdp : dp + 10 < recursionLimit) (hun : un + 100 < cLine)
   (l : Addr) (vs : List Value) (ns : List Int) (k : Int) (tk : Tok) (hl : base.IsList l vs.toArray) (hi : IntsAre vs ns) (hn : ns.length ≤ 63) (k0 : 0 ≤ k) (k1 : k < 7)
   (hret : ∀ (v : Int) (t : Tok) (h' : Heap) (tk' : Nat), Fr h₀ L h' m → News h₀ L h' news → -1000000000 < v → v < 1000000000 → Q (.int v t) { s with heap := h', toks := tk' }) :
   wpAny (model PySem.Challenge.rw_lh0028_01.row.prog w) (ktrTop dp un gd cn cs L a ccd cl outer) (call (.ref 254) [.ref l, .int k tk]) Q E s := by
  revert X; k_fill; intro X
  k_with_none
  refine wpAny_call ?_
  k_dflt cell_enter
  k_steps
  all_goals (have hb := fm_pos (a := ns.getD k.toNat 0) (p := 1000003) (by omega); exact hret _ _ _ _ (by assumption) (by assumption) (by omega) (by omega))
end Mine
namespace Mine
local macro_rules | `(tactic| k_room) => `(tactic| ktr_room)
local macro_rules | `(tactic| k_units) => `(tactic| ktr_units)
local macro_rules | `(tactic| k_mem) => `(tactic| first | ktr_member | exact List.Mem.head _ | (refine' mem_tl ?_; k_mem))
local macro_rules | `(tactic| walk_at "call builtin:pow") => `(tactic| (k_here; (with_reducible show wpAny _ _ (call (Value.builtin "pow") [Value.int _ _, Value.int _ _, Value.int _ _]) _ _ _); (refine call_pow3 ?_ ?_ ?_); (first | omega | l_fact); (first | omega | l_fact); intro _ _))
local macro_rules | `(tactic| mul_fits) => `(tactic| exact mulOk_pwm (by omega) (by omega))
abbrev tup2 (x y : Int) (t1 t2 : Tok) : Obj := { cls := .type "tuple", data := .seq #[.int x t1, .int y t2] }
structure PtOk (P b x y : Int) : Prop where
  x0 : 0 ≤ x
  x1 : x < P
  sq : (root P b x * root P b x).fmod P = (x * x * x + b).fmod P
  y : y = root P b x ∨ y = P - root P b x
theorem dropA {h₀ h : Heap} {L : Addr} {a : Addr × Obj} {news own : List (Addr × Obj)} (N : News h₀ L h (a :: (news ++ own))) : News h₀ L h (a :: news) := cb_drop N fun _ hp => by
  cases hp with
  | head => exact .head _
  | tail _ h => exact .tail _ (List.mem_append_left _ h)
theorem dropB {h₀ h : Heap} {L : Addr} {news own : List (Addr × Obj)} (N : News h₀ L h (news ++ own)) : News h₀ L h news := cb_drop N fun _ hp => List.mem_append_left _ hp
theorem point_ok {w : World} {dp un : Nat} {gd : Option (List Code)} {cn : Str} {cs : Scope} {a : Addr} {ccd : Value} {cl : List (Str × Addr)} {outer : List Env} {A₀ : Around} {base h₀ : Heap} {L : Addr} {m : Str → Option Value} {s : Shared} {Q E : Value → Shared → Prop}
   {news : List (Addr × Obj)} {p : Program} {loose : List Str} {mean : ExcName → Option Value} {mg mb : Str → Option Value}
   (B : Below A₀ base outer h₀) (F : Fr h₀ L s.heap m) (X : (hd.heap_39 w.params).In h₀) (N : News h₀ L s.heap news) (T : Top p loose mean mg mb h₀) (hk : cs.kind = .function) (hdp : dp + 10 < recursionLimit) (hun : un + 100 < cLine)
   (P b n : Int) (t1 t2 t3 : Tok) (h7 : 7 ≤ P) (h127 : P ≤ 127) (b0 : 0 ≤ b) (b1 : b < P)
   (hret0 : ∀ (h' : Heap) (tk' : Nat), Fr h₀ L h' m → News h₀ L h' news → Q .none { s with heap := h', toks := tk' })
   (hret : ∀ (x y : Int) (a : Addr) (t1 t2 : Tok) (h' : Heap) (tk' : Nat), PtOk P b x y → Fr h₀ L h' m → News h₀ L h' ((a, tup2 x y t1 t2) :: news) → Q (.ref a) { s with heap := h', toks := tk' }) :
   wpAny (model PySem.Challenge.rw_lh0028_01.row.prog w) (ktrTop dp un gd cn cs L a ccd cl outer) (call (.ref 268) [.int P t1, .int b t2, .int n t3]) Q E s := by
  revert X; k_fill; intro X
  k_with_none
  k_with "pyIter ref" => k_search (fun pre => True)
  refine wpAny_call ?_
  k_dflt cell_enter
  k_steps
  · exact hret0 _ _ (by assumption) (by assumption)
  · exact hret _ _ _ _ _ _ _ ⟨(fm_pos (by omega)).1, (fm_pos (by omega)).2, by assumption, .inl rfl⟩ (by assumption) (dropA (by assumption))
  · exact hret _ _ _ _ _ _ _ ⟨(fm_pos (by omega)).1, (fm_pos (by omega)).2, by assumption, .inr rfl⟩ (by assumption) (dropA (by assumption))
  · exact hret0 _ _ (by assumption) (by first | assumption | exact dropB (by assumption))
end Mine
namespace Mine
theorem sq_all : (primes.all fun p => (List.range p.toNat).all fun a => pwm (a : Int) 2 p == ((a : Int) * a).fmod p) = true := by decide +kernel
theorem sq_of {p a : Int} (hp : p ∈ primes) (h0 : 0 ≤ a) (h1 : a < p) : pwm a 2 p = (a * a).fmod p := by
  have h := List.all_eq_true.mp (List.all_eq_true.mp sq_all p hp) a.toNat (List.mem_range.mpr (by omega))
  have e : ((a.toNat : Nat) : Int) = a := by omega
  rw [e] at h
  exact beq_iff_eq.mp h
section
variable {P b x y mk z v r r' s X Y : Int}
theorem cube_pos' (c : Cv P b) (x0 : 0 ≤ x) (x1 : x < P) : 0 < (x * x * x + b).fmod P ∧ (x * x * x + b).fmod P < P := by
  have h1 := cube_ne c.pr c.lo c.bd c.b0 c.b1 x0 x1
  have h2 := fm_pos (a := x * x * x + b) (p := P) (by have := c.lo; omega)
  omega
theorem root_rng' (c : Cv P b) (x0 : 0 ≤ x) (x1 : x < P) : 0 < root P b x ∧ root P b x < P := by
  obtain ⟨c0, c1⟩ := cube_pos' c x0 x1
  exact ⟨(root_of c.pr c0 c1).2, (pwm_range (by have := c.lo; omega)).2⟩
theorem unscale (hP : 0 < P) (hi : (s.fmod P * r).fmod P = 1) : ((x * s).fmod P * r).fmod P = x.fmod P := by
  have hp : 0 ≤ P := by omega
  simp only [Int.fmod_eq_emod_of_nonneg _ hp] at hi ⊢
  rw [Int.mul_emod, Int.emod_emod_of_dvd _ (Int.dvd_refl P), ← Int.mul_emod] at hi ⊢
  rw [Int.mul_assoc, Int.mul_emod, hi, Int.mul_one, Int.emod_emod_of_dvd _ (Int.dvd_refl P)]
theorem wr_inf (h : v = 2 ^ 383 + 2 ^ 382) : Wr 0 6 v := by
  have e : v = 0 + 6 * 2 ^ 381 := by rw [h]; decide +kernel
  exact ⟨by decide, by decide +kernel, by decide, by decide, e⟩
theorem due_inf : dueR P b 6 0 = .inf := due4 (by decide) (by decide) (by decide) rfl
theorem big_P (x0 : 0 ≤ x) (x1 : x ≤ 1000000) : x < 2 ^ 381 := by
  have e : (1000000 : Int) < 2 ^ 381 := by decide +kernel
  omega
/-- the marks of a point -/
def mkOf (P y : Int) : Int := 4 + if P - y < y then 1 else 0
theorem path_pt (k : PtOk P b x y) (c : Cv P b)
    (hv : v = ((x * s).fmod P * r).fmod P + (((y * s).fmod P * r').fmod P * 2).fdiv P * 2 ^ 381 + 2 ^ 383) (hi : (s.fmod P * r).fmod P = 1) (hj : (s.fmod P * r').fmod P = 1) (hx : x ≠ 0) : Wr x (mkOf P y) v ∧ dueR P b (mkOf P y) x = .pt x y ∧ v = x + mkOf P y * 2 ^ 381 := by
  have hP : 0 < P := by have := c.lo; omega
  have ho := odd_of c.pr
  have x0 := k.x0
  have x1 := k.x1
  obtain ⟨r0, r1⟩ := root_rng' c x0 x1
  obtain ⟨c0, c1⟩ := cube_pos' c x0 x1
  have hy : 0 < y ∧ y < P := by rcases k.y with e | e <;> omega
  rw [unscale hP hi, unscale hP hj, Int.fmod_eq_of_lt x0 x1, Int.fmod_eq_of_lt (by omega : 0 ≤ y) hy.2, twice hy.1 hy.2 ho] at hv
  have e3 : (2 : Int) ^ 383 = 4 * 2 ^ 381 := by decide +kernel
  have ev : v = x + mkOf P y * 2 ^ 381 := by
    rw [hv, e3]
    unfold mkOf
    split <;> omega
  have hm : mkOf P y = 4 ∨ mkOf P y = 5 := by unfold mkOf; split <;> omega
  refine ⟨⟨x0, big_P x0 (by have := c.hi; omega), by omega, by omega, ev⟩, ?_, ev⟩
  have hb : (([6, 7].any fun q => q == mkOf P y) != (x == 0)) = false := by
    have : (x == 0) = false := by simpa using hx
    rw [this]
    rcases hm with e | e <;> rw [e] <;> decide
  have hs : pwm ((x * x * x + b).fmod P) ((P - 1).fdiv 2) P = 1 := by
    refine (root_of c.pr c0 c1).1.mp ?_
    show pwm (root P b x) 2 P = _
    rw [sq_of c.pr (by exact Int.le_of_lt r0) r1]
    exact k.sq
  have h5 : (mkOf P y == 5) = decide (P - y < y) := by
    unfold mkOf
    by_cases q : P - y < y <;> simp [q]
  rcases k.y with e | e
  · rw [due8 (by omega) hb (by omega) hx (by omega) hs (by rw [h5, ← e]; simp), ← e]
  · rw [due7 (by omega) hb (by omega) hx (by omega) hs (by
      rw [h5, e]
      by_cases q : P - root P b x < root P b x
      · have q2 : ¬ P - (P - root P b x) < P - root P b x := by omega
        simp [q, q2]
      · have q2 : P - (P - root P b x) < P - root P b x := by omega
        simp [q, q2]), ← e]
theorem pt_rng (k : PtOk P b x y) (c : Cv P b) : (0 ≤ x ∧ x < P) ∧ 0 < y ∧ y < P := by
  obtain ⟨r0, r1⟩ := root_rng' c k.x0 k.x1
  exact ⟨⟨k.x0, k.x1⟩, by rcases k.y with e | e <;> omega⟩
theorem due_inv_inf (h : dueR P b mk x = .inf) (m0 : 0 ≤ mk) (m1 : mk ≤ 7) : mk = 6 ∧ x = 0 := by
  unfold dueR at h
  by_cases h1 : mk < 4
  · rw [if_pos h1] at h; cases h
  rw [if_neg h1] at h
  by_cases h2 : (([6, 7].any fun y => y == mk) != (x == 0)) = true
  · rw [if_pos h2] at h; cases h
  rw [if_neg h2] at h
  by_cases h3 : mk = 7
  · rw [if_pos h3] at h; cases h
  rw [if_neg h3] at h
  by_cases h4 : x = 0
  · refine ⟨?_, h4⟩
    have h2' : (([6, 7].any fun y => y == mk) != (x == 0)) = false := by simpa using h2
    rw [h4] at h2'
    rcases (by omega : mk = 4 ∨ mk = 5 ∨ mk = 6) with e | e | e <;> subst e <;> first | rfl | (exfalso; revert h2'; decide)
  rw [if_neg h4] at h
  split at h
  · cases h
  split at h
  · cases h
  split at h <;> cases h
theorem due_inv_pt (h : dueR P b mk x = .pt X Y) (m0 : 0 ≤ mk) (m1 : mk ≤ 7) : (mk = 4 ∨ mk = 5) ∧ X = x ∧ x < P ∧ (((decide (P - root P b x < root P b x) != (mk == 5)) = true ∧ Y = P - root P b x) ∨ ((decide (P - root P b x < root P b x) != (mk == 5)) = false ∧ Y = root P b x)) := by
  unfold dueR at h
  by_cases h1 : mk < 4
  · rw [if_pos h1] at h; cases h
  rw [if_neg h1] at h
  by_cases h2 : (([6, 7].any fun y => y == mk) != (x == 0)) = true
  · rw [if_pos h2] at h; cases h
  rw [if_neg h2] at h
  by_cases h3 : mk = 7
  · rw [if_pos h3] at h; cases h
  rw [if_neg h3] at h
  by_cases h4 : x = 0
  · rw [if_pos h4] at h; cases h
  rw [if_neg h4] at h
  by_cases h5 : P ≤ x
  · rw [if_pos h5] at h; cases h
  rw [if_neg h5] at h
  by_cases h6 : pwm ((x * x * x + b).fmod P) ((P - 1).fdiv 2) P ≠ 1
  · rw [if_pos h6] at h; cases h
  rw [if_neg h6] at h
  have h2' : (([6, 7].any fun y => y == mk) != (x == 0)) = false := by simpa using h2
  have hx : (x == 0) = false := by simpa using h4
  rw [hx] at h2'
  have hm : mk = 4 ∨ mk = 5 := by
    rcases (by omega : mk = 4 ∨ mk = 5 ∨ mk = 6) with e | e | e <;> subst e <;> first | exact .inl rfl | exact .inr rfl | (exfalso; revert h2'; decide)
  by_cases h7 : (decide (P - root P b x < root P b x) != (mk == 5)) = true
  · rw [if_pos h7] at h; cases h
    exact ⟨hm, rfl, by omega, .inl ⟨h7, rfl⟩⟩
  · rw [if_neg h7] at h; cases h
    exact ⟨hm, rfl, by omega, .inr ⟨by simpa using h7, rfl⟩⟩
theorem one_mul_fmod (hi : (1 * r).fmod P = 1) (h0 : 0 ≤ x) (h1 : x < P) : (x * r).fmod P = x := by
  have hp : 0 ≤ P := by omega
  rw [Int.one_mul] at hi
  simp only [Int.fmod_eq_emod_of_nonneg _ hp] at hi ⊢
  rw [Int.mul_emod, hi, Int.mul_one, Int.emod_emod_of_dvd _ (Int.dvd_refl P)]
  exact Int.emod_eq_of_lt h0 h1
theorem back_pt (c : Cv P b) (h : dueR P b mk x = .pt X Y) (x0 : 0 ≤ x) (m0 : 0 ≤ mk) (m1 : mk ≤ 7) (hi : (1 * r).fmod P = 1) (hj : (1 * r').fmod P = 1)
    (hv : v = (X * r).fmod P + ((Y * r').fmod P * 2).fdiv P * 2 ^ 381 + 2 ^ 383) : v = x + mk * 2 ^ 381 := by
  obtain ⟨hm, hX, x1, hY⟩ := due_inv_pt h m0 m1
  have ho := odd_of c.pr
  subst hX
  obtain ⟨r0, r1⟩ := root_rng' c x0 x1
  have hy : 0 < Y ∧ Y < P := by rcases hY with ⟨_, e⟩ | ⟨_, e⟩ <;> omega
  rw [one_mul_fmod hi x0 x1, one_mul_fmod hj (by omega) hy.2, twice hy.1 hy.2 ho] at hv
  have e3 : (2 : Int) ^ 383 = 4 * 2 ^ 381 := by decide +kernel
  rw [hv, e3]
  have hf : (if P - Y < Y then (1 : Int) else 0) = mk - 4 := by
    rcases hY with ⟨q, e⟩ | ⟨q, e⟩ <;> rcases hm with m | m <;> subst m <;> subst e <;> by_cases g : P - root P b X < root P b X <;> simp [g] at q <;> split <;> omega
  rw [hf]
  rcases hm with m | m <;> subst m <;> omega
theorem back_inf (h : dueR P b mk x = .inf) (m0 : 0 ≤ mk) (m1 : mk ≤ 7) (hv : v = 2 ^ 383 + 2 ^ 382) : v = x + mk * 2 ^ 381 := by
  obtain ⟨rfl, rfl⟩ := due_inv_inf h m0 m1
  rw [hv]
  decide +kernel
theorem inf_eq (h : v = 2 ^ 383 + 2 ^ 382) : (v == 6 * 2 ^ Int.toNat 381) = true := by
  rw [h]
  decide +kernel
theorem pt_eq (h : Wr x (mkOf P y) v ∧ dueR P b (mkOf P y) x = .pt x y ∧ v = x + mkOf P y * 2 ^ 381) : (v == x + (4 + if decide (P - y < y) = true then 1 else 0) * 2 ^ Int.toNat 381) = true := by
  rw [h.2.2]
  unfold mkOf
  by_cases q : P - y < y <;> simp [q]
theorem back_eq (h : v = x + mk * 2 ^ 381) : (v == x + mk * 2 ^ Int.toNat 381) = true := by
  rw [h]
  exact beq_self_eq_true _
theorem sc_ne {a : Int} (h : 7 ≤ P) : (1 + a.fmod (P - 1)).fmod P ≠ 0 := by
  have h1 := fm_pos (a := a) (p := P - 1) (by omega)
  rw [Int.fmod_eq_of_lt (by omega) (by omega)]
  omega
end
end Mine
namespace Mine
theorem reads_tup3 {h : Heap} {a : Addr} {x y : Int} {t1 t2 t3 : Tok} (ho : h.get? a = some (tup3 x y t1 t2 t3)) : ∃ as, Reads h (.ref a) (.tuple [.int x, .int y, .int 1]) as :=
  ⟨_, reads_tuple_at ho rfl rfl (ReadsAll.cons (Reads.int _ _) (ReadsAll.cons (Reads.int _ _) (ReadsAll.cons (Reads.int _ _) ReadsAll.nil)))⟩
theorem eqv3 (x y : Int) : PyData.eqv (.tuple [.int x, .int y, .int 1]) (.tuple [.int x, .int y, .int 1]) = true := by
  simp [PyData.eqv, PyData.eqvAll]
section
variable {prog : Program} {w : World} {A : Around} {E : Value → Shared → Prop} {s : Shared} {h₀ : Heap} {L a b : Addr} {news : List (Addr × Obj)} {x y : Int} {t1 t2 t3 u1 u2 u3 : Tok} {Q : Value → Shared → Prop}
theorem eq_tup3 (N : News h₀ L s.heap news) (ma : (a, tup3 x y t1 t2 t3) ∈ news) (mb : (b, tup3 x y u1 u2 u3) ∈ news) (hu : A.units + 64 < cLine) (h : Q (.bool true) s) : wpAny (model prog w) A (compareOp .Eq (.ref a) (.ref b)) Q E s := by
  obtain ⟨_, ra⟩ := reads_tup3 (N _ ma).1
  obtain ⟨_, rb⟩ := reads_tup3 (N _ mb).1
  exact eq_dataH ra rb rfl rfl hu (by rw [eqv3]; exact h)
theorem ne_tup3 (N : News h₀ L s.heap news) (ma : (a, tup3 x y t1 t2 t3) ∈ news) (mb : (b, tup3 x y u1 u2 u3) ∈ news) (hu : A.units + 64 < cLine) (h : Q (.bool false) s) : wpAny (model prog w) A (compareOp .NotEq (.ref a) (.ref b)) Q E s := by
  obtain ⟨_, ra⟩ := reads_tup3 (N _ ma).1
  obtain ⟨_, rb⟩ := reads_tup3 (N _ mb).1
  exact ne_dataH ra rb rfl rfl hu (by rw [eqv3]; exact h)
theorem eq_tup_str {c : Str} {t : Tok} (N : News h₀ L s.heap news) (ma : (a, tup3 x y t1 t2 t3) ∈ news) (hc : SeqAt.shaped (.str c) = true) (hu : A.units + 64 < cLine) (h : Q (.bool false) s) : wpAny (model prog w) A (compareOp .Eq (.ref a) (.str c t)) Q E s := by
  obtain ⟨_, ra⟩ := reads_tup3 (N _ ma).1
  exact eq_dataH ra (Reads.str c t) rfl hc hu (by simpa [PyData.eqv] using h)
end
theorem good_true {cl : Str → Option Addr} {mean : ExcName → Option Value} {args : List WData} {s₁ s' : Shared} {L : Addr} {m : Str → Option Value} (F : Fr s₁.heap L s'.heap m) (hg : s'.gens = #[]) (hos : s'.os = s₁.os) :
    GoodW PySem.Challenge.rw_lh0028_01.row.claim cl mean args s₁ (.ok (.ret (.bool true))) s' := goodW_bool F hg (fun cls => rfl) (postW_of (X := (true == true)) rfl (w_eq_bool (k := true) (l := true) (w_res rfl) w_lit) rfl) hos
theorem good_of {cl : Str → Option Addr} {mean : ExcName → Option Value} {args : List WData} {s₁ s' : Shared} {L : Addr} {m : Str → Option Value} {b : Bool} (hb : b = true) (F : Fr s₁.heap L s'.heap m) (hg : s'.gens = #[]) (hos : s'.os = s₁.os) :
    GoodW PySem.Challenge.rw_lh0028_01.row.claim cl mean args s₁ (.ok (.ret (.bool b))) s' := by
  subst hb; exact good_true F hg hos
end Mine
namespace Mine
local macro_rules | `(tactic| k_room) => `(tactic| ktr_room)
local macro_rules | `(tactic| k_units) => `(tactic| ktr_units)
local macro_rules | `(tactic| k_mem) => `(tactic| first | ktr_member | exact List.Mem.head _ | (refine' mem_tl ?_; k_mem))
local macro_rules | `(tactic| walk_at "call ref") => `(tactic| (k_here; (with_reducible show wpAny _ _ (call (Value.ref 229) [Value.int _ _, Value.int _ _]) _ _ _); k_dflt (refine' fq_ok ?k1 ?k2 ?k3 ?k4 ?k5 ?kK ?kd ?ku _ _ _ _ ?e1 ?_; (case k1 => k_asm); (case k2 => k_asm); (case k3 => k_asm); (case k4 => k_asm); (case k5 => k_asm); (case kK => first | exact rfl | assumption); (case kd => ktr_room); (case ku => ktr_units); (case e1 => omega); k_whole; intro x' d' k1' k2' u1' u2' h' tk' F' N' l1 l2; (try k_lt l1); (try k_lt2 l2); (try k_sweep); (try dsimp only); (try k_fold))))
local macro_rules | `(tactic| walk_at "call ref") => `(tactic| (k_here; (with_reducible show wpAny _ _ (call (Value.ref 71) [Value.int _ _, Value.int _ _]) _ _ _); k_dflt (refine' inv_ok ?k1 ?k2 ?k3 ?k4 ?k5 ?kK ?kd ?ku _ _ _ _ ?e1 ?e2 ?e3 ?_; (case k1 => k_asm); (case k2 => k_asm); (case k3 => k_asm); (case k4 => k_asm); (case k5 => k_asm); (case kK => first | exact rfl | assumption); (case kd => ktr_room); (case ku => ktr_units); (case e1 => assumption); (case e2 => omega); (case e3 => omega); k_whole; intro r' t' h' tk' F' N' i1 i2 i3; (try k_sweep); (try dsimp only); (try k_fold))))
theorem flag_b {y P : Int} (h : 0 < P) : 0 ≤ (y.fmod P * 2).fdiv P ∧ (y.fmod P * 2).fdiv P ≤ 1 := by
  have h1 := fm_pos (a := y) h
  have h2 := fm_pos (a := y.fmod P * 2) h
  have h3 := Int.mul_fdiv_add_fmod (y.fmod P * 2) P
  constructor
  · exact Int.fdiv_nonneg (by omega) (by omega)
  · have h4 : P * (y.fmod P * 2).fdiv P < P * 2 := by omega
    have h5 := Int.lt_of_mul_lt_mul_left h4 (by omega)
    omega
theorem mulOk_flag {y P c : Int} (h : 0 < P) : IntMulOk ((y.fmod P * 2).fdiv P) c := .of_left (PySem.intBits_le_64 (by have := flag_b (y := y) h; omega) (by have := flag_b (y := y) h; omega))
local macro_rules | `(tactic| mul_fits) => `(tactic| exact mulOk_flag (by omega))
local macro_rules | `(tactic| walk_at "binaryOp Div") => `(tactic| (k_here; (with_reducible show wpAny _ _ (binaryOp _ (Value.ref _) (Value.ref _)) _ _ _); k_dflt (refine' binop_K ?k1 ?k2 ?k3 ?k4 ?k5 ?k6 ?k7 ?_; (case k1 => k_asm); (case k2 => k_asm); (case k3 => k_inst); (case k4 => k_typeOf); (case k5 => k_is); (case k6 => k_is); (case k7 => k_is); k_whole)))
theorem p381 : (2 : Int) ^ 381 = 4925250774549309901534880012517951725634967408808180833493536675530715221437151326426783281860614455100828498788352 := by decide +kernel
theorem p382 : (2 : Int) ^ 382 = 9850501549098619803069760025035903451269934817616361666987073351061430442874302652853566563721228910201656997576704 := by decide +kernel
theorem p383 : (2 : Int) ^ 383 = 19701003098197239606139520050071806902539869635232723333974146702122860885748605305707133127442457820403313995153408 := by decide +kernel
theorem comp_eq {x y P : Int} : (x.fmod P).fmod P + (((y.fmod P).fmod P) * 2).fdiv P * 4925250774549309901534880012517951725634967408808180833493536675530715221437151326426783281860614455100828498788352 + 19701003098197239606139520050071806902539869635232723333974146702122860885748605305707133127442457820403313995153408 = x.fmod P + ((y.fmod P) * 2).fdiv P * 2 ^ 381 + 2 ^ 383 := by
  rw [p381, p383, Int.fmod_fmod, Int.fmod_fmod]
theorem inv_use {z r P : Int} (i : z.fmod P ≠ 0 → (z.fmod P * r).fmod P = 1) (h0 : 0 ≤ z) (h1 : z < P) (hz : z ≠ 0) : (z * r).fmod P = 1 := by
  have e : z.fmod P = z := Int.fmod_eq_of_lt h0 h1
  rw [e] at i
  exact i hz

theorem comp_ok {w : World} {dp un : Nat} {gd : Option (List Code)} {cn : Str} {cs : Scope} {a : Addr} {ccd : Value} {cl : List (Str × Addr)} {outer : List Env} {A₀ : Around} {base h₀ : Heap} {L : Addr} {m : Str → Option Value} {s : Shared} {Q E : Value → Shared → Prop}
   {news : List (Addr × Obj)} {p : Program} {loose : List Str} {mean : ExcName → Option Value} {mg mb : Str → Option Value}
   (B : Below A₀ base outer h₀) (F : Fr h₀ L s.heap m) (X : (hd.heap_39 w.params).In h₀) (N : News h₀ L s.heap news) (T : Top p loose mean mg mb h₀) (hk : cs.kind = .function) (hdp : dp + 40 < recursionLimit) (hun : un + 1000 < cLine)
   (tp x y z dx dy dz bo bd : Addr) (P nx ny nz nb : Int) (k1 k2 k3 k4 k5 k6 k7 k8 t1 t2 t3 t4 t5 t6 t7 t8 : Tok) (hP : P ∈ primes) (h7 : 7 ≤ P) (h127 : P ≤ 127)
   (mt : (tp, ({ cls := .type "tuple", data := .seq #[.ref x, .ref y, .ref z] } : Obj)) ∈ news)
   (mx : (x, instObj 229 dx) ∈ news) (mx' : (dx, fqD w P nx k1 k2 t1 t2) ∈ news)
   (my : (y, instObj 229 dy) ∈ news) (my' : (dy, fqD w P ny k3 k4 t3 t4) ∈ news)
   (mz : (z, instObj 229 dz) ∈ news) (mz' : (dz, fqD w P nz k5 k6 t5 t6) ∈ news)
   (mbo : (bo, instObj 229 bd) ∈ news) (mbo' : (bd, fqD w P nb k7 k8 t7 t8) ∈ news)
   (x0 : 0 ≤ nx) (x1 : nx < P) (y0 : 0 ≤ ny) (y1 : ny < P) (z0 : 0 ≤ nz) (z1 : nz < P)
   (hret0 : nz = 0 → ∀ (v : Int) (t : Tok) (h' : Heap) (tk' : Nat), v = 2 ^ 383 + 2 ^ 382 → Fr h₀ L h' m → News h₀ L h' news → Q (.int v t) { s with heap := h', toks := tk' })
   (hret : nz ≠ 0 → ∀ (r r' v : Int) (t : Tok) (h' : Heap) (tk' : Nat), (nz * r).fmod P = 1 → (nz * r').fmod P = 1 → v = (nx * r).fmod P + ((ny * r').fmod P * 2).fdiv P * 2 ^ 381 + 2 ^ 383 → Fr h₀ L h' m → News h₀ L h' news → Q (.int v t) { s with heap := h', toks := tk' }) :
   wpAny (model PySem.Challenge.rw_lh0028_01.row.prog w) (ktrTop dp un gd cn cs L a ccd cl outer) (call (.ref 57) [.ref tp, .ref bo]) Q E s := by
  revert X; k_fill; intro X
  k_with_none
  refine wpAny_call ?_
  k_dflt cell_enter
  k_steps
  · exact hret0 (by assumption) _ _ _ _ rfl (by assumption) (cb_drop (by assumption) (by intro p hp; repeat (first | exact hp | apply mem_tl)))
  · refine' hret ?ne _ _ _ _ _ _ ?i ?j ?e ?F ?N
    case e => exact comp_eq
    case ne => assumption
    case i => exact inv_use (by assumption) (by assumption) (by assumption) (by assumption)
    case j => exact inv_use (by assumption) (by assumption) (by assumption) (by assumption)
    case F => assumption
    case N => exact cb_drop (by assumption) (by intro p hp; repeat (first | exact hp | apply mem_tl))
end Mine
namespace Mine
local macro_rules | `(tactic| k_room) => `(tactic| ktr_room)
local macro_rules | `(tactic| k_units) => `(tactic| ktr_units)
local macro_rules | `(tactic| k_mem) => `(tactic| first | ktr_member | exact List.Mem.head _ | (refine' mem_tl ?_; k_mem))
local macro_rules | `(tactic| walk_at "call builtin:pow") => `(tactic| (k_here; (with_reducible show wpAny _ _ (call (Value.builtin "pow") [Value.int _ _, Value.int _ _, Value.int _ _]) _ _ _); (refine call_pow3 ?_ ?_ ?_); (first | omega | l_fact); (first | omega | l_fact); intro _ _))
local macro_rules | `(tactic| walk_at "call ref") => `(tactic| (k_here; (with_reducible show wpAny _ _ (call (Value.ref 229) [Value.int _ _, Value.int _ _]) _ _ _); k_dflt (refine' fq_ok ?k1 ?k2 ?k3 ?k4 ?k5 ?kK ?kd ?ku _ _ _ _ ?e1 ?_; (case k1 => k_asm); (case k2 => k_asm); (case k3 => k_asm); (case k4 => k_asm); (case k5 => k_asm); (case kK => first | exact rfl | assumption); (case kd => ktr_room); (case ku => ktr_units); (case e1 => omega); k_whole; intro x' d' k1' k2' u1' u2' h' tk' F' N' l1 l2; (try k_lt l1); (try k_lt2 l2); (try k_sweep); (try dsimp only); (try k_fold))))
theorem pow3_abs {z c P : Int} (hc : 0 < c) (h : ¬ P ≤ z.fmod c) (hP : P ≤ 127) : (z.fmod c).natAbs < 2 ^ 64 := by
  have h1 := fm_pos (a := z) hc
  omega
local macro_rules | `(tactic| walk_at "binaryOp Pow int int") => `(tactic| (k_here; (with_reducible refine pow_int_small ?_ ?_ ?_ ?_); decide; decide; exact pow3_abs (by decide) (by assumption) (by assumption)))
theorem msg_fits {z : Int} : (Str.empty ++ Str.ofString "Point value should be less than field modulus. Got " ++ Str.ofString (toString (z.fmod 4925250774549309901534880012517951725634967408808180833493536675530715221437151326426783281860614455100828498788352))).length ≤ sizeLine := by
  have h1 := fm_pos (a := z) (p := 4925250774549309901534880012517951725634967408808180833493536675530715221437151326426783281860614455100828498788352) (by decide)
  have e : (4925250774549309901534880012517951725634967408808180833493536675530715221437151326426783281860614455100828498788352 : Int) < 10 ^ 120 := by decide
  have h0 : (z.fmod 4925250774549309901534880012517951725634967408808180833493536675530715221437151326426783281860614455100828498788352).natAbs < 10 ^ 120 := by omega
  have h2 := int_text_length_le10 (a := z.fmod 4925250774549309901534880012517951725634967408808180833493536675530715221437151326426783281860614455100828498788352) (k := 120) (by decide) h0
  simp only [Str.length_append, PySem.ofString_length, sizeLine_eq]
  have e1 : Str.empty.length = 0 := rfl
  have e2 : "Point value should be less than field modulus. Got ".length = 51 := by decide
  omega
local macro_rules | `(tactic| walk_at "joinParts") => `(tactic| (k_here; (with_reducible show wpAny _ _ (joinParts _ (evalEach [] _)) _ _ _); k_dflt (refine joinParts_nil ?_ ?sz); (case sz => with_reducible exact msg_fits)))
local macro_rules | `(tactic| walk_at "exec Raise some none") => `(tactic| (k_here; (refine Raise_new rfl ?_)))
local macro_rules | `(tactic| walk_at "le") => `(tactic| (with_reducible exact msg_fits))
theorem third {h₀ h : Heap} {L a : Addr} {x y c : Int} {t1 t2 t3 : Tok} {news : List (Addr × Obj)} (N : News h₀ L h ((a, ({ cls := .type "tuple", data := .seq #[.int x t1, .int y t2, .int c t3] } : Obj)) :: news)) (e : c = 1) : News h₀ L h ((a, tup3 x y t1 t2 t3) :: news) := by
  subst e; exact N
theorem fmod1 {P : Int} (h : 7 ≤ P) : Int.fmod 1 P = 1 := Int.fmod_eq_of_lt (by decide) (by omega)
theorem fmod0 {P : Int} : Int.fmod 0 P = 0 := Int.zero_fmod P
theorem told_ok {w : World} {dp un : Nat} {gd : Option (List Code)} {cn : Str} {cs : Scope} {a : Addr} {ccd : Value} {A₀ : Around} {base h₀ : Heap} {L : Addr} {m : Str → Option Value} {s : Shared} {Q E : Value → Shared → Prop}
   {news : List (Addr × Obj)} {p : Program} {loose : List Str} {mean : ExcName → Option Value} {mg mb : Str → Option Value}
   (B : Below A₀ base [] h₀) (F : Fr h₀ L s.heap m) (X : (hd.heap_39 w.params).In h₀) (N : News h₀ L s.heap news) (T : Top p loose mean mg mb h₀) (hk : cs.kind = .function) (hdp : dp + 40 < recursionLimit) (hun : un + 1000 < cLine)
   (bo bd : Addr) (P b x mk z : Int) (k7 k8 t7 t8 t1 : Tok) (v : Cv P b) (hw : Wr x mk z) (h7 : 7 ≤ P) (h127 : P ≤ 127)
   (mbo : (bo, instObj 229 bd) ∈ news) (mbo' : (bd, fqD w P b k7 k8 t7 t8) ∈ news) (b0 : 0 ≤ b) (b1 : b < P)
   (XB : (hd.heap_39 w.params).In base) (TB : Top p loose mean mg mb base)
   (hret : ResRet h₀ L m news s Q (dueR P b mk x)) :
   wpAny (model PySem.Challenge.rw_lh0028_01.row.prog w) (ktrTop dp un gd cn cs L a ccd [] []) (call (.ref 282) [.int z t1, .ref bo]) Q E s := by
  revert X XB; k_fill; intro X XB
  k_with_none
  refine wpAny_call ?_
  k_dflt (refine' code_defS0 ?k1 ?k2 ?k3 ?k4 ?k5 ?kA ?k6 ?k7 ?k8 ?k9 ?kB ?_ ?cK ?c2 ?c3 ?c4 ?c5; (case kA => exact rfl); (case k2 => k_asm); (case k1 => k_asm); (case k3 => k_asm); (case k4 => k_asm); (case k5 => k_asm); (case k6 => k_is); (case k7 => k_is); (case k8 => ktr_room); (case k9 => exact BindsTo.of_eq rfl); (case kB => exact locs rfl); (case cK => assumption); (case c2 => exact rfl); (case c3 => exact rfl); (case c4 => exact rfl); (case c5 => decide); k_whole; intro g' L' h' FG' F' N' B' X' T' D'; (try dsimp only); (try k_lift B'); (try k_fold))
  k_steps
  · exact resRet_of hret (told2 hw (by assumption) (by assumption) (by assumption)) _ _ _ (by assumption) (by exact cb_drop (by assumption) (by intro p hp; repeat (first | exact hp | apply mem_tl)))
  · exact resRet_of hret (told3 hw (by assumption) (by assumption) (by assumption) (by assumption)) _ _ _ (by assumption) (by exact cb_drop (by assumption) (by intro p hp; repeat (first | exact hp | apply mem_tl)))
  · exact resRet_of hret (told4 hw (by assumption) (by assumption) (by assumption) (by assumption)) _ _ (by assumption) (by exact cb_drop (by assumption) (by intro p hp; repeat (first | exact hp | apply mem_tl)))
  · exact absurd fmod0 (by assumption)
  · exact resRet_of hret (told5 hw (by assumption) (by assumption) (by assumption)) _ _ _ (by assumption) (by exact cb_drop (by assumption) (by intro p hp; repeat (first | exact hp | apply mem_tl)))
  · exact absurd (by assumption : z.fmod 4925250774549309901534880012517951725634967408808180833493536675530715221437151326426783281860614455100828498788352 = 0) (by assumption)
  · exact resRet_of hret (told6 hw (by assumption) (by assumption) (by assumption) (by assumption)) _ _ _ (by assumption) (by exact cb_drop (by assumption) (by intro p hp; repeat (first | exact hp | apply mem_tl)))
  · exact resRet_of hret (told7 v hw (by assumption) (by assumption) (by assumption) (by assumption) (by assumption)) _ _ _ (by assumption) (by exact cb_drop (by assumption) (by intro p hp; repeat (first | exact hp | apply mem_tl)))
  · exact absurd (by assumption : Int.fmod 1 P = 0) (by rw [fmod1 h7]; decide)
  · exact resRet_of hret (told8 v hw (by assumption) (by assumption) (by assumption) (by assumption) (by assumption) (by assumption)) _ _ _ _ _ _ (by assumption) (third (by exact cb_drop (by assumption) (by intro p hp; cases hp with | head => exact .head _ | tail _ hp => (repeat (first | exact hp | apply mem_tl)))) (fmod1 h7))
  · exact absurd (by assumption : Int.fmod 1 P = 0) (by rw [fmod1 h7]; decide)
  · exact resRet_of hret (told9 v hw (by assumption) (by assumption) (by assumption) (by assumption) (by assumption) (by assumption)) _ _ _ _ _ _ (by assumption) (third (by exact cb_drop (by assumption) (by intro p hp; cases hp with | head => exact .head _ | tail _ hp => (repeat (first | exact hp | apply mem_tl)))) (fmod1 h7))
  · exact resRet_of hret (told1 hw (by assumption)) _ _ _ (by assumption) (by exact cb_drop (by assumption) (by intro p hp; repeat (first | exact hp | apply mem_tl)))
end Mine
namespace Mine
local macro_rules | `(tactic| k_room) => `(tactic| ktr_room)
local macro_rules | `(tactic| k_units) => `(tactic| ktr_units)
local macro_rules | `(tactic| k_mem) => `(tactic| first | ktr_member | exact List.Mem.head _ | (refine' mem_tl ?_; k_mem))
local macro_rules | `(tactic| walk_at "call builtin:pow") => `(tactic| (k_here; (with_reducible show wpAny _ _ (call (Value.builtin "pow") [Value.int _ _, Value.int _ _, Value.int _ _]) _ _ _); (refine call_pow3 ?_ ?_ ?_); (first | omega | l_fact); (first | omega | l_fact); intro _ _))
local macro_rules | `(tactic| walk_at "call ref") => `(tactic| (k_here; (with_reducible show wpAny _ _ (call (Value.ref 229) [Value.int _ _, Value.int _ _]) _ _ _); k_dflt (refine' fq_ok ?k1 ?k2 ?k3 ?k4 ?k5 ?kK ?kd ?ku _ _ _ _ ?e1 ?_; (case k1 => k_asm); (case k2 => k_asm); (case k3 => k_asm); (case k4 => k_asm); (case k5 => k_asm); (case kK => first | exact rfl | assumption); (case kd => ktr_room); (case ku => ktr_units); (case e1 => omega); k_whole; intro x' d' k1' k2' u1' u2' h' tk' F' N' l1 l2; (try k_lt l1); (try k_lt2 l2); (try k_sweep); (try dsimp only); (try k_fold))))
local macro_rules | `(tactic| walk_at "binaryOp Pow int int") => `(tactic| (k_here; (with_reducible refine pow_int_small ?_ ?_ ?_ ?_); decide; decide; exact pow3_abs (by decide) (by assumption) (by assumption)))
local macro_rules | `(tactic| walk_at "exec Raise some none") => `(tactic| k_dflt (exfalso; (rename dueR _ _ _ _ ≠ Res.refused => hn9); (rename Wr _ _ _ => hw9); (rename Cv _ _ => v9); first
  | exact hn9 (told1 hw9 (by assumption))
  | exact hn9 (told2 hw9 (by assumption) (by assumption) (by assumption))
  | exact hn9 (told3 hw9 (by assumption) (by assumption) (by assumption) (by assumption))
  | exact hn9 (told5 hw9 (by assumption) (by assumption) (by assumption))
  | exact hn9 (told6 hw9 (by assumption) (by assumption) (by assumption) (by assumption))
  | exact hn9 (told7 v9 hw9 (by assumption) (by assumption) (by assumption) (by assumption) (by assumption))
  | exact absurd (by assumption : _ = (0 : Int)) (by assumption)))
/-- what a decompressed point holds, by the law's answer -/
structure Holds3 (r : Res) (nx ny nz P : Int) : Prop where
  x0 : 0 ≤ nx
  x1 : nx < P
  y0 : 0 ≤ ny
  y1 : ny < P
  z0 : 0 ≤ nz
  z1 : nz < P
  is : match r with
    | .refused => False
    | .inf => nz = 0
    | .pt x y => nx = x ∧ ny = y ∧ nz = 1
theorem dropMid {h₀ h : Heap} {L : Addr} {g : Addr × Obj} {l news : List (Addr × Obj)} (N : News h₀ L h (l ++ g :: news)) : News h₀ L h (l ++ news) := cb_drop N fun _ hp => by
  rcases List.mem_append.mp hp with h | h
  · exact List.mem_append_left _ h
  · exact List.mem_append_right _ (.tail _ h)
theorem holds_inf {P b mk x : Int} (h : dueR P b mk x = .inf) (h7 : 7 ≤ P) : Holds3 (dueR P b mk x) (Int.fmod 1 P) (Int.fmod 1 P) (Int.fmod 0 P) P := by
  have h0 : 0 < P := by omega
  exact ⟨(fm_pos h0).1, (fm_pos h0).2, (fm_pos h0).1, (fm_pos h0).2, (fm_pos h0).1, (fm_pos h0).2, by rw [h]; exact Int.zero_fmod P⟩
theorem holds_pt {P b mk x X Y : Int} (h : dueR P b mk x = .pt (X.fmod P) (Y.fmod P)) (h7 : 7 ≤ P) : Holds3 (dueR P b mk x) (X.fmod P) (Y.fmod P) (Int.fmod 1 P) P := by
  have h0 : 0 < P := by omega
  exact ⟨(fm_pos h0).1, (fm_pos h0).2, (fm_pos h0).1, (fm_pos h0).2, (fm_pos h0).1, (fm_pos h0).2, by rw [h]; exact ⟨rfl, rfl, fmod1 h7⟩⟩
theorem dec_ok {w : World} {dp un : Nat} {gd : Option (List Code)} {cn : Str} {cs : Scope} {a : Addr} {ccd : Value} {cl : List (Str × Addr)} {outer : List Env} {A₀ : Around} {base h₀ : Heap} {L : Addr} {m : Str → Option Value} {s : Shared} {Q E : Value → Shared → Prop}
   {news : List (Addr × Obj)} {p : Program} {loose : List Str} {mean : ExcName → Option Value} {mg mb : Str → Option Value}
   (B : Below A₀ base outer h₀) (F : Fr h₀ L s.heap m) (X : (hd.heap_39 w.params).In h₀) (N : News h₀ L s.heap news) (T : Top p loose mean mg mb h₀) (hk : cs.kind = .function) (hdp : dp + 40 < recursionLimit) (hun : un + 1000 < cLine)
   (bo bd : Addr) (P b x mk z : Int) (k7 k8 t7 t8 t1 : Tok) (v : Cv P b) (hw : Wr x mk z) (h7 : 7 ≤ P) (h127 : P ≤ 127)
   (mbo : (bo, instObj 229 bd) ∈ news) (mbo' : (bd, fqD w P b k7 k8 t7 t8) ∈ news) (b0 : 0 ≤ b) (b1 : b < P) (hn : dueR P b mk x ≠ .refused)
   (hret : ∀ (tp x' y' z' dx dy dz : Addr) (nx ny nz : Int) (k1 k2 k3 k4 k5 k6 t1 t2 t3 t4 t5 t6 : Tok) (h' : Heap) (tk' : Nat), Holds3 (dueR P b mk x) nx ny nz P → Fr h₀ L h' m →
      News h₀ L h' ((tp, ({ cls := .type "tuple", data := .seq #[.ref x', .ref y', .ref z'] } : Obj)) :: (z', instObj 229 dz) :: (dz, fqD w P nz k5 k6 t5 t6) :: (y', instObj 229 dy) :: (dy, fqD w P ny k3 k4 t3 t4) :: (x', instObj 229 dx) :: (dx, fqD w P nx k1 k2 t1 t2) :: news) → Q (.ref tp) { s with heap := h', toks := tk' }) :
   wpAny (model PySem.Challenge.rw_lh0028_01.row.prog w) (ktrTop dp un gd cn cs L a ccd cl outer) (call (.ref 64) [.int z t1, .ref bo]) Q E s := by
  revert X; k_fill; intro X
  k_with_none
  refine wpAny_call ?_
  k_dflt cell_enter
  k_steps
  · refine' hret _ _ _ _ _ _ _ _ _ _ _ _ _ _ _ _ _ _ _ _ _ _ _ _ ?h ?F ?N
    case N => exact dropMid (l := [_, _, _, _, _, _, _]) (by assumption)
    case F => assumption
    case h => exact holds_inf (told4 hw (by assumption) (by assumption) (by assumption) (by assumption)) h7
  · refine' hret _ _ _ _ _ _ _ _ _ _ _ _ _ _ _ _ _ _ _ _ _ _ _ _ ?h ?F ?N
    case N => exact dropMid (l := [_, _, _, _, _, _, _]) (by assumption)
    case F => assumption
    case h => exact holds_pt (told8 v hw (by assumption) (by assumption) (by assumption) (by assumption) (by assumption) (by assumption)) h7
  · refine' hret _ _ _ _ _ _ _ _ _ _ _ _ _ _ _ _ _ _ _ _ _ _ _ _ ?h ?F ?N
    case N => exact dropMid (l := [_, _, _, _, _, _, _]) (by assumption)
    case F => assumption
    case h => exact holds_pt (told9 v hw (by assumption) (by assumption) (by assumption) (by assumption) (by assumption) (by assumption)) h7
end Mine
namespace Mine
theorem mulOk_sm {x c : Int} (h0 : 0 ≤ x) (h1 : x ≤ 1000) : IntMulOk x c := .of_left (PySem.intBits_le_64 (by omega) (by omega))
theorem primes_rng {P : Int} (h : P ∈ [7, 19, 31, 43, 67, 79, 103, 127]) : P ∈ primes ∧ 7 ≤ P ∧ P ≤ 127 := ⟨h, by
  simp only [List.mem_cons, List.not_mem_nil, or_false] at h
  omega⟩
theorem marks_rng {P : Int} (h : P ∈ [4, 5, 4, 5, 4, 5, 6, 7, 0, 1, 2, 3]) : 0 ≤ P ∧ P ≤ 7 := by
  simp only [List.mem_cons, List.not_mem_nil, or_false] at h
  omega
theorem big_zero : Big 0 := ⟨by decide, by decide +kernel⟩
theorem big_mod {v P : Int} (h7 : 7 ≤ P) (h127 : P ≤ 127) : Big (v.fmod (P + 3)) := by
  have h := fm_pos (a := v) (p := P + 3) (by omega)
  exact ⟨h.1, big_P h.1 (by omega)⟩
theorem two_pow_le {a b : Nat} (h : a ≤ b) : (2 : Int) ^ a ≤ 2 ^ b := by
  have := Nat.pow_le_pow_right (n := 2) (by decide) h
  exact_mod_cast this
theorem big_far {v u P : Int} (h7 : 7 ≤ P) (h127 : P ≤ 127) : Big (P + v.fmod 1000003 * 2 ^ Int.toNat (u.fmod 350)) := by
  have h := fm_pos (a := v) (p := 1000003) (by decide)
  have g := fm_pos (a := u) (p := 350) (by decide)
  have e1 : (2 : Int) ^ 381 = 2 ^ 32 * 2 ^ 349 := by decide +kernel
  have e2 : (2 : Int) ^ Int.toNat (u.fmod 350) ≤ 2 ^ 349 := two_pow_le (by omega)
  have e3 : (0 : Int) < 2 ^ Int.toNat (u.fmod 350) := Int.pow_pos (by decide)
  have e5 : (1 : Int) ≤ 2 ^ 349 := by decide +kernel
  generalize (2 : Int) ^ Int.toNat (u.fmod 350) = c at *
  generalize hd : (2 : Int) ^ 349 = d at *
  have h2 : v.fmod 1000003 * c ≤ 1000003 * d := Int.mul_le_mul (by omega) e2 (by omega) (by decide)
  have h3 : 0 ≤ v.fmod 1000003 * c := Int.mul_nonneg h.1 (by omega)
  refine ⟨by omega, ?_⟩
  rw [e1]
  have e6 : (2 : Int) ^ 32 = 4294967296 := by decide
  rw [e6]
  omega
theorem wr_of {x mk : Int} (h : Big x) (m0 : 0 ≤ mk) (m1 : mk ≤ 7) : Wr x mk (x + mk * 2 ^ Int.toNat 381) := ⟨h.lo, h.hi, m0, m1, rfl⟩
theorem not_ref_inf {r : Res} (h : r = .inf) : r ≠ .refused := by rw [h]; exact fun e => by cases e
theorem not_ref_pt {r : Res} {x y : Int} (h : r = .pt x y) : r ≠ .refused := by rw [h]; exact fun e => by cases e
theorem holds_rng {r : Res} {nx ny nz P : Int} (h : Holds3 r nx ny nz P) : 0 ≤ nx ∧ nx < P ∧ 0 ≤ ny ∧ ny < P ∧ 0 ≤ nz ∧ nz < P := ⟨h.x0, h.x1, h.y0, h.y1, h.z0, h.z1⟩
theorem holds_is_inf {r : Res} {nx ny nz P : Int} (h : Holds3 r nx ny nz P) (e : r = .inf) : nz = 0 := by
  have := h.is
  rw [e] at this
  exact this
theorem holds_is_pt {r : Res} {nx ny nz P X Y : Int} (h : Holds3 r nx ny nz P) (e : r = .pt X Y) : nx = X ∧ ny = Y ∧ nz = 1 := by
  have := h.is
  rw [e] at this
  exact this
theorem back_pt' {P b x mk v r r' X Y nx ny nz : Int} (c : Cv P b) (h : dueR P b mk x = .pt X Y) 
    (hv : v = (nx * r).fmod P + ((ny * r').fmod P * 2).fdiv P * 2 ^ 381 + 2 ^ 383) (hi : (nz * r).fmod P = 1) (hj : (nz * r').fmod P = 1) (e1 : nx = X) (e2 : ny = Y) (e3 : nz = 1) (x0 : 0 ≤ x) (m0 : 0 ≤ mk) (m1 : mk ≤ 7) : v = x + mk * 2 ^ 381 := by
  subst e1 e2 e3
  exact back_pt c h x0 m0 m1 hi hj hv
local macro_rules | `(tactic| k_mem) => `(tactic| first | ktr_member | exact List.Mem.head _ | (refine' mem_tl ?_; k_mem))
local macro_rules | `(tactic| walk_at "call ref") => `(tactic| (k_here; (with_reducible show wpAny _ _ (call (Value.ref 229) [Value.int _ _, Value.int _ _]) _ _ _); (first | (k_dflt (refine' fq_ok ?k1 ?k2 ?k3 ?k4 ?k5 ?kK ?kd ?ku _ _ _ _ ?e1 ?_; (case k1 => k_asm); (case k2 => k_asm); (case k3 => k_asm); (case k4 => k_asm); (case k5 => k_asm); (case kK => first | exact rfl | assumption); (case kd => ktr_room); (case ku => ktr_units); (case e1 => omega); k_whole))); intro x' d' k1' k2' u1' u2' h' tk' F' N' l1 l2; (try k_lt l1); (try k_lt2 l2); (try k_sweep); (try dsimp only); (try k_fold)))
local macro_rules | `(tactic| walk_at "call ref") => `(tactic| (k_here; (with_reducible show wpAny _ _ (call (Value.ref 229) [Value.int _ _, Value.int _ _]) _ _ _); (first | (k_dflt (refine' fq_ok2 ?k1 ?k2 ?k3 ?k4 ?k5 ?kK ?kd ?ku _ _ _ _ ?e1 ?e2 ?_; (case e1 => omega); (case e2 => omega); (case k1 => k_asm); (case k2 => k_asm); (case k3 => k_asm); (case k4 => k_asm); (case k5 => k_asm); (case kK => first | exact rfl | assumption); (case kd => ktr_room); (case ku => ktr_units); k_whole))); intro x' d' k1' k2' u1' u2' h' tk' F' N' l1 l2; (try k_lt l1); (try k_lt2 l2); (try k_sweep); (try dsimp only); (try k_fold)))
local macro_rules | `(tactic| walk_at "call ref") => `(tactic| (k_here; (with_reducible show wpAny _ _ (call (Value.ref 254) [Value.ref _, Value.int _ _]) _ _ _); (first | (k_dflt (refine' at_ok ?k1 ?k2 ?k3 ?k4 ?k5 ?kK ?kd ?ku _ _ _ _ _ ?e1 ?e2 ?e3 ?e4 ?e5 ?_; (case k1 => k_asm); (case k2 => k_asm); (case k3 => k_asm); (case k4 => k_asm); (case k5 => k_asm); (case kK => first | exact rfl | assumption); (case kd => ktr_room); (case ku => ktr_units); (case e1 => assumption); (case e2 => assumption); (case e3 => omega); (case e4 => decide); (case e5 => decide); k_whole))); intro r' t' h' tk' F' N' i1 i2; (try k_sweep); (try dsimp only); (try k_fold)))
local macro_rules | `(tactic| walk_at "call ref") => `(tactic| (k_here; (with_reducible show wpAny _ _ (call (Value.ref 261) [Value.int _ _, Value.int _ _]) _ _ _); (first | (k_dflt (refine' curve_ok ?k1 ?k2 ?k3 ?k4 ?k5 ?kK ?kd ?ku _ _ _ _ ?e1 ?e2 ?e3 ?_; (case k1 => k_asm); (case k2 => k_asm); (case k3 => k_asm); (case k4 => k_asm); (case k5 => k_asm); (case kK => first | exact rfl | assumption); (case kd => ktr_room); (case ku => ktr_units); (case e1 => assumption); (case e2 => omega); (case e3 => omega); k_whole))); intro r' t' h' tk' F' N' i1 i2 i3; (have c9 := Cv.mk (by assumption) (by omega) (by omega) i3 i1 i2); (try k_sweep); (try dsimp only); (try k_fold)))
local macro_rules | `(tactic| walk_at "call ref") => `(tactic| (k_here; (with_reducible show wpAny _ _ (call (Value.ref 268) [Value.int _ _, Value.int _ _, Value.int _ _]) _ _ _); (first | (k_dflt (refine' point_ok ?k1 ?k2 ?k3 ?k4 ?k5 ?kK ?kd ?ku _ _ _ _ _ _ ?e1 ?e2 ?e3 ?e4 ?_ ?_; (case k1 => k_asm); (case k2 => k_asm); (case k3 => k_asm); (case k4 => k_asm); (case k5 => k_asm); (case kK => first | exact rfl | assumption); (case kd => ktr_room); (case ku => ktr_units); (case e1 => omega); (case e2 => omega); (case e3 => omega); (case e4 => omega)))); all_goals (intros; (try ((rename PtOk _ _ _ _ => pk9); (rename Cv _ _ => cv9); (obtain ⟨⟨pk0, pk1⟩, pk2, pk3⟩ := pt_rng pk9 cv9))); (try k_sweep); (try dsimp only); (try k_fold))))
local macro_rules | `(tactic| walk_at "call ref") => `(tactic| (k_here; (with_reducible show wpAny _ _ (call (Value.ref 57) [Value.ref _, Value.ref _]) _ _ _); (first | (k_dflt (refine' comp_ok ?k1 ?k2 ?k3 ?k4 ?k5 ?kK ?kd ?ku _ _ _ _ _ _ _ _ _ _ _ _ _ _ _ _ _ _ _ _ _ _ _ _ _ _ _ _ _ _ ?e1 ?e2 ?e3 ?m1 ?m2 ?m3 ?m4 ?m5 ?m6 ?m7 ?m8 ?m9 ?r1 ?r2 ?r3 ?r4 ?r5 ?r6 ?_ ?_; (case k1 => k_asm); (case k2 => k_asm); (case k3 => k_asm); (case k4 => k_asm); (case k5 => k_asm); (case kK => first | exact rfl | assumption); (case kd => ktr_room); (case ku => ktr_units); (case m1 => k_mem); (case m2 => k_mem); (case m3 => k_mem); (case m4 => k_mem); (case m5 => k_mem); (case m6 => k_mem); (case m7 => k_mem); (case m8 => k_mem); (case m9 => k_mem); (case e1 => assumption); (case e2 => omega); (case e3 => omega); (case r1 => first | omega | exact (fm_pos (by omega)).1); (case r2 => first | omega | exact (fm_pos (by omega)).2); (case r3 => first | omega | exact (fm_pos (by omega)).1); (case r4 => first | omega | exact (fm_pos (by omega)).2); (case r5 => first | omega | exact (fm_pos (by omega)).1); (case r6 => first | omega | exact (fm_pos (by omega)).2)))); all_goals (intros; (first | (exfalso; first | exact absurd (by assumption) (sc_ne (by omega)) | exact absurd rfl (by assumption) | omega) | ((try ((rename PtOk _ _ _ _ => pk9); (rename Cv _ _ => cv9); (have hA9 := path_pt pk9 cv9 (by assumption) (by assumption) (by assumption) (by assumption)); (have hA8 := pt_eq hA9))); (try (have hI9 := inf_eq (by assumption))); (try (have hJ9 := back_eq (back_inf (by assumption) (by omega) (by omega) (by assumption)))); (try (have hJ8 := back_eq (back_pt' (by assumption) (by assumption) (by assumption) (by assumption) (by assumption) (by assumption) (by assumption) (by assumption) (Big.lo (by first | assumption | exact big_zero | exact big_mod (by omega) (by omega) | exact big_far (by omega) (by omega))) (by omega) (by omega)))); (try k_sweep); (try dsimp only); (try k_fold))))))
local macro_rules | `(tactic| walk_at "call ref") => `(tactic| (k_here; (with_reducible show wpAny _ _ (call (Value.ref 289) [Value.int _ _, Value.int _ _, Value.int _ _, Value.int _ _]) _ _ _); (first | (k_dflt (refine' due_ok ?k1 ?k2 ?k3 ?k4 ?k5 ?kK ?kd ?ku _ _ _ _ _ _ _ _ ?e1 ?e2 ?e3 ?e4 ?e5 ?e6 ?e7 ?e8 ?_; (case k1 => k_asm); (case k2 => k_asm); (case k3 => k_asm); (case k4 => k_asm); (case k5 => k_asm); (case kK => first | exact rfl | assumption); (case kd => ktr_room); (case ku => ktr_units); (case e1 => omega); (case e2 => omega); (case e3 => omega); (case e4 => omega); (case e5 => omega); (case e6 => omega); (case e7 => refine Big.lo ?_; (first | assumption | exact big_zero | exact big_mod (by omega) (by omega) | exact big_far (by omega) (by omega))); (case e8 => first | assumption | exact big_zero | exact big_mod (by omega) (by omega) | exact big_far (by omega) (by omega))))); (generalize hR9 : dueR _ _ _ _ = r9); (cases r9 <;> (dsimp only [ResRet]; intros; (try k_sweep); (try dsimp only); (try k_fold)))))
local macro_rules | `(tactic| walk_at "call ref") => `(tactic| (k_here; (with_reducible show wpAny _ _ (call (Value.ref 282) [Value.int _ _, Value.ref _]) _ _ _); (first | (k_dflt (refine' told_ok ?k1 ?k2 ?k3 ?k4 ?k5 ?kK ?kd ?ku _ _ _ _ _ _ _ _ _ _ _ _ ?v ?hw ?e1 ?e2 ?m1 ?m2 ?e3 ?e4 ?XB ?TB ?_; (case k1 => k_asm); (case k2 => k_asm); (case k3 => k_asm); (case k4 => k_asm); (case k5 => k_asm); (case kK => first | exact rfl | assumption); (case kd => ktr_room); (case ku => ktr_units); (case m1 => k_mem); (case m2 => k_mem); (case v => assumption); (case hw => with_reducible first | assumption | exact wr_inf (by assumption) | exact (by assumption : Wr _ _ _ ∧ _).1 | (refine wr_of ?_ ?_ ?_; (first | assumption | exact big_zero | exact big_mod (by omega) (by omega) | exact big_far (by omega) (by omega)); omega; omega)); (case e1 => omega); (case e2 => omega); (case e3 => omega); (case e4 => omega); (case XB => assumption); (case TB => assumption)))); (first | rw [due_inf] | ((rename dueR _ _ _ _ = _ => hd9); rw [hd9]) | rw [(by assumption : Wr _ _ _ ∧ dueR _ _ _ _ = Res.pt _ _ ∧ _).2.1]); (dsimp only [ResRet]; intros; (try k_sweep); (try dsimp only); (try k_fold))))
local macro_rules | `(tactic| walk_at "call ref") => `(tactic| (k_here; (with_reducible show wpAny _ _ (call (Value.ref 64) [Value.int _ _, Value.ref _]) _ _ _); (first | (k_dflt (refine' dec_ok ?k1 ?k2 ?k3 ?k4 ?k5 ?kK ?kd ?ku _ _ _ _ _ _ _ _ _ _ _ _ ?v ?hw ?e1 ?e2 ?m1 ?m2 ?e3 ?e4 ?hn ?_; (case k1 => k_asm); (case k2 => k_asm); (case k3 => k_asm); (case k4 => k_asm); (case k5 => k_asm); (case kK => first | exact rfl | assumption); (case kd => ktr_room); (case ku => ktr_units); (case m1 => k_mem); (case m2 => k_mem); (case v => assumption); (case hw => (refine wr_of ?_ ?_ ?_; (first | assumption | exact big_zero | exact big_mod (by omega) (by omega) | exact big_far (by omega) (by omega)); omega; omega)); (case e1 => omega); (case e2 => omega); (case e3 => omega); (case e4 => omega); (case hn => first | exact not_ref_inf (by assumption) | exact not_ref_pt (by assumption))))); intros; ((rename Holds3 _ _ _ _ _ => hh9); (obtain ⟨hh1, hh2, hh3, hh4, hh5, hh6⟩ := holds_rng hh9); (first | (have hz9 := holds_is_inf hh9 (by assumption)) | (obtain ⟨hz7, hz8, hz9⟩ := holds_is_pt hh9 (by assumption))); clear hh9; (try k_sweep); (try dsimp only); (try k_fold))))
local macro_rules | `(tactic| walk_at "subscriptTail") => `(tactic| (k_here; (with_reducible show wpAny _ _ (subscriptTail _ _ (Value.ref _) (Value.int (Int.fmod _ _) _)) _ _ _); (first | k_dflt (refine' item_mem ?k1 ?k2 ?k3 ?k4 ?k5 ?_; (case k1 => is_list); (case k2 => l_ints); (case k3 => exact (fm_pos (by decide)).1); (case k4 => exact (fm_pos (by decide)).2); (case k5 => exact Int.lt_trans (fm_pos (by decide)).2 (by decide)); k_whole; intro v9 t9 hv9; first | (obtain ⟨hp9, hp8, hp7⟩ := primes_rng hv9) | (obtain ⟨hp9, hp8⟩ := marks_rng hv9)))))
local macro_rules | `(tactic| walk_at "eval Call") => `(tactic| (k_here; k_dflt (refine Call_ ?_)))
local macro_rules | `(tactic| mul_fits) => `(tactic| exact mulOk_sm (by omega) (by omega))
local macro_rules | `(tactic| walk_at "subscriptTail Name Constant ref int") => `(tactic| (k_here; k_dflt (refine' item_tupleT ?t ?a ?b ?c ?d ?_; (case t => exact News.isTup (by k_asm) (by k_mem)); (case a => decide); (case b => decide); (case c => rfl); (case d => rfl); k_whole)))
local macro_rules | `(tactic| walk_at "compareOp Eq ref ref") => `(tactic| (k_here; (with_reducible show wpAny _ _ (compareOp CmpOp.Eq (Value.ref _) (Value.ref _)) _ _ _); k_dflt (refine' eq_tup3 ?N ?m1 ?m2 ?u ?_; (case N => k_asm); (case m1 => k_mem); (case m2 => k_mem); (case u => exact Nat.le_of_ble_eq_true rfl); k_whole)))
local macro_rules | `(tactic| walk_at "compareOp NotEq ref ref") => `(tactic| (k_here; (with_reducible show wpAny _ _ (compareOp CmpOp.NotEq (Value.ref _) (Value.ref _)) _ _ _); k_dflt (refine' ne_tup3 ?N ?m1 ?m2 ?u ?_; (case N => k_asm); (case m1 => k_mem); (case m2 => k_mem); (case u => exact Nat.le_of_ble_eq_true rfl); k_whole)))
local macro_rules | `(tactic| walk_at "compareOp Eq ref str") => `(tactic| (k_here; (with_reducible show wpAny _ _ (compareOp CmpOp.Eq (Value.ref _) (Value.str _ _)) _ _ _); k_dflt (refine' eq_tup_str ?N ?m1 ?c ?u ?_; (case N => k_asm); (case m1 => k_mem); (case c => decide +kernel); (case u => exact Nat.le_of_ble_eq_true rfl); k_whole)))
local macro_rules | `(tactic| wrow_close) => `(tactic| (w_end; exact good_true (by assumption) (by assumption) rfl))
local macro_rules | `(tactic| wrow_close) => `(tactic| (w_end; exact good_of (by assumption) (by assumption) (by assumption) rfl))
local macro_rules | `(tactic| walk_at "ite") => `(tactic| (k_here; (with_reducible refine ite_pos (by assumption) ?_)))

theorem law_ok : PySem.Challenge.rw_lh0028_01.Holds := hd (by
  k_go0
  (all_goals try k_fold)
  k_with_none
  k_steps)
end Mine
theorem PySem.Challenge.cw_lh0028_01_holds : PySem.Challenge.rw_lh0028_01.Holds := by
  exact Mine.law_ok
