import PyProof.Rows.All
import Wide.All
import OpenK.AllK
import Wide.FinOn
import PySem.Challenge.RW_ys0003_05
open PySem PySem.W PySem.Calls PyProof.Rows
set_option Elab.async false
set_option maxRecDepth 100000
set_option maxHeartbeats 8000000
namespace Mine

open_top hd for PySem.Challenge.rw_ys0003_05
section
/-- a mark at which the walk halts, so that the next step is taken by hand -/
def Halt (P : Prop) : Prop := P
theorem Halt.out {P : Prop} (h : Halt P) : P := h

abbrev stO (at_ : Int) (t : Tok) (cl : Addr) (n : Nat) : Obj := listOf [Value.int at_ t, Value.ref cl].toArray n

structure StOk (at_ : Int) (vs : List Value) (ns : List Int) : Prop where
  at0 : 0 ≤ at_
  isI : IntsAre vs ns
  pos : ∀ c ∈ ns, 0 ≤ c
  len0 : 0 < ns.length
  len63 : ns.length ≤ 63

theorem nl1 {h₀ h : Heap} {L : Addr} {a b c : Addr × Obj} {r : List (Addr × Obj)} (N : News h₀ L h (a :: b :: c :: r)) : News h₀ L h (b :: c :: a :: r) :=
  fun p hp => N p (by simp only [List.mem_cons] at hp ⊢; grind)
theorem nl2 {h₀ h : Heap} {L : Addr} {a a2 b c : Addr × Obj} {r : List (Addr × Obj)} (N : News h₀ L h (a :: a2 :: b :: c :: r)) : News h₀ L h (b :: c :: a :: a2 :: r) :=
  fun p hp => N p (by simp only [List.mem_cons] at hp ⊢; grind)
theorem nl3 {h₀ h : Heap} {L : Addr} {a a2 a3 b c : Addr × Obj} {r : List (Addr × Obj)} (N : News h₀ L h (a :: a2 :: a3 :: b :: c :: r)) : News h₀ L h (b :: c :: a :: a2 :: a3 :: r) :=
  fun p hp => N p (by simp only [List.mem_cons] at hp ⊢; grind)
theorem nl4 {h₀ h : Heap} {L : Addr} {a a2 a3 a4 b c : Addr × Obj} {r : List (Addr × Obj)} (N : News h₀ L h (a :: a2 :: a3 :: a4 :: b :: c :: r)) : News h₀ L h (b :: c :: a :: a2 :: a3 :: a4 :: r) :=
  fun p hp => N p (by simp only [List.mem_cons] at hp ⊢; grind)
theorem nl5 {h₀ h : Heap} {L : Addr} {a a2 a3 a4 a5 b c : Addr × Obj} {r : List (Addr × Obj)} (N : News h₀ L h (a :: a2 :: a3 :: a4 :: a5 :: b :: c :: r)) : News h₀ L h (b :: c :: a :: a2 :: a3 :: a4 :: a5 :: r) :=
  fun p hp => N p (by simp only [List.mem_cons] at hp ⊢; grind)

theorem offNil {st cl : Addr} : OwnOff [] [st, cl] := fun _ hp => nomatch hp
theorem offCons {a st cl : Addr} {o : Obj} {r : List (Addr × Obj)} (h1 : @Ne Nat a st) (h2 : @Ne Nat a cl) (h : OwnOff r [st, cl]) : OwnOff ((a, o) :: r) [st, cl] := by
  intro p hp b hb
  rcases List.mem_cons.mp hp with rfl | hp
  · rcases List.mem_cons.mp hb with rfl | hb
    · exact h1
    · rw [List.mem_singleton.mp hb]; exact h2
  · exact h p hp b hb


theorem getD_pos {ns : List Int} (h : ∀ c ∈ ns, 0 ≤ c) (i : Nat) : 0 ≤ ns.getD i 0 := by
  rw [List.getD_eq_getElem?_getD]
  cases e : ns[i]? with
  | none => exact Int.le_refl _
  | some v => exact h v (List.mem_of_getElem? e)

theorem StOk.setc {at_ : Int} {vs : List Value} {ns : List Int} (S : StOk at_ vs ns) {i : Nat} {vs' : List Value} {most : Int} (hm : 0 < most)
    (hi : IntsAre vs' (ns.set i ((ns.getD i 0).fdiv most))) : StOk at_ vs' (ns.set i ((ns.getD i 0).fdiv most)) where
  at0 := S.at0
  isI := hi
  pos := fun c hc => by
    rcases List.mem_or_eq_of_mem_set hc with h | h
    · exact S.pos c h
    · rw [h, Int.fdiv_eq_ediv_of_nonneg _ (by omega)]
      exact Int.ediv_nonneg (getD_pos S.pos i) (by omega)
  len0 := by rw [List.length_set]; exact S.len0
  len63 := by rw [List.length_set]; exact S.len63

theorem StOk.inc {at_ : Int} {vs : List Value} {ns : List Int} (S : StOk at_ vs ns) : StOk (at_ + 1) vs ns :=
  ⟨by have := S.at0; omega, S.isI, S.pos, S.len0, S.len63⟩

theorem offApp {st cl : Addr} {r r' : List (Addr × Obj)} (h : OwnOff r [st, cl]) (h' : OwnOff r' [st, cl]) : OwnOff (r ++ r') [st, cl] := by
  intro p hp
  rcases List.mem_append.mp hp with hp | hp
  · exact h p hp
  · exact h' p hp
theorem offSub {st cl : Addr} {r : List (Addr × Obj)} {l : List Addr} (h : OwnOff r l) (h1 : st ∈ l) (h2 : cl ∈ l) : OwnOff r [st, cl] := by
  intro p hp b hb
  rcases List.mem_cons.mp hb with rfl | hb
  · exact h p hp _ h1
  · rw [List.mem_singleton.mp hb]; exact h p hp _ h2
theorem getD_in {ns : List Int} {lo hi : Int} (h : ∀ c ∈ ns, lo ≤ c ∧ c ≤ hi) (h0 : lo ≤ 0 ∧ 0 ≤ hi) (i : Nat) : lo ≤ ns.getD i 0 ∧ ns.getD i 0 ≤ hi := by
  rw [List.getD_eq_getElem?_getD]
  cases e : ns[i]? with
  | none => exact h0
  | some v => exact h v (List.mem_of_getElem? e)
theorem nd1 {h₀ h : Heap} {L : Addr} {a b c : Addr × Obj} {r : List (Addr × Obj)} (N : News h₀ L h (a :: b :: c :: r)) : News h₀ L h (a :: b :: r) :=
  fun p hp => N p (by simp only [List.mem_cons] at hp ⊢; grind)
theorem nd2 {h₀ h : Heap} {L : Addr} {a b c c2 : Addr × Obj} {r : List (Addr × Obj)} (N : News h₀ L h (a :: b :: c :: c2 :: r)) : News h₀ L h (a :: b :: r) :=
  fun p hp => N p (by simp only [List.mem_cons] at hp ⊢; grind)
theorem nd3 {h₀ h : Heap} {L : Addr} {a b c c2 c3 : Addr × Obj} {r : List (Addr × Obj)} (N : News h₀ L h (a :: b :: c :: c2 :: c3 :: r)) : News h₀ L h (a :: b :: r) :=
  fun p hp => N p (by simp only [List.mem_cons] at hp ⊢; grind)
theorem nd4 {h₀ h : Heap} {L : Addr} {a b c c2 c3 c4 : Addr × Obj} {r : List (Addr × Obj)} (N : News h₀ L h (a :: b :: c :: c2 :: c3 :: c4 :: r)) : News h₀ L h (a :: b :: r) :=
  fun p hp => N p (by simp only [List.mem_cons] at hp ⊢; grind)
theorem allLt_ne {d : Addr} : ∀ {l : List (Addr × Obj)}, AllLt d l → ∀ p ∈ l, p.1 ≠ d
  | [], _, _, hp => nomatch hp
  | q :: r, h, p, hp => by
    rcases List.mem_cons.mp hp with rfl | hp
    · exact Nat.ne_of_lt h.1
    · exact allLt_ne h.2 p hp
theorem off1_ne {d : Addr} : ∀ {l : List (Addr × Obj)}, LCg.Off1 d l → ∀ p ∈ l, p.1 ≠ d
  | [], _, _, hp => nomatch hp
  | q :: r, h, p, hp => by
    rcases List.mem_cons.mp hp with rfl | hp
    · exact h.1
    · exact off1_ne h.2 p hp
theorem offOf {st cl : Addr} {r : List (Addr × Obj)} (h1 : ∀ p ∈ r, p.1 ≠ st) (h2 : ∀ p ∈ r, p.1 ≠ cl) : OwnOff r [st, cl] := by
  intro p hp b hb
  rcases List.mem_cons.mp hb with rfl | hb
  · exact h1 p hp
  · rw [List.mem_singleton.mp hb]; exact h2 p hp
theorem nd5 {h₀ h : Heap} {L : Addr} {a b c c2 c3 c4 c5 : Addr × Obj} {r : List (Addr × Obj)} (N : News h₀ L h (a :: b :: c :: c2 :: c3 :: c4 :: c5 :: r)) : News h₀ L h (a :: b :: r) :=
  fun p hp => N p (by simp only [List.mem_cons] at hp ⊢; grind)
theorem nd6 {h₀ h : Heap} {L : Addr} {a b c c2 c3 c4 c5 c6 : Addr × Obj} {r : List (Addr × Obj)} (N : News h₀ L h (a :: b :: c :: c2 :: c3 :: c4 :: c5 :: c6 :: r)) : News h₀ L h (a :: b :: r) :=
  fun p hp => N p (by simp only [List.mem_cons] at hp ⊢; grind)
local macro_rules | `(tactic| walk_at "mine:off") => `(tactic| first | assumption | exact offNil | (refine offCons (by first | assumption | omega) (by first | assumption | omega) ?_; walk_at "mine:off"))
local macro_rules | `(tactic| walk_at "mine:led") => `(tactic| first | k_asm | (refine' nl1 ?kl; (case kl => k_asm)) | (refine' nl2 ?kl; (case kl => k_asm)) | (refine' nl3 ?kl; (case kl => k_asm)) | (refine' nl4 ?kl; (case kl => k_asm)) | (refine' nl5 ?kl; (case kl => k_asm)))
local macro_rules | `(tactic| walk_at "mine:back") => `(tactic| first | k_asm | (refine' nd1 ?kl; (case kl => k_asm)) | (refine' nd2 ?kl; (case kl => k_asm)) | (refine' nd3 ?kl; (case kl => k_asm)) | (refine' nd4 ?kl; (case kl => k_asm)) | (refine' nd5 ?kl; (case kl => k_asm)) | (refine' nd6 ?kl; (case kl => k_asm)))
local macro_rules | `(tactic| walk_at "mine:lt") => `(tactic| first | exact allLt_ne (by assumption) | exact allLt_ne (And.right (by assumption)) | exact allLt_ne (And.right (And.right (by assumption))) | exact allLt_ne (And.right (And.right (And.right (by assumption)))) | exact allLt_ne (And.right (And.right (And.right (And.right (by assumption))))) | assumption)
local macro_rules | `(tactic| walk_at "mine:sub") => `(tactic| (intro p9 hp9; first | exact hp9 | (simp only [List.mem_append, List.mem_cons, List.nil_append, List.cons_append] at hp9 ⊢; grind)))
local macro_rules | `(tactic| walk_at "mine:news") => `(tactic| first | k_asm | exact newsL (by k_asm) | exact newsR (by k_asm) | exact newsL (newsR (by k_asm)) | exact newsL (newsR (newsR (by k_asm))))
local macro_rules | `(tactic| walk_at "mine:enterC") => `(tactic| (refine' code_defC ?k1 ?k2 ?k3 ?k4 ?k5 ?kA ?kF ?kK ?k6 ?k7 ?k8 ?k9 ?kB ?kD ?_ ?c2 ?c3 ?c4; (case kA => exact rfl); (case kF => exact rfl); (case kK => first | assumption | exact rfl); (case k1 => k_asm); (case k2 => k_asm); (case k3 => k_asm); (case k4 => k_asm); (case k5 => k_asm); (case k6 => k_is); (case k7 => k_is); (case k8 => ktr_room); (case k9 => exact BindsTo.of_eq rfl); (case kB => exact rfl); (case kD => decide +kernel); (case c2 => exact rfl); (case c3 => exact rfl); (case c4 => exact rfl); k_whole; intro g' L' h' tk' cells' FG' F' N' Y' B' X' T' l1; (try k_lt l1); k_cells Y'; (try simp only [List.cons_append, List.nil_append] at N'); (try dsimp only); (try k_lift B'); (try k_fold)))
local macro_rules | `(tactic| walk_at "mine:rest") => `(tactic| first | k_asm | exact newsL (by k_asm) | exact newsT (by walk_at "mine:rest1") | exact newsR (by k_asm))
local macro_rules | `(tactic| walk_at "mine:rest1") => `(tactic| first | exact newsL (by k_asm) | exact newsT (newsL (by k_asm)) | exact newsT (newsT (newsL (by k_asm))) | exact newsT (newsT (newsT (newsL (by k_asm)))))
local macro_rules | `(tactic| walk_at "mine:home") => `(tactic| first | k_asm | exact newsT (by k_asm) | exact newsT (newsT (by k_asm)) | exact nApp (by k_asm) | exact nApp (newsT (by k_asm)) | exact nApp (newsT (newsT (by k_asm))) | exact nApp (newsT (newsT (newsT (by k_asm)))) | walk_at "mine:back")
section
variable {w : World} {p : Program} {loose : List Str} {mean : ExcName → Option Value} {mg mb : Str → Option Value}
    {dp un : Nat} {gd : Option (List Code)} {cn : Str} {cs : Scope} {a : Addr} {ccd : Value} {ccl : List (Str × Addr)} {outer : List Env} {A₀ : Around} {base h₀ : Heap} {L : Addr} {m : Str → Option Value} {s : Shared} {Q E : Value → Shared → Prop}
    {st cl : Addr} {at_ : Int} {t : Tok} {n n2 : Nat} {vs : List Value} {ns : List Int} {rest : List (Addr × Obj)}

theorem take_spec {most : Int} {tm : Tok}
    (B : Below A₀ base outer h₀) (F : Fr h₀ L s.heap m) (X : (hd.heap_39 w.params).In h₀) (N : News h₀ L s.heap ((st, stO at_ t cl n) :: (cl, listOf vs.toArray n2) :: rest)) (T : Top p loose mean mg mb h₀) (hk : cs.kind = .function)
    (hd : dp + 1 < recursionLimit) (hu : un + 8 < cLine)
    (hne : @Ne Nat st cl) (ho : OwnOff rest [st, cl]) (hS : StOk at_ vs ns) (hm : 0 < most) (hm2 : most ≤ 1000003)
    (hret : ∀ (v : Int) (t' : Tok) (at' : Int) (t2 : Tok) (vs' : List Value) (ns' : List Int) (h' : Heap) (tk' : Nat), 0 ≤ v → v < most → StOk at' vs' ns' → Fr h₀ L h' m → News h₀ L h' ((st, stO at' t2 cl n) :: (cl, listOf vs'.toArray n2) :: rest) → Q (.int v t') { s with heap := h', toks := tk' }) :
    wpAny (model PySem.Challenge.rw_ys0003_05.row.prog w) (ktrTop dp un gd cn cs L a ccd ccl outer) (call (.ref 54) [.ref st, .int most tm]) Q E s := by
  w_top off
  revert X; k_fill; intro X
  have hMk := kstMark
  obtain ⟨hat, hi, hpos, hlen, hlen2⟩ := id hS
  refine wpAny_call ?_
  k_dflt cell_enter
  k_steps
  · exact hret _ _ _ _ _ _ _ _ (Int.fmod_nonneg_of_pos _ hm) (Int.fmod_lt_of_pos _ hm) (hS.setc hm (by assumption)) (by k_asm) (by k_asm)
  · exact hret _ _ _ _ _ _ _ _ (Int.fmod_nonneg_of_pos _ hm) (Int.fmod_lt_of_pos _ hm) hS.inc (by k_asm) (by k_asm)
end
end
section
/-- square and multiply over the exponent's bits, from the top: it reckons the power -/
theorem pm_bits {b e m : Nat} (k : Nat) : (List.range k).reverse.foldl (fun p i => if e.testBit i then p * p % m * b % m else p * p % m) (b ^ (e / 2 ^ k) % m) = b ^ e % m := by
  induction k with
  | zero => simp
  | succ k ih =>
    rw [List.range_succ, List.reverse_append, List.reverse_singleton, List.singleton_append, List.foldl_cons]
    have hd : e / 2 ^ k = 2 * (e / 2 ^ (k + 1)) + (e / 2 ^ k) % 2 := by
      have h1 : e / 2 ^ (k + 1) = e / 2 ^ k / 2 := by rw [Nat.pow_succ, Nat.div_div_eq_div_mul]
      rw [h1]; omega
    generalize hq : e / 2 ^ (k + 1) = q at hd ⊢
    have hstep : (if e.testBit k then b ^ q % m * (b ^ q % m) % m * b % m else b ^ q % m * (b ^ q % m) % m) = b ^ (e / 2 ^ k) % m := by
      rw [Nat.testBit_eq_decide_div_mod_eq]
      rcases Nat.mod_two_eq_zero_or_one (e / 2 ^ k) with h | h
      · rw [h] at hd ⊢
        simp only [Nat.zero_ne_one, decide_false, Bool.false_eq_true, if_false]
        rw [hd, Nat.add_zero, Nat.two_mul, Nat.pow_add, ← Nat.mul_mod]
      · rw [h] at hd ⊢
        simp only [decide_true, if_true]
        rw [hd, Nat.pow_succ, Nat.two_mul, Nat.pow_add, ← Nat.mul_mod, Nat.mod_mul_mod]
    rw [hstep]
    exact ih
theorem powMod_eq (b e m : Nat) : Builtin.powMod b e m = b ^ e % m := by
  unfold Builtin.powMod
  have h0 : e / 2 ^ (Builtin.Int.intBits (e : Int)) = 0 := by
    refine Nat.div_eq_of_lt ?_
    have h := (@intBits_le_iff (Builtin.Int.intBits (e : Int)) (e : Int)).mp (Nat.le_refl _)
    simpa using h
  have h := pm_bits (b := b) (e := e) (m := m) (Builtin.Int.intBits (e : Int))
  rw [h0, Nat.pow_zero] at h
  exact h
theorem int_pow_mod (a m : Int) (k : Nat) : (a % m) ^ k % m = a ^ k % m := by
  induction k with
  | zero => simp
  | succ k ih => rw [Int.pow_succ, Int.pow_succ, Int.mul_emod, ih, Int.emod_emod_of_dvd _ (Int.dvd_refl m), ← Int.mul_emod]
theorem powMod_int {a e m : Int} (he : 0 ≤ e) (hm : 0 < m) : (Builtin.powMod (a % (m.natAbs : Int)).toNat e.natAbs m.natAbs : Int) = a ^ e.toNat % m := by
  have hmn : (m.natAbs : Int) = m := by omega
  have hnn : 0 ≤ a % m := Int.emod_nonneg _ (by omega)
  have e1 : e.natAbs = e.toNat := by omega
  rw [powMod_eq, hmn, e1, Int.natCast_emod, Int.natCast_pow, Int.toNat_of_nonneg hnn, hmn]
  exact int_pow_mod a m _
theorem gives_pow3 (a : Int) (t : Tok) (e : Int) (u : Tok) (m : Int) (v : Tok) (he : 0 ≤ e) (hm : 0 < m) :
    Gives (Builtin.«int.__pow__» ⟨[.int a t, .int e u, .int m v], []⟩) (.int (a ^ e.toNat % m)) :=
  .of_wp fun M A E s Q h => by
    have h0 : ¬ (m == 0) = true := by simpa using (by omega : ¬ m = 0)
    have h1 : ¬ e < 0 := by omega
    by_cases hm1 : (m.natAbs == 1) = true
    · have e1 : a ^ e.toNat % m = 0 := by
        have : m = 1 := by have := of_decide_eq_true hm1; omega
        rw [this, Int.emod_one]
      rw [e1] at h
      obtain ⟨hp, g, d, tk, os⟩ := s
      wp_walk
      exact ⟨_, rfl, h⟩
    · rw [← powMod_int he hm] at h
      have h2 : ¬ (decide (m < 0) && ((Builtin.powMod (a % (m.natAbs : Int)).toNat e.natAbs m.natAbs : Nat) : Int) != 0) = true := by
        rw [decide_eq_false (by omega)]; simp
      obtain ⟨hp, g, d, tk, os⟩ := s
      wp_walk
      rw [if_neg h2]
      exact ⟨_, rfl, h⟩
theorem kind_pow : builtinKind "pow" = none := by decide +kernel
theorem plain_pow : plainId "pow" = true := by decide +kernel
theorem entry_pow : entryFor table "pow" = some Builtin.«pow» := by first | exact entryFor_of_tree (by kernel_rfl) | exact entryFor_of_fast (by kernel_rfl)
theorem args_pow (a b c : Value) : argsOk "pow" ⟨[a, b, c], []⟩ := by unfold argsOk; kernel_rfl
theorem args_ipow (a b c : Value) : argsOk "int.__pow__" ⟨[a, b, c], []⟩ := by
  unfold argsOk; kernel_rfl
section
variable {prog : Program} {w : World} {A : Around} {E : Value → Shared → Prop} {s : Shared}
theorem call_pow3 {a e m : Int} {t u v : Tok} {Q : Value → Shared → Prop} (he : 0 ≤ e) (hm : 0 < m) (h : Q (.int (a ^ e.toNat % m) s.toks) { s with toks := s.toks + 1 }) :
    wpAny (model prog w) A (call (.builtin "pow") [.int a t, .int e u, .int m v]) Q E s := by
  refine call_function_entry kind_pow plain_pow entry_pow (args_pow _ _ _) ?_
  unfold Builtin.«pow»
  refine wpAny_bind (wpAny_of_eq (a := [some (.int a t), some (.int e u), some (.int m v)]) (by kernel_rfl) ?_)
  refine wpAny_bind (wpAny_rule ?_)
  refine wpAny_bind (wpAny_typeOf (typeIs_int s a t) ?_)
  show wpAny _ _ (typeLookup (.type "int") "__pow__" >>= fun x => _) _ _ s
  refine wpAny_bind (wpAny_of_eq PySem.F.slot_int_pow.lookup ?_)
  show wpAny _ _ (callSpecial? (.int a t) "__pow__" [.int e u, .int m v] >>= fun x => _) _ _ s
  refine wpAny_bind (wpAny_callSpecial?_slot (typeIs_int s a t) PySem.F.slot_int_pow (call_gives PySem.F.slot_int_pow (typeIs_int s a t) PySem.F.entry_int_pow (args_ipow _ _ _) (gives_pow3 a t e u m v he hm) ?_))
  show wpAny _ _ (ret (Value.int (a ^ e.toNat % m) s.toks) >>= fun x => _) _ _ _
  exact wpAny_bind (wpAny_pure (wpAny_pure ⟨_, rfl, h⟩))
end
section
variable {prog : Program} {w : World} {A : Around} {E : Value → Shared → Prop} {s : Shared} {env : Env} {h₀ : Heap} {x : Str} {body : List Stmt} {Q : Flow → Shared → Prop}
    {st cl : Addr} {at_ : Int} {t : Tok} {n n2 : Nat} {vs : List Value} {ns : List Int} {rest : List (Addr × Obj)} {δ : Type}
abbrev stLed (δ : Type) (st cl : Addr) (n n2 : Nat) (rest : List (Addr × Obj)) (c : δ × Int × Tok × List Value × List Int) : List (Addr × Obj) :=
  (st, stO c.2.1 c.2.2.1 cl n) :: (cl, listOf c.2.2.2.1.toArray n2) :: rest
abbrev stPs (ps : δ → List (Str × Value)) (c : δ × Int × Tok × List Value × List Int) : List (Str × Value) := ps c.1
abbrev stFacts (δ : Type) (c : δ × Int × Tok × List Value × List Int) : Prop := StOk c.2.1 c.2.2.2.1 c.2.2.2.2
abbrev stP (P : List Int → δ → Prop) (pre : List Int) (c : δ × Int × Tok × List Value × List Int) : Prop := P pre c.1

theorem st_range {r : Addr} {a₀ b₀ : Int} {t₀ u₀ v₀ : Tok} {nn : Nat} {m₀ : Str → Option Value} (ps : δ → List (Str × Value)) (stored : List Str) (P : List Int → δ → Prop) (d₀ : δ)
    (hh : A.handled = none) (hr : IsRange s.heap r a₀ b₀ 1 t₀ u₀ v₀) (hsmall : Builtin.Range.small a₀ b₀ 1 = true) (hn : Builtin.Range.rangeSize a₀ b₀ 1 = (nn : Int)) (F : Fr h₀ env.locals s.heap m₀)
    (N : News h₀ env.locals s.heap ((st, stO at_ t cl n) :: (cl, listOf vs.toArray n2) :: rest)) (hS : StOk at_ vs ns) (ho : OwnOff rest [st, cl]) (hk : ∀ p ∈ ps d₀, m₀ p.1 = some p.2) (hp : P [] d₀)
    (turn : ∀ (d : δ) (pre : List Int) (k : Int) t' (u : Str → Option Value) h tk own at1 t1 vs1 ns1, k = a₀ + (pre.length : Int) → pre.length < nn → StOk at1 vs1 ns1 → P pre d → OwnOff (rest ++ own) [st, cl] → OwnOff own (st :: cl :: rest.map (·.1)) →
      Fr h₀ env.locals h (fun y => if y = x then some (.int k t') else kstB (fun z => if stored.contains z then u z else m₀ z) (ps d) y) → News h₀ env.locals h ((st, stO at1 t1 cl n) :: (cl, listOf vs1.toArray n2) :: (rest ++ own)) →
      wpAny (model prog w) A (execs body env) (InvPostN h₀ env.locals (KstS (stLed δ st cl n n2 rest) (stPs ps) (stFacts δ) x stored m₀ (stP P) (pre ++ [k])) own (st :: cl :: rest.map (·.1)) { s with heap := h, toks := tk } Q) E { s with heap := h, toks := tk })
    (done : ∀ (d : δ) (u : Str → Option Value) h tk at1 t1 vs1 ns1, StOk at1 vs1 ns1 → P (rangeKs a₀ nn) d → Fr h₀ env.locals h (fun y => if y = x then u y else kstB (fun z => if stored.contains z then u z else m₀ z) (ps d) y) →
      News h₀ env.locals h ((st, stO at1 t1 cl n) :: (cl, listOf vs1.toArray n2) :: rest) → Q .next { s with heap := h, toks := tk }) :
    wpAny (model prog w) A (pyIter (.ref r)) (fun it s₂ => LoopAtV prog w A h₀ env x body Q E it s₂) E s := by
  refine kst_range (stLed δ st cl n n2 rest) (stPs ps) (stFacts δ) stored (stP P) (d₀, at_, t, vs, ns) hh hr hsmall hn F N hS hk hp ?_ ?_
  · rintro ⟨d, at1, t1, vs1, ns1⟩ pre k t' u h tk own hk' hlt hoff hf hP F9 N9
    exact turn d pre k t' u h tk own at1 t1 vs1 ns1 hk' hlt hf hP (offApp ho (offSub hoff (by simp) (by simp))) hoff F9 N9
  · rintro ⟨d, at1, t1, vs1, ns1⟩ u h tk hf hP F9 N9
    exact done d u h tk at1 t1 vs1 ns1 hf hP F9 N9

theorem st_end {ps : δ → List (Str × Value)} {stored : List Str} {P : List Int → δ → Prop} {m₀ m' : Str → Option Value} {L : Addr} {pre : List Int} {own : List (Addr × Obj)} {s₁ : Shared} {h' : Heap} {tk : Nat} {at1 : Int} {t1 : Tok} {vs1 : List Value} {ns1 : List Int} (d : δ)
    (F : Fr h₀ L h' m') (N : News h₀ L h' ((st, stO at1 t1 cl n) :: (cl, listOf vs1.toArray n2) :: (rest ++ own))) (hS : StOk at1 vs1 ns1) (hk : ∀ p ∈ ps d, m' p.1 = some p.2)
    (hr : ∀ z, z ≠ x → (∀ p ∈ ps d, z ≠ p.1) → stored.contains z = false → m' z = m₀ z) (hp : P pre d) :
    InvEndN h₀ L (KstS (stLed δ st cl n n2 rest) (stPs ps) (stFacts δ) x stored m₀ (stP P) pre) own (st :: cl :: rest.map (·.1)) s₁ { s₁ with heap := h', toks := tk } := by
  refine kst_end (d, at1, t1, vs1, ns1) F N (fun p hp => ?_) (fun p hp => ?_) rfl hS hk hr hp
  · simp only [List.mem_cons, List.mem_append] at hp ⊢
    rcases hp with h | h | h
    · exact .inl h
    · exact .inr (.inl h)
    · exact .inr (.inr (.inl h))
  · exact List.mem_cons_of_mem _ (List.mem_cons_of_mem _ (List.mem_append.mpr (.inr hp)))
end
section
variable {prog : Program} {w : World} {A : Around} {E : Value → Shared → Prop} {s : Shared} {env : Env} {h₀ : Heap} {x : Str} {px : Pos} {body orelse : List Stmt} {Q : Flow → Shared → Prop}

/-- a for over a range, with an else -/
theorem for_else_range {r : Addr} {a₀ b₀ : Int} {t₀ u₀ v₀ : Tok} {n : Nat} {m₀ : Str → Option Value} {news : List (Addr × Obj)} (J : Nat → (Str → Option Value) → Prop)
    (hx : env.kindOf x = some .local) (hp : (env.scope.kind == .class || (env.scope.kind == .module && env.locals != env.globals)) = false)
    (hh : A.handled = none) (hr : IsRange s.heap r a₀ b₀ 1 t₀ u₀ v₀) (hsmall : Builtin.Range.small a₀ b₀ 1 = true) (hn : Builtin.Range.rangeSize a₀ b₀ 1 = (n : Int))
    (F : Fr h₀ env.locals s.heap m₀) (N : News h₀ env.locals s.heap news) (hj : J 0 m₀)
    (turn : ∀ i t m₁ h tk own, i < n → J i m₁ → Fr h₀ env.locals h (fun y => if y = x then some (.int (a₀ + (i : Int)) t) else m₁ y) → News h₀ env.locals h (own ++ news) →
      wpAny (model prog w) A (execs body env) (InvPost h₀ env.locals (J (i + 1)) (own ++ news) { s with heap := h, toks := tk } Q) E { s with heap := h, toks := tk })
    (done : ∀ m₁ h tk, J n m₁ → Fr h₀ env.locals h m₁ → News h₀ env.locals h news → wpAny (model prog w) A (execs orelse env) Q E { s with heap := h, toks := tk })
    (hE : PassesOwn (model prog w) A env E := by passes_own) :
    wpAny (model prog w) A (pyIter (.ref r)) (fun it s₂ => codeAny (model prog w) A (.forLoop (.Name x px) it body orelse env) (fun r s' => match r with | .ok f => Q f s' | .error e => cameBackBy (model prog w) A env E e s') s₂) E s := by
  refine wpAny_pyIter_range hr hsmall ?_
  have W := Walks.range (prog := prog) (w := w) hh s.heap.objs.size a₀ 1 n
  have hI₀ : h₀.get? s.heap.objs.size = none := next_is_new F
  have hL : env.locals ≠ s.heap.objs.size := Nat.ne_of_lt F.ns.lt
  refine codeAny_forLoop (fun k s' => ∃ h tk m i, s' = { s with heap := h, toks := tk } ∧ i ≤ n ∧ k = n + 1 - i ∧ IsRangeIter h s.heap.objs.size (a₀ + (i : Nat) * 1) ((n : Int) - (i : Nat)) 1 ∧
    Fr h₀ env.locals h m ∧ News h₀ env.locals h news ∧ (∀ p ∈ news, p.1 ≠ s.heap.objs.size) ∧ J i m) ?_ (n + 1)
    ⟨_, _, m₀, 0, rfl, Nat.zero_le _, rfl, by show IsRangeIter _ _ _ _ _; rw [hn]; simpa using Heap.get?_push_size _ rfl, F.push _, fun p hp => ⟨Heap.get?_push_of_some _ (N p hp).1, (N p hp).2⟩, fun p hp => Nat.ne_of_lt (Heap.lt_size (N p hp).1), hj⟩
  rintro k s' ⟨h, tk, m, i, rfl, hi, rfl, hst, F', N', off, hJ⟩
  have keeps : ∀ h₁ : Heap, (∀ b o, b ∉ [s.heap.objs.size] → h.get? b = some o → h₁.get? b = some o) → Fr h₀ env.locals h₁ m ∧ News h₀ env.locals h₁ news := fun h₁ hk =>
    ⟨⟨F'.ns.at' fun o e => hk _ o (by simpa using hL) e, fun b o e => hk b o (fun hm => by rw [List.mem_singleton.mp hm, hI₀] at e; cases e) (F'.keep b o e), F'.above⟩,
      fun p hp => ⟨hk _ _ (by simpa using off p hp) (N' p hp).1, (N' p hp).2⟩⟩
  by_cases hlt : i < n
  · refine W.item i _ _ _ hlt hst fun v h₁ tk₁ hv st₁ hk₁ => ?_
    obtain ⟨F₁, N₁⟩ := keeps h₁ hk₁
    obtain ⟨t, rfl⟩ := hv
    refine wpAny_assign_Name (wpAny_storeName_local hx F₁.ns (fun h₂ hn₂ hs₂ => ?_) hp)
    have F₂ := F₁.set hn₂ hs₂
    have N₂ := N₁.set hs₂
    have st₂ : IsRangeIter h₂ s.heap.objs.size (a₀ + ((i + 1 : Nat) : Int) * 1) ((n : Int) - ((i + 1 : Nat) : Int)) 1 := W.frame _ _ _ st₁ fun b hb o e => (hs₂.2 b fun q => hL (by rw [← q]; exact List.mem_singleton.mp hb)).trans e
    obtain ⟨oI, hg, hback⟩ : ∃ o, h₂.get? s.heap.objs.size = some o ∧ ∀ h' : Heap, h'.get? s.heap.objs.size = some o → IsRangeIter h' s.heap.objs.size (a₀ + ((i + 1 : Nat) : Int) * 1) ((n : Int) - ((i + 1 : Nat) : Int)) 1 := ⟨_, st₂, fun _ e => e⟩
    have e1 : a₀ + (i : Int) * 1 = a₀ + (i : Int) := by omega
    rw [e1] at F₂
    have NO : News h₀ env.locals h₂ ([(s.heap.objs.size, oI)] ++ news) := fun p hp => by
      rcases List.mem_cons.mp hp with rfl | hp
      · exact ⟨hg, Ne.symm hL, hI₀⟩
      · exact N₂ p hp
    refine wpAny_mono (wpAny_passesOwn hE (turn i t m h₂ _ _ hlt hJ F₂ NO)) (fun f s₃ h₃ => ?_) fun _ _ e => e
    cases f with
    | ret v => exact h₃
    | brk => exact h₃
    | next =>
      obtain ⟨h₄, tk₄, m₄, nw, rfl, F₄, N₄, hin, hJ₄⟩ := h₃
      exact ⟨n + 1 - (i + 1), by omega, h₄, tk₄, m₄, i + 1, rfl, hlt, rfl, hback h₄ (N₄ _ (hin _ List.mem_cons_self)).1, F₄, fun p hp => N₄ p (hin p (List.mem_cons_of_mem _ hp)), off, hJ₄⟩
    | cont =>
      obtain ⟨h₄, tk₄, m₄, nw, rfl, F₄, N₄, hin, hJ₄⟩ := h₃
      exact ⟨n + 1 - (i + 1), by omega, h₄, tk₄, m₄, i + 1, rfl, hlt, rfl, hback h₄ (N₄ _ (hin _ List.mem_cons_self)).1, F₄, fun p hp => N₄ p (hin p (List.mem_cons_of_mem _ hp)), off, hJ₄⟩
  · obtain rfl : i = n := by omega
    refine W.done _ _ _ hst fun h₁ tk₁ hk₁ => ?_
    obtain ⟨F₁, N₁⟩ := keeps h₁ hk₁
    exact wpAny_passesOwn hE (done m h₁ tk₁ hJ F₁ N₁)
end
section
variable {prog : Program} {w : World} {A : Around} {E : Value → Shared → Prop} {s : Shared} {env : Env} {h₀ : Heap} {x : Str} {px : Pos} {body orelse : List Stmt} {Q : Flow → Shared → Prop} {δ : Type}
def FeJ (ps : δ → List (Str × Value)) (x : Str) (stored : List Str) (m₀ : Str → Option Value) (P : Nat → δ → Prop) (i : Nat) (m : Str → Option Value) : Prop :=
  ∃ c : δ, (∀ p ∈ ps c, m p.1 = some p.2) ∧ (∀ z, z ≠ x → (∀ p ∈ ps c, z ≠ p.1) → stored.contains z = false → m z = m₀ z) ∧ P i c
theorem fe_range {r : Addr} {a₀ b₀ : Int} {t₀ u₀ v₀ : Tok} {n : Nat} {m₀ : Str → Option Value} {news : List (Addr × Obj)} (ps : δ → List (Str × Value)) (stored : List Str) (P : Nat → δ → Prop) (c₀ : δ)
    (hx : env.kindOf x = some .local) (hp : (env.scope.kind == .class || (env.scope.kind == .module && env.locals != env.globals)) = false)
    (hh : A.handled = none) (hr : IsRange s.heap r a₀ b₀ 1 t₀ u₀ v₀) (hsmall : Builtin.Range.small a₀ b₀ 1 = true) (hn : Builtin.Range.rangeSize a₀ b₀ 1 = (n : Int))
    (F : Fr h₀ env.locals s.heap m₀) (N : News h₀ env.locals s.heap news) (hk : ∀ p ∈ ps c₀, m₀ p.1 = some p.2) (hj : P 0 c₀)
    (turn : ∀ c i t (u : Str → Option Value) h tk own, i < n → P i c → Fr h₀ env.locals h (fun y => if y = x then some (.int (a₀ + (i : Int)) t) else kstB (fun z => if stored.contains z then u z else m₀ z) (ps c) y) → News h₀ env.locals h (own ++ news) →
      wpAny (model prog w) A (execs body env) (InvPost h₀ env.locals (FeJ ps x stored m₀ P (i + 1)) (own ++ news) { s with heap := h, toks := tk } Q) E { s with heap := h, toks := tk })
    (done : ∀ c (u : Str → Option Value) h tk, P n c → Fr h₀ env.locals h (fun y => if y = x then u y else kstB (fun z => if stored.contains z then u z else m₀ z) (ps c) y) → News h₀ env.locals h news → wpAny (model prog w) A (execs orelse env) Q E { s with heap := h, toks := tk })
    (hE : PassesOwn (model prog w) A env E := by passes_own) :
    wpAny (model prog w) A (pyIter (.ref r)) (fun it s₂ => codeAny (model prog w) A (.forLoop (.Name x px) it body orelse env) (fun r s' => match r with | .ok f => Q f s' | .error e => cameBackBy (model prog w) A env E e s') s₂) E s := by
  refine for_else_range (FeJ ps x stored m₀ P) hx hp hh hr hsmall hn F N ⟨c₀, hk, fun _ _ _ _ => rfl, hj⟩ ?_ ?_ hE
  · rintro i t m₁ h tk own hi ⟨c, h1, h2, hp'⟩ F₁ N₁
    exact turn c i t m₁ h tk own hi hp' (kst_fr h1 h2 F₁) N₁
  · rintro m₁ h tk ⟨c, h1, h2, hp'⟩ F₁ N₁
    exact done c m₁ h tk hp' (kst_frOut h1 h2 F₁) N₁
theorem fe_end {ps : δ → List (Str × Value)} {stored : List Str} {m₀ m' : Str → Option Value} {P : Nat → δ → Prop} {i : Nat} {L : Addr} {need news' : List (Addr × Obj)} {s₁ : Shared} {h' : Heap} {tk : Nat} (c : δ) (F : Fr h₀ L h' m') (N : News h₀ L h' news') (hn : ∀ p ∈ need, p ∈ news')
    (hk : ∀ p ∈ ps c, m' p.1 = some p.2) (hr : ∀ z, z ≠ x → (∀ p ∈ ps c, z ≠ p.1) → stored.contains z = false → m' z = m₀ z) (hp : P i c) :
    InvEnd h₀ L (FeJ ps x stored m₀ P i) need s₁ { s₁ with heap := h', toks := tk } := InvEnd.intro F N hn ⟨c, hk, hr, hp⟩
end
theorem newsL {h₀ h : Heap} {L : Addr} {r o : List (Addr × Obj)} (N : News h₀ L h (r ++ o)) : News h₀ L h r := fun p hp => N p (List.mem_append.mpr (.inl hp))
theorem newsR {h₀ h : Heap} {L : Addr} {r o : List (Addr × Obj)} (N : News h₀ L h (r ++ o)) : News h₀ L h o := fun p hp => N p (List.mem_append.mpr (.inr hp))
theorem retB {h₀ h' : Heap} {L : Addr} {m : Str → Option Value} {news : List (Addr × Obj)} {s : Shared} {Q : Value → Shared → Prop} {x y : Bool} {tk' : Nat}
    (hret : ∀ (h' : Heap) (tk' : Nat), Fr h₀ L h' m → News h₀ L h' news → Q (.bool x) { s with heap := h', toks := tk' }) (e : y = x) (F : Fr h₀ L h' m) (N : News h₀ L h' news) : Q (.bool y) { s with heap := h', toks := tk' } := by
  subst e
  exact hret h' tk' F N
/-- the test's answer at x, the base's power: 1, or n - 1 is met among the squares -/
def Passes (n x : Int) (r : Nat) : Prop := x = 1 ∨ ∃ k, k < max r 1 ∧ x ^ (2 ^ k) % n = n - 1
/-- the base that a draw gives lets n through -/
def LetsP (n dr : Int) : Prop := ∀ d r : Nat, n - 1 = (d : Int) * 2 ^ r → d % 2 = 1 → Passes n ((dr.fmod (n - 3) + 2) ^ d % n) r
noncomputable def letsAll (n : Int) (ds : List Int) : Bool := @decide (∀ dr ∈ ds, LetsP n dr) (Classical.propDecidable _)
theorem letsAll_true {n : Int} {ds : List Int} : letsAll n ds = true ↔ ∀ dr ∈ ds, LetsP n dr := by
  unfold letsAll
  exact @decide_eq_true_iff _ (Classical.propDecidable _)
theorem letsAll_false {n : Int} {ds : List Int} {dr : Int} (h : dr ∈ ds) (h' : ¬ LetsP n dr) : letsAll n ds = false := by
  cases e : letsAll n ds with
  | false => rfl
  | true => exact absurd (letsAll_true.mp e dr h) h'

theorem odd_unique {d d' : Nat} (ho : d % 2 = 1) (ho' : d' % 2 = 1) : ∀ {r r' : Nat}, d * 2 ^ r = d' * 2 ^ r' → d = d' ∧ r = r'
  | 0, 0, h => ⟨by simpa using h, rfl⟩
  | 0, r' + 1, h => by
    rw [Nat.pow_zero, Nat.mul_one, Nat.pow_succ, ← Nat.mul_assoc] at h
    omega
  | r + 1, 0, h => by
    rw [Nat.pow_zero, Nat.mul_one, Nat.pow_succ, ← Nat.mul_assoc] at h
    omega
  | r + 1, r' + 1, h => by
    rw [Nat.pow_succ, Nat.pow_succ, ← Nat.mul_assoc, ← Nat.mul_assoc] at h
    have := odd_unique ho ho' (Nat.eq_of_mul_eq_mul_right (by decide) h)
    exact ⟨this.1, by omega⟩
theorem lets_iff {n dr : Int} {d r : Nat} (h : n - 1 = (d : Int) * 2 ^ r) (ho : d % 2 = 1) : LetsP n dr ↔ Passes n ((dr.fmod (n - 3) + 2) ^ d % n) r := by
  refine ⟨fun hl => hl d r h ho, fun hp d' r' h' ho' => ?_⟩
  have e : d * 2 ^ r = d' * 2 ^ r' := by
    have : (d : Int) * 2 ^ r = (d' : Int) * 2 ^ r' := by rw [← h, ← h']
    exact_mod_cast this
  obtain ⟨rfl, rfl⟩ := odd_unique ho ho' e
  exact hp
theorem lets_iffI {n dr d r : Int} (hd : 0 ≤ d) (h : n - 1 = d * 2 ^ r.toNat) (ho : d % 2 = 1) : LetsP n dr ↔ Passes n ((dr.fmod (n - 3) + 2) ^ d.toNat % n) r.toNat :=
  lets_iff (by rw [h, Int.toNat_of_nonneg hd]) (by omega)
theorem mr_half {n d r : Int} (h : 0 < d ∧ 0 ≤ r ∧ n - 1 = d * 2 ^ r.toNat) (he : Builtin.bitAnd d 1 = 0) :
    (0 < d.fdiv (2 ^ Int.toNat 1) ∧ 0 ≤ r + 1 ∧ n - 1 = d.fdiv (2 ^ Int.toNat 1) * 2 ^ (r + 1).toNat) ∧ (d.fdiv (2 ^ Int.toNat 1)).toNat < d.toNat := by
  rw [bitAnd_m1] at he
  have e2 : (2 : Int) ^ Int.toNat 1 = 2 := by decide
  rw [e2, Int.fdiv_eq_ediv_of_nonneg _ (by decide)]
  have e3 : (r + 1).toNat = r.toNat + 1 := by omega
  refine ⟨⟨by omega, by omega, ?_⟩, by omega⟩
  have e4 : d = d / 2 * 2 := by omega
  rw [e3, h.2.2, Int.pow_succ, Int.mul_comm (2 ^ r.toNat) 2, ← Int.mul_assoc, ← e4]
theorem mr_odd {d : Int} (h : 0 < d) (he : Builtin.bitAnd d 1 ≠ 0) : d % 2 = 1 := by
  rw [bitAnd_m1] at he
  omega
theorem lets_of {n k d r B : Int} (hd0 : 0 < d) (hdr : n - 1 = d * 2 ^ r.toNat) (ho : d % 2 = 1) (hB : B = k.fmod (n - 3) + 2) : LetsP n k ↔ Passes n (B ^ d.toNat % n) r.toNat := by
  rw [hB]
  exact lets_iffI (by omega) hdr ho
theorem passes_one {n x : Int} {r : Nat} (h : x = 1) : Passes n x r := .inl h
theorem passes_at {n x : Int} {r : Nat} (k : Nat) (hk : k < max r 1) (h : x ^ (2 ^ k) % n = n - 1) : Passes n x r := .inr ⟨k, hk, h⟩
theorem passes_zero {n y : Int} {r : Nat} (h : y % n = n - 1) : Passes n (y % n) r :=
  .inr ⟨0, by omega, by rw [Nat.pow_zero, Int.pow_one, Int.emod_emod_of_dvd _ (Int.dvd_refl n), h]⟩
theorem not_passes {n x : Int} {r : Nat} (h1 : x ≠ 1) (h : ∀ j, j < max r 1 → x ^ (2 ^ j) % n ≠ n - 1) : ¬ Passes n x r := by
  rintro (h2 | ⟨k, hk, h2⟩)
  · exact h1 h2
  · exact h k hk h2
theorem sq_step {n x : Int} (i : Nat) : (x ^ (2 ^ i) % n) ^ Int.toNat 2 % n = x ^ (2 ^ (i + 1)) % n := by
  rw [int_pow_mod, Nat.pow_succ, Int.pow_mul]
  rfl
theorem not_passes_one {n x : Int} {r i : Nat} (hn : 2 < n) (h1 : x ≠ 1) (h : ∀ j, j ≤ i → x ^ (2 ^ j) % n ≠ n - 1) (hx : x ^ (2 ^ (i + 1)) % n = 1) : ¬ Passes n x r := by
  refine not_passes h1 fun j _ => ?_
  by_cases hj : j ≤ i
  · exact h j hj
  · obtain ⟨t, rfl⟩ : ∃ t, j = (i + 1) + t := ⟨j - (i + 1), by omega⟩
    rw [Nat.pow_add, Int.pow_mul, ← int_pow_mod, hx, Int.one_pow, Int.emod_eq_of_lt (by decide) (by omega)]
    omega
theorem twos_lt {n d r : Int} (hb : n < 2 ^ 2000) (hd : 0 < d) (hr : 0 ≤ r) (h : n - 1 = d * 2 ^ r.toNat) : r < 2000 := by
  have h1 : (2 : Int) ^ r.toNat ≤ n - 1 := by
    have hp : 0 < (2 : Int) ^ r.toNat := Int.pow_pos (by decide)
    rw [h]
    have := Int.mul_le_mul_of_nonneg_right (show (1 : Int) ≤ d by omega) (Int.le_of_lt hp)
    omega
  have h2 : (2 : Int) ^ r.toNat < 2 ^ 2000 := by
    generalize (2 : Int) ^ 2000 = X at hb ⊢
    omega
  have h3 : (2 : Nat) ^ r.toNat < 2 ^ 2000 := by exact_mod_cast h2
  have h4 := (Nat.pow_lt_pow_iff_right (a := 2) (by decide)).mp h3
  omega
theorem big_of {n d r : Int} (hd : 0 < d) (hr : 1 < r) (h : n - 1 = d * 2 ^ r.toNat) : 2 < n := by
  obtain ⟨k, hk⟩ : ∃ k, r.toNat = k + 2 := ⟨r.toNat - 2, by omega⟩
  rw [hk, Int.pow_succ, Int.pow_succ, ← Int.mul_assoc, ← Int.mul_assoc] at h
  have hp : 0 < d * (2 : Int) ^ k := Int.mul_pos hd (Int.pow_pos (by decide))
  omega
theorem all_snoc {P : Int → Prop} {pre : List Int} {k : Int} (h : ∀ dr ∈ pre, P dr) (hk : P k) : ∀ dr ∈ pre ++ [k], P dr := by
  intro dr hdr
  rcases List.mem_append.mp hdr with h1 | h1
  · exact h dr h1
  · rw [List.mem_singleton.mp h1]; exact hk
theorem lets_half {n d r : Int} (h : 0 < d ∧ 0 ≤ r ∧ n - 1 = d * 2 ^ r.toNat) (he : d.fmod 2 ≠ 1) : 0 < d.fdiv 2 ∧ 0 ≤ r + 1 ∧ n - 1 = d.fdiv 2 * 2 ^ (r + 1).toNat := by
  have e : d.fmod 2 = d % 2 := Int.fmod_eq_emod_of_nonneg _ (by decide)
  rw [e] at he
  exact (mr_half h (by rw [bitAnd_m1]; omega)).1
theorem any_passes {n x0 r : Int} (hr : 0 ≤ r) : (((rangeKs 0 ((if 1 > r then 1 else r) - 0).toNat).map fun k => x0 ^ ((2 : Int) ^ k.toNat).toNat % n).any fun x => x == n - 1) = true ↔ ∃ k, k < max r.toNat 1 ∧ x0 ^ (2 ^ k) % n = n - 1 := by
  have hlen : ((if 1 > r then 1 else r) - 0).toNat = max r.toNat 1 := by split <;> omega
  have e2 : ∀ i : Nat, ((2 : Int) ^ ((0 : Int) + (i : Int)).toNat).toNat = 2 ^ i := fun i => by
    have : ((0 : Int) + (i : Int)).toNat = i := by omega
    rw [this]
    have h : ((2 : Int) ^ i) = ((2 ^ i : Nat) : Int) := by simp
    rw [h, Int.toNat_natCast]
  rw [hlen, List.any_map, List.any_eq_true]
  constructor
  · rintro ⟨k, hk, he⟩
    obtain ⟨i, hi, rfl⟩ : ∃ i : Nat, i < max r.toNat 1 ∧ (0 : Int) + (i : Int) = k := by
      unfold rangeKs at hk
      obtain ⟨i, hi, e⟩ := List.mem_map.mp hk
      exact ⟨i, List.mem_range.mp hi, e⟩
    have he' := of_decide_eq_true he
    simp only [Function.comp] at he
    rw [e2 i] at he
    exact ⟨i, hi, by simpa using he⟩
  · rintro ⟨i, hi, he⟩
    refine ⟨(0 : Int) + (i : Int), ?_, ?_⟩
    · unfold rangeKs
      exact List.mem_map.mpr ⟨i, List.mem_range.mpr hi, rfl⟩
    · simp only [Function.comp]
      rw [e2 i, he]
      simp
end
section
theorem newsT {h₀ h : Heap} {L : Addr} {a : Addr × Obj} {r : List (Addr × Obj)} (N : News h₀ L h (a :: r)) : News h₀ L h r := fun p hp => N p (List.mem_cons_of_mem _ hp)
theorem offAbove {d e : Addr} {r : List (Addr × Obj)} (h : ∀ p ∈ r, p.1 < d) (he : @LE.le Nat _ d e) : OwnOff r [e] := by
  intro p hp b hb
  rw [List.mem_singleton.mp hb]
  exact Nat.ne_of_lt (Nat.lt_of_lt_of_le (h p hp) he)
theorem offOneApp {e : Addr} {r r' : List (Addr × Obj)} (h : OwnOff r [e]) (h' : OwnOff r' [e]) : OwnOff (r ++ r') [e] := by
  intro p hp
  rcases List.mem_append.mp hp with hp | hp
  · exact h p hp
  · exact h' p hp
theorem offOne {e : Addr} {r : List (Addr × Obj)} {l : List Addr} (h : OwnOff r l) (h1 : e ∈ l) : OwnOff r [e] := by
  intro p hp b hb
  rw [List.mem_singleton.mp hb]
  exact h p hp _ h1
section
variable {prog : Program} {w : World} {A : Around} {E : Value → Shared → Prop} {s : Shared} {env : Env} {h₀ : Heap} {x : Str} {body : List Stmt} {Q : Flow → Shared → Prop} {σ : Type}
/-- a for over a range, the ledger as it was -/
theorem cr_range {led : List (Addr × Obj)} {r : Addr} {a₀ b₀ : Int} {t₀ u₀ v₀ : Tok} {n : Nat} {m₀ : Str → Option Value} (ps : σ → List (Str × Value)) (stored : List Str) (P : List Int → σ → Prop) (c₀ : σ)
    (hh : A.handled = none) (hr : IsRange s.heap r a₀ b₀ 1 t₀ u₀ v₀) (hsmall : Builtin.Range.small a₀ b₀ 1 = true) (hn : Builtin.Range.rangeSize a₀ b₀ 1 = (n : Int)) (F : Fr h₀ env.locals s.heap m₀) (N : News h₀ env.locals s.heap led) (hk : ∀ p ∈ ps c₀, m₀ p.1 = some p.2) (hp : P [] c₀)
    (turn : ∀ (c : σ) (pre : List Int) (k : Int) t (u : Str → Option Value) h tk own, k = a₀ + (pre.length : Int) → pre.length < n → OwnOff own (led.map (·.1)) → P pre c →
      Fr h₀ env.locals h (fun y => if y = x then some (.int k t) else kstB (fun z => if stored.contains z then u z else m₀ z) (ps c) y) → News h₀ env.locals h (led ++ own) →
      wpAny (model prog w) A (execs body env) (InvPostN h₀ env.locals (KstS (fun _ => led) ps (fun _ => True) x stored m₀ P (pre ++ [k])) own (led.map (·.1)) { s with heap := h, toks := tk } Q) E { s with heap := h, toks := tk })
    (done : ∀ (c : σ) (u : Str → Option Value) h tk, P (rangeKs a₀ n) c → Fr h₀ env.locals h (fun y => if y = x then u y else kstB (fun z => if stored.contains z then u z else m₀ z) (ps c) y) → News h₀ env.locals h led → Q .next { s with heap := h, toks := tk }) :
    wpAny (model prog w) A (pyIter (.ref r)) (fun it s₂ => LoopAtV prog w A h₀ env x body Q E it s₂) E s :=
  kst_range (fun _ => led) ps (fun _ => True) stored P c₀ hh hr hsmall hn F N trivial hk hp (fun c pre k t u h tk own e hl ho _ hP F' N' => turn c pre k t u h tk own e hl ho hP F' N') fun c u h tk _ hP F' N' => done c u h tk hP F' N'
theorem cr_end {led : List (Addr × Obj)} {ps : σ → List (Str × Value)} {stored : List Str} {m₀ m' : Str → Option Value} {P : List Int → σ → Prop} {pre : List Int} {L : Addr} {own news' : List (Addr × Obj)} {s₁ : Shared} {h' : Heap} {tk : Nat} (c : σ)
    (F : Fr h₀ L h' m') (N : News h₀ L h' news') (hn : ∀ p ∈ led, p ∈ news') (ho : ∀ p ∈ own, p ∈ news') (hk : ∀ p ∈ ps c, m' p.1 = some p.2) (hr : ∀ z, z ≠ x → (∀ p ∈ ps c, z ≠ p.1) → stored.contains z = false → m' z = m₀ z) (hp : P pre c) :
    InvEndN h₀ L (KstS (fun _ => led) ps (fun _ => True) x stored m₀ P pre) own (led.map (·.1)) s₁ { s₁ with heap := h', toks := tk } := kst_end c F N hn ho rfl trivial hk hr hp

/-- a for over a list of ints of the ledger, beside a name's cell that the turns store -/
abbrev cellLed (C : Addr) (led : List (Addr × Obj)) (c : σ × Obj) : List (Addr × Obj) := (C, c.2) :: led
abbrev cellFacts (σ : Type) (c : σ × Obj) : Prop := ∃ v, c.2.data = .cell v
theorem cell_listL {led : List (Addr × Obj)} {C : Addr} {o₀ : Obj} {v₀ : Option Value} {l : Addr} {vs : List Value} {ns : List Int} {nn : Nat} {m₀ : Str → Option Value} (ps : σ → List (Str × Value)) (stored : List Str) (P : List Int → σ → Prop) (c₀ : σ)
    (hh : A.handled = none) (hl : (l, listOf vs.toArray nn) ∈ led) (hi : IntsAre vs ns) (F : Fr h₀ env.locals s.heap m₀) (N : News h₀ env.locals s.heap ((C, o₀) :: led)) (hc : o₀.data = .cell v₀) (hk : ∀ p ∈ ps c₀, m₀ p.1 = some p.2) (hp : P [] c₀)
    (turn : ∀ (c : σ) o v pre post n t (u : Str → Option Value) h tk own, ns = pre ++ n :: post → n ∈ ns → OwnOff own (C :: led.map (·.1)) → o.data = .cell v → P pre c →
      Fr h₀ env.locals h (fun y => if y = x then some (.int n t) else kstB (fun z => if stored.contains z then u z else m₀ z) (ps c) y) → News h₀ env.locals h ((C, o) :: (led ++ own)) →
      wpAny (model prog w) A (execs body env) (InvPostN h₀ env.locals (KstS (cellLed C led) (fun c => ps c.1) (cellFacts σ) x stored m₀ (fun pre c => P pre c.1) (pre ++ [n])) own (C :: led.map (·.1)) { s with heap := h, toks := tk } Q) E { s with heap := h, toks := tk })
    (done : ∀ (c : σ) o (u : Str → Option Value) h tk, P ns c → Fr h₀ env.locals h (fun y => if y = x then u y else kstB (fun z => if stored.contains z then u z else m₀ z) (ps c) y) → News h₀ env.locals h ((C, o) :: led) → Q .next { s with heap := h, toks := tk }) :
    wpAny (model prog w) A (pyIter (.ref l)) (fun it s₂ => LoopAtV prog w A h₀ env x body Q E it s₂) E s := by
  refine kst_listL (cellLed C led) (fun c => ps c.1) (cellFacts σ) stored (fun pre c => P pre c.1) (c₀, o₀) hh (fun _ => List.mem_cons_of_mem _ hl) hi F N ⟨_, hc⟩ hk hp ?_ ?_
  · rintro ⟨c, o⟩ pre post n t u h tk own e hm ho ⟨v, hv⟩ hP F' N'
    exact turn c o v pre post n t u h tk own e hm ho hv hP F' N'
  · rintro ⟨c, o⟩ u h tk _ hP F' N'
    exact done c o u h tk hP F' N'
theorem cell_end {led : List (Addr × Obj)} {C : Addr} {o : Obj} {v : Option Value} {ps : σ → List (Str × Value)} {stored : List Str} {m₀ m' : Str → Option Value} {P : List Int → σ → Prop} {pre : List Int} {L : Addr} {own news' : List (Addr × Obj)} {s₁ : Shared} {h' : Heap} {tk : Nat} (c : σ)
    (hv : o.data = .cell v) (F : Fr h₀ L h' m') (N : News h₀ L h' news') (hn : ∀ p ∈ (C, o) :: led, p ∈ news') (ho : ∀ p ∈ own, p ∈ news') (hk : ∀ p ∈ ps c, m' p.1 = some p.2) (hr : ∀ z, z ≠ x → (∀ p ∈ ps c, z ≠ p.1) → stored.contains z = false → m' z = m₀ z) (hp : P pre c) :
    InvEndN h₀ L (KstS (cellLed C led) (fun c => ps c.1) (cellFacts σ) x stored m₀ (fun pre c => P pre c.1) pre) own (C :: led.map (·.1)) s₁ { s₁ with heap := h', toks := tk } := kst_end (c, o) F N hn ho rfl ⟨_, hv⟩ hk hr hp
end
section
variable {prog : Program} {w : World} {A : Around} {E : Value → Shared → Prop} {s : Shared} {env : Env} {h₀ : Heap} {x : Str} {body : List Stmt} {Q : Flow → Shared → Prop} {σ : Type}
/-- a for over a list of ints of the ledger, the ledger as it was -/
theorem cr_listL {led : List (Addr × Obj)} {l : Addr} {vs : List Value} {ns : List Int} {nn : Nat} {m₀ : Str → Option Value} (ps : σ → List (Str × Value)) (stored : List Str) (P : List Int → σ → Prop) (c₀ : σ)
    (hh : A.handled = none) (hl : (l, listOf vs.toArray nn) ∈ led) (hi : IntsAre vs ns) (F : Fr h₀ env.locals s.heap m₀) (N : News h₀ env.locals s.heap led) (hk : ∀ p ∈ ps c₀, m₀ p.1 = some p.2) (hp : P [] c₀)
    (turn : ∀ (c : σ) pre post n t (u : Str → Option Value) h tk own, ns = pre ++ n :: post → n ∈ ns → OwnOff own (led.map (·.1)) → P pre c →
      Fr h₀ env.locals h (fun y => if y = x then some (.int n t) else kstB (fun z => if stored.contains z then u z else m₀ z) (ps c) y) → News h₀ env.locals h (led ++ own) →
      wpAny (model prog w) A (execs body env) (InvPostN h₀ env.locals (KstS (fun _ => led) ps (fun _ => True) x stored m₀ P (pre ++ [n])) own (led.map (·.1)) { s with heap := h, toks := tk } Q) E { s with heap := h, toks := tk })
    (done : ∀ (c : σ) (u : Str → Option Value) h tk, P ns c → Fr h₀ env.locals h (fun y => if y = x then u y else kstB (fun z => if stored.contains z then u z else m₀ z) (ps c) y) → News h₀ env.locals h led → Q .next { s with heap := h, toks := tk }) :
    wpAny (model prog w) A (pyIter (.ref l)) (fun it s₂ => LoopAtV prog w A h₀ env x body Q E it s₂) E s :=
  kst_listL (fun _ => led) ps (fun _ => True) stored P c₀ hh (fun _ => hl) hi F N trivial hk hp (fun c pre post n t u h tk own e hm ho _ hP F' N' => turn c pre post n t u h tk own e hm ho hP F' N') fun c u h tk _ hP F' N' => done c u h tk hP F' N'
end
end
section
section
variable {prog : Program} {w : World} {A : Around} {E : Value → Shared → Prop} {s : Shared} {env : Env} {h₀ : Heap} {x : Str} {px : Pos} {body orelse : List Stmt} {Q : Flow → Shared → Prop}
/-- where a turn of the loop below may end -/
def CfPost (h₀ : Heap) (L : Addr) (m : Str → Option Value) (C : Addr) (need : List (Addr × Obj)) (s₁ : Shared) (Q : Flow → Shared → Prop) (f : Flow) (s₂ : Shared) : Prop :=
  match f with
  | .ret v => Q (.ret v) s₂
  | .brk => Q .next s₂
  | _ => ∃ h' tk o v, s₂ = { s₁ with heap := h', toks := tk } ∧ Fr h₀ L h' m ∧ News h₀ L h' ((C, o) :: need) ∧ o.data = .cell v

/-- a for over a range whose name is a cell; a turn changes that cell alone -/
theorem cf_range {r C : Addr} {a₀ b₀ : Int} {t₀ u₀ v₀ : Tok} {n : Nat} {m : Str → Option Value} {o₀ : Obj} {c₀ : Option Value} {led : List (Addr × Obj)}
    (hx : env.kindOf x = some .cell) (hkd : env.scope.kind = .function) (hc : env.cells.lookup x = some C)
    (hh : A.handled = none) (hr : IsRange s.heap r a₀ b₀ 1 t₀ u₀ v₀) (hsmall : Builtin.Range.small a₀ b₀ 1 = true) (hn : Builtin.Range.rangeSize a₀ b₀ 1 = (n : Int))
    (F : Fr h₀ env.locals s.heap m) (N : News h₀ env.locals s.heap ((C, o₀) :: led)) (hv : o₀.data = .cell c₀) (hoff : ∀ p ∈ led, p.1 ≠ C)
    (turn : ∀ (i : Nat) (k : Int) t o h tk own, i < n → k = a₀ + (i : Int) → o.data = .cell (some (.int k t)) → OwnOff own (C :: led.map (·.1)) → Fr h₀ env.locals h m → News h₀ env.locals h ((C, o) :: (led ++ own)) →
      wpAny (model prog w) A (execs body env) (CfPost h₀ env.locals m C (led ++ own) { s with heap := h, toks := tk } Q) E { s with heap := h, toks := tk })
    (done : ∀ o v h tk, o.data = .cell v → Fr h₀ env.locals h m → News h₀ env.locals h ((C, o) :: led) → wpAny (model prog w) A (execs orelse env) Q E { s with heap := h, toks := tk })
    (hE : PassesOwn (model prog w) A env E := by passes_own) :
    wpAny (model prog w) A (pyIter (.ref r)) (fun it s₂ => codeAny (model prog w) A (.forLoop (.Name x px) it body orelse env) (fun r s' => match r with | .ok f => Q f s' | .error e => cameBackBy (model prog w) A env E e s') s₂) E s := by
  refine wpAny_pyIter_range hr hsmall ?_
  have W := Walks.range (prog := prog) (w := w) hh s.heap.objs.size a₀ 1 n
  have hI₀ : h₀.get? s.heap.objs.size = none := next_is_new F
  have hL : env.locals ≠ s.heap.objs.size := Nat.ne_of_lt F.ns.lt
  have hCm := N (C, o₀) List.mem_cons_self
  have hCI : C ≠ s.heap.objs.size := Nat.ne_of_lt (Heap.lt_size hCm.1)
  have hlI : ∀ p ∈ led, p.1 ≠ s.heap.objs.size := fun p hp => Nat.ne_of_lt (Heap.lt_size (N p (List.mem_cons_of_mem _ hp)).1)
  refine codeAny_forLoop (fun k s' => ∃ h tk i o v, s' = { s with heap := h, toks := tk } ∧ i ≤ n ∧ k = n + 1 - i ∧ IsRangeIter h s.heap.objs.size (a₀ + (i : Nat) * 1) ((n : Int) - (i : Nat)) 1 ∧
    Fr h₀ env.locals h m ∧ News h₀ env.locals h ((C, o) :: led) ∧ o.data = .cell v) ?_ (n + 1)
    ⟨_, _, 0, o₀, c₀, rfl, Nat.zero_le _, rfl, by show IsRangeIter _ _ _ _ _; rw [hn]; simpa using Heap.get?_push_size _ rfl, F.push _, fun p hp => ⟨Heap.get?_push_of_some _ (N p hp).1, (N p hp).2⟩, hv⟩
  rintro k s' ⟨h, tk, i, o, v, rfl, hi, rfl, hst, F', N', hov⟩
  have keeps : ∀ h₁ : Heap, (∀ b o, b ∉ [s.heap.objs.size] → h.get? b = some o → h₁.get? b = some o) → Fr h₀ env.locals h₁ m ∧ News h₀ env.locals h₁ ((C, o) :: led) := fun h₁ hk =>
    ⟨⟨F'.ns.at' fun o e => hk _ o (by simpa using hL) e, fun b o e => hk b o (fun hm => by rw [List.mem_singleton.mp hm, hI₀] at e; cases e) (F'.keep b o e), F'.above⟩,
      fun p hp => ⟨hk _ _ (by
        rcases List.mem_cons.mp hp with rfl | hp
        · simpa using hCI
        · simpa using hlI p hp) (N' p hp).1, (N' p hp).2⟩⟩
  by_cases hlt : i < n
  · refine W.item i _ _ _ hlt hst fun v h₁ tk₁ hvp st₁ hk₁ => ?_
    obtain ⟨F₁, N₁⟩ := keeps h₁ hk₁
    obtain ⟨t, rfl⟩ := hvp
    have hC1 := N₁ (C, o) List.mem_cons_self
    refine wpAny_assign_Name (wpAny_storeName_cell hkd hx hc ⟨o, hC1.1, hov⟩ fun h₂ hn₂ hs₂ => ?_)
    obtain ⟨o₂, ho₂, hd₂⟩ := hn₂
    have e1 : a₀ + (i : Int) * 1 = a₀ + (i : Int) := by omega
    rw [e1] at hd₂
    have F₂ : Fr h₀ env.locals h₂ m := ⟨F₁.ns.sameBut hs₂ (Ne.symm hC1.2.1), fun b ob e => (hs₂.2 b fun q => by rw [q, hC1.2.2] at e; cases e).trans (F₁.keep b ob e), F₁.above⟩
    have st₂ : IsRangeIter h₂ s.heap.objs.size (a₀ + ((i + 1 : Nat) : Int) * 1) ((n : Int) - ((i + 1 : Nat) : Int)) 1 := W.frame _ _ _ st₁ fun b hb o e => (hs₂.2 b fun q => hCI (by rw [← q]; exact List.mem_singleton.mp hb)).trans e
    obtain ⟨oI, hg, hback⟩ : ∃ o, h₂.get? s.heap.objs.size = some o ∧ ∀ h' : Heap, h'.get? s.heap.objs.size = some o → IsRangeIter h' s.heap.objs.size (a₀ + ((i + 1 : Nat) : Int) * 1) ((n : Int) - ((i + 1 : Nat) : Int)) 1 := ⟨_, st₂, fun _ e => e⟩
    have N₂ : News h₀ env.locals h₂ ((C, o₂) :: (led ++ [(s.heap.objs.size, oI)])) := fun p hp => by
      rcases List.mem_cons.mp hp with rfl | hp
      · exact ⟨ho₂, hC1.2⟩
      · rcases List.mem_append.mp hp with hp | hp
        · have z := N₁ p (List.mem_cons_of_mem _ hp)
          exact ⟨(hs₂.2 p.1 (hoff p hp)).trans z.1, z.2⟩
        · rw [List.mem_singleton.mp hp]
          exact ⟨hg, Ne.symm hL, hI₀⟩
    have hown : OwnOff [(s.heap.objs.size, oI)] (C :: led.map (·.1)) := fun p hp b hb => by
      rw [List.mem_singleton.mp hp]
      rcases List.mem_cons.mp hb with rfl | hb
      · exact Ne.symm hCI
      · obtain ⟨q, hq, rfl⟩ := List.mem_map.mp hb
        exact Ne.symm (hlI q hq)
    refine wpAny_mono (wpAny_passesOwn hE (turn i _ t o₂ h₂ _ _ hlt rfl hd₂ hown F₂ N₂)) (fun f s₃ h₃ => ?_) fun _ _ e => e
    have fin : ∀ s₃ : Shared, (∃ h' tk' o v, s₃ = { s with heap := h', toks := tk' } ∧ Fr h₀ env.locals h' m ∧ News h₀ env.locals h' ((C, o) :: (led ++ [(s.heap.objs.size, oI)])) ∧ o.data = .cell v) →
        ∃ k, k < n + 1 - i ∧ ∃ h tk i o v, s₃ = { s with heap := h, toks := tk } ∧ i ≤ n ∧ k = n + 1 - i ∧ IsRangeIter h s.heap.objs.size (a₀ + (i : Nat) * 1) ((n : Int) - (i : Nat)) 1 ∧ Fr h₀ env.locals h m ∧ News h₀ env.locals h ((C, o) :: led) ∧ o.data = .cell v := by
      rintro s₃ ⟨h₄, tk₄, o₄, v₄, rfl, F₄, N₄, hd₄⟩
      refine ⟨n + 1 - (i + 1), by omega, h₄, tk₄, i + 1, o₄, v₄, rfl, hlt, rfl, hback h₄ (N₄ _ (List.mem_cons_of_mem _ (List.mem_append.mpr (.inr List.mem_cons_self)))).1, F₄, fun p hp => N₄ p ?_, hd₄⟩
      rcases List.mem_cons.mp hp with rfl | hp
      · exact List.mem_cons_self
      · exact List.mem_cons_of_mem _ (List.mem_append.mpr (.inl hp))
    cases f with
    | ret v => exact h₃
    | brk => exact h₃
    | next => exact fin _ h₃
    | cont => exact fin _ h₃
  · obtain rfl : i = n := by omega
    refine W.done _ _ _ hst fun h₁ tk₁ hk₁ => ?_
    obtain ⟨F₁, N₁⟩ := keeps h₁ hk₁
    exact wpAny_passesOwn hE (done o v h₁ tk₁ hov F₁ N₁)
end
section
variable {prog : Program} {w : World} {A : Around} {h₀ : Heap} {L : Addr} {m : Str → Option Value} {env : Env} {ct elt : Expr} {x : Str} {scope : Scope} {cl : List (Str × Addr)} {s : Shared} {Fin : List Value → List (Addr × Obj) → Prop} {news : List (Addr × Obj)}
theorem bools_snoc {ys : List Value} {bs : List Bool} (h : LSm.BoolsAre ys bs) (b : Bool) : LSm.BoolsAre (ys ++ [.bool b]) (bs ++ [b]) := by
  induction h with
  | nil => exact .cons b .nil
  | cons c _ ih => exact .cons c ih
/-- a comprehension over a range, with a test, whose items are bools -/
theorem bt_range {n : Nat} {a : Int} (R : Nat → List Bool → Prop)
    (turn : ∀ (i : Nat) (k : Int) t I oI C oC D m₂ ys bs h tk (E' : Value → Shared → Prop), k = a + (i : Int) → i < n → R i bs → LCg.NsObj oC m₂ → m₂ x = some (.int k t) → Fr h₀ L h m → News h₀ L h ((I, oI) :: (C, oC) :: (D, LCg.lst ys) :: news) → LCg.Off3 I C D news → ((@Ne Nat I C) ∧ (@Ne Nat I D) ∧ (@Ne Nat C D)) →
      wpAny (model prog w) A (isTrue ct (compEnvC scope cl C env) (eval ct (compEnvC scope cl C env))) (fun b s' => if b = true then wpAny (model prog w) A (eval elt (compEnvC scope cl C env)) (LCg.CompEnd h₀ L m { s with heap := h, toks := tk } I oI C oC D (LCg.lst ys) (fun _ => True) (fun y news' => news' = news ∧ ∃ b, y = .bool b ∧ R (i + 1) (bs ++ [b]))) E' s'
        else LCg.CompEnd h₀ L m { s with heap := h, toks := tk } I oI C oC D (LCg.lst ys) (fun _ => True) (fun _ news' => news' = news ∧ R (i + 1) bs) Value.none s') E' { s with heap := h, toks := tk })
    (fin : ∀ ys bs, LSm.BoolsAre ys bs → R n bs → Fin ys news) (h0 : R 0 []) : LCt.CompRestT prog w A h₀ L m env ct elt x scope cl s (fun _ => True) (fun i v => ∃ t, v = .int (a + (i : Int)) t) Fin n 0 [] news := by
  have key : ∀ (j i : Nat) (ys : List Value) (bs : List Bool), i + j = n → LSm.BoolsAre ys bs → R i bs → LCt.CompRestT prog w A h₀ L m env ct elt x scope cl s (fun _ => True) (fun i v => ∃ t, v = .int (a + (i : Int)) t) Fin j i ys news := by
    intro j
    induction j with
    | zero =>
      intro i ys bs hi hy hR
      obtain rfl : i = n := by omega
      exact LCt.CompRestT.zero (fin ys bs hy hR)
    | succ j ih =>
      intro i ys bs hi hy hR
      refine LCt.CompRestT.succ ?_
      rintro v I oI C oC D m₂ h tk E' ⟨t, rfl⟩ hC hx F N off ne
      refine wpAny_mono (turn i _ t I oI C oC D m₂ ys bs h tk E' rfl (by omega) hR hC hx F N off ne) (fun b s₂ hq => ?_) fun _ _ e => e
      cases b with
      | true =>
        simp only [if_true] at hq ⊢
        refine wpAny_mono hq (fun y s₃ hr => ?_) fun _ _ e => e
        obtain ⟨h', tk', nw, e, F', N', off', hS, hn, b, hy', hR'⟩ := hr
        rw [hn] at N' off'
        refine ⟨h', tk', news, e, F', N', off', hS, ?_⟩
        rw [hy']
        exact ih (i + 1) _ _ (by omega) (bools_snoc hy b) hR'
      | false =>
        simp only [Bool.false_eq_true, if_false] at hq ⊢
        obtain ⟨h', tk', nw, e, F', N', off', hS, hn, hR'⟩ := hq
        rw [hn] at N' off'
        exact ⟨h', tk', news, e, F', N', off', hS, ih (i + 1) _ _ (by omega) hy hR'⟩
  exact key n 0 [] [] (by omega) .nil h0
end
theorem nrot2 {h₀ h : Heap} {L : Addr} {a b c : Addr × Obj} {r : List (Addr × Obj)} (N : News h₀ L h (a :: b :: c :: r)) : News h₀ L h (c :: a :: b :: r) :=
  fun p hp => N p (by simp only [List.mem_cons] at hp ⊢; grind)
theorem nrot3 {h₀ h : Heap} {L : Addr} {a b c d : Addr × Obj} {r : List (Addr × Obj)} (N : News h₀ L h (a :: b :: c :: d :: r)) : News h₀ L h (d :: a :: b :: c :: r) :=
  fun p hp => N p (by simp only [List.mem_cons] at hp ⊢; grind)
theorem nApp {h₀ h : Heap} {L : Addr} {a b : Addr × Obj} {r o : List (Addr × Obj)} (N : News h₀ L h (a :: b :: (r ++ o))) : News h₀ L h (a :: b :: r) :=
  fun p hp => N p (by simp only [List.mem_cons, List.mem_append] at hp ⊢; grind)
theorem allLt_lt {d : Addr} : ∀ {l : List (Addr × Obj)}, AllLt d l → ∀ p ∈ l, p.1 < d
  | [], _, _, hp => nomatch hp
  | q :: r, h, p, hp => by
    rcases List.mem_cons.mp hp with rfl | hp
    · exact h.1
    · exact allLt_lt h.2 p hp
theorem allLt_ne1 {d e : Addr} {l : List (Addr × Obj)} (h : AllLt d l) (he : @LE.le Nat _ d e) : ∀ p ∈ l, p.1 ≠ e := fun p hp => Nat.ne_of_lt (Nat.lt_of_lt_of_le (allLt_lt h p hp) he)
end
section
/-- a prime: from 2 on, its divisors are 1 and itself -/
def IsPrime (p : Nat) : Prop := 2 ≤ p ∧ ∀ d : Nat, d ∣ p → d = 1 ∨ d = p
abbrev PrimeI (x : Int) : Prop := IsPrime x.toNat

/-- what has no divisor from 2 on up to its root is a prime -/
theorem prime_of_root {p : Nat} (h2 : 2 ≤ p) (h : ∀ d : Nat, 2 ≤ d → d * d ≤ p → ¬ d ∣ p) : IsPrime p := by
  refine ⟨h2, fun d hd => ?_⟩
  obtain ⟨e, rfl⟩ := hd
  by_cases h1 : d = 1
  · exact .inl h1
  by_cases h3 : e = 1
  · exact .inr (by rw [h3, Nat.mul_one])
  have hd0 : d ≠ 0 := by rintro rfl; omega
  have he0 : e ≠ 0 := by rintro rfl; omega
  by_cases hde : d ≤ e
  · exact absurd (Nat.dvd_mul_right d e) (h d (by omega) (Nat.mul_le_mul_left d hde))
  · exact absurd (Nat.dvd_mul_left e d) (h e (by omega) (Nat.mul_le_mul_right e (by omega)))
theorem prime_trial {x : Int} (h3 : 3 ≤ x) (hx : x < 3600) (h : ∀ k : Int, 2 ≤ k → k < 60 → k * k ≤ x → 0 < x.fmod k) : PrimeI x := by
  obtain ⟨n, rfl⟩ : ∃ n : Nat, x = (n : Int) := ⟨x.toNat, by omega⟩
  show IsPrime ((n : Int).toNat)
  rw [Int.toNat_natCast]
  refine prime_of_root (by omega) fun d hd hdd hdvd => ?_
  have h60 : d < 60 := by
    refine Nat.lt_of_not_le fun hge => ?_
    have := Nat.mul_le_mul hge hge
    omega
  have := h (d : Int) (by omega) (by omega) (by exact_mod_cast hdd)
  rw [Int.fmod_eq_emod_of_nonneg _ (by omega)] at this
  have h0 : (n : Int) % (d : Int) = 0 := Int.emod_eq_zero_of_dvd (Int.natCast_dvd_natCast.mpr hdvd)
  omega
/-- a prime by trial of all d up to a root, for the kernel -/
def noDiv (n : Nat) : Nat → Bool
  | 0 => true
  | k + 1 => (n % (k + 2) != 0) && noDiv n k
theorem noDiv_spec {n : Nat} : ∀ {k : Nat}, noDiv n k = true → ∀ d, 2 ≤ d → d < k + 2 → ¬ d ∣ n
  | 0, _, d, h2, hk => by omega
  | k + 1, h, d, h2, hk => by
    unfold noDiv at h
    rw [Bool.and_eq_true] at h
    by_cases hd : d = k + 2
    · intro hdvd
      have := Nat.mod_eq_zero_of_dvd hdvd
      rw [hd] at this
      simp [this] at h
    · exact noDiv_spec h.2 d h2 (by omega)
theorem prime_noDiv {n : Nat} (k : Nat) (h2 : 2 ≤ n) (hk : n < (k + 2) * (k + 2)) (h : noDiv n k = true) : IsPrime n := by
  refine prime_of_root h2 fun d hd hdd => noDiv_spec h d hd ?_
  refine Nat.lt_of_not_le fun hge => ?_
  have := Nat.mul_le_mul hge hge
  omega

/-- a number from 2 on has a prime divisor; if it is no prime, one up to its root -/
theorem least_div {n : Nat} (h2 : 2 ≤ n) (hn : ¬ IsPrime n) : ∃ p, IsPrime p ∧ p ∣ n ∧ p * p ≤ n := by
  have ex : ∃ d, 2 ≤ d ∧ d * d ≤ n ∧ d ∣ n := by
    refine Classical.byContradiction fun hno => hn (prime_of_root h2 fun d h1 h3 h4 => hno ⟨d, h1, h3, h4⟩)
  have key : ∀ k d, d < k → 2 ≤ d → d * d ≤ n → d ∣ n → ∃ p, IsPrime p ∧ p ∣ n ∧ p * p ≤ n := by
    intro k
    induction k with
    | zero => intro d h; omega
    | succ k ih =>
      intro d hk h1 h3 h4
      by_cases hp : IsPrime d
      · exact ⟨d, hp, h4, h3⟩
      · have ex2 : ∃ e, 2 ≤ e ∧ e * e ≤ d ∧ e ∣ d := by
          refine Classical.byContradiction fun hno => hp (prime_of_root h1 fun e h5 h6 h7 => hno ⟨e, h5, h6, h7⟩)
        obtain ⟨e, h5, h6, h7⟩ := ex2
        have hed : e < d := by
          have := Nat.mul_le_mul_right e h5
          omega
        exact ih e (by omega) h5 (Nat.le_trans (Nat.mul_le_mul (Nat.le_of_lt hed) (Nat.le_of_lt hed)) h3) (Nat.dvd_trans h7 h4)
  obtain ⟨d, h1, h3, h4⟩ := ex
  exact key (d + 1) d (Nat.lt_succ_self _) h1 h3 h4

theorem IsPrime.coprime {p a : Nat} (hp : IsPrime p) (h : ¬ p ∣ a) : Nat.Coprime p a := by
  rcases hp.2 (Nat.gcd p a) (Nat.gcd_dvd_left p a) with h1 | h1
  · exact h1
  · exact absurd (h1 ▸ Nat.gcd_dvd_right p a) h
theorem IsPrime.dvd_mul {p a b : Nat} (hp : IsPrime p) (h : p ∣ a * b) : p ∣ a ∨ p ∣ b := by
  by_cases ha : p ∣ a
  · exact .inl ha
  · exact .inr ((hp.coprime ha).dvd_of_dvd_mul_left h)

/-- a list without repetition within another of the same length is that list, in another order -/
theorem perm_of_sub {α : Type} [DecidableEq α] : ∀ {l₁ l₂ : List α}, l₁.Nodup → (∀ x ∈ l₁, x ∈ l₂) → l₁.length = l₂.length → l₁.Perm l₂
  | [], l₂, _, _, h => by
    have : l₂ = [] := List.length_eq_zero_iff.mp h.symm
    rw [this]
  | a :: t, l₂, hn, hs, hl => by
    have ha := hs a List.mem_cons_self
    have hp := List.perm_cons_erase ha
    have hn' := List.nodup_cons.mp hn
    refine List.Perm.trans (List.Perm.cons a (perm_of_sub hn'.2 (fun x hx => ?_) ?_)) hp.symm
    · have hne : x ≠ a := fun e => hn'.1 (e ▸ hx)
      exact (List.mem_erase_of_ne hne).mpr (hs x (List.mem_cons_of_mem _ hx))
    · have := hp.length_eq
      simp only [List.length_cons] at this hl
      omega
def prod : List Nat → Nat
  | [] => 1
  | a :: r => a * prod r
theorem prod_perm {l₁ l₂ : List Nat} (h : l₁.Perm l₂) : prod l₁ = prod l₂ := by
  induction h with
  | nil => rfl
  | cons x _ ih => simp only [prod, ih]
  | swap x y l => simp only [prod]; rw [← Nat.mul_assoc, ← Nat.mul_assoc, Nat.mul_comm y x]
  | trans _ _ ih1 ih2 => exact ih1.trans ih2
theorem prod_scale (a p : Nat) : ∀ l : List Nat, prod (l.map fun x => a * x % p) % p = a ^ l.length * prod l % p
  | [] => by simp [prod]
  | x :: r => by
    simp only [List.map_cons, prod, List.length_cons]
    rw [Nat.mul_mod, prod_scale a p r, ← Nat.mul_mod, Nat.mod_mul_mod, Nat.pow_succ]
    congr 1
    simp only [Nat.mul_assoc, Nat.mul_comm, Nat.mul_left_comm]
theorem prod_coprime {p : Nat} (hp : IsPrime p) : ∀ {l : List Nat}, (∀ x ∈ l, ¬ p ∣ x) → ¬ p ∣ prod l
  | [], _ => fun h => by
    have := Nat.le_of_dvd (by decide) h
    have := hp.1
    simp only [prod] at *
    omega
  | x :: r, h => fun hd => by
    rcases hp.dvd_mul hd with h1 | h1
    · exact h x List.mem_cons_self h1
    · exact prod_coprime hp (fun y hy => h y (List.mem_cons_of_mem _ hy)) h1
theorem dvd_sub_of {p a b : Nat} (h : a % p = b % p) : p ∣ b - a := Nat.dvd_of_mod_eq_zero (Nat.sub_mod_eq_zero_of_mod_eq h.symm)
theorem mod_of_dvd_sub {p a b : Nat} (hle : a ≤ b) (h : p ∣ b - a) : a % p = b % p := by
  obtain ⟨c, hc⟩ := h
  have : b = a + p * c := by omega
  rw [this, Nat.add_mul_mod_self_left]
/-- Fermat -/
theorem fermat {p a : Nat} (hp : IsPrime p) (ha : ¬ p ∣ a) : a ^ (p - 1) % p = 1 := by
  have h2 := hp.1
  let l := (List.range (p - 1)).map (· + 1)
  have hl : l.length = p - 1 := by simp [l]
  have hmem : ∀ x, x ∈ l ↔ 1 ≤ x ∧ x < p := by
    intro x
    simp only [l, List.mem_map, List.mem_range]
    constructor
    · rintro ⟨i, hi, rfl⟩; omega
    · rintro ⟨h1, h3⟩; exact ⟨x - 1, by omega, by omega⟩
  have hnd : l.Nodup := by
    refine List.Pairwise.map _ (fun a b h => ?_) (List.nodup_range)
    omega
  have hno : ∀ x ∈ l, ¬ p ∣ x := fun x hx hd => by
    have h1 := (hmem x).mp hx
    have := Nat.le_of_dvd (by omega) hd
    omega
  have hperm : (l.map fun x => a * x % p).Perm l := by
    refine perm_of_sub ?_ (fun y hy => ?_) (by rw [List.length_map])
    · refine List.pairwise_map.mpr (hnd.imp_of_mem fun {x y} hx hy hne he => hne ?_)
      have hx1 := (hmem x).mp hx
      have hy1 := (hmem y).mp hy
      have key : ∀ {x y : Nat}, 1 ≤ x → x < p → y < p → x ≤ y → a * x % p = a * y % p → x = y := by
        intro x y h1 h3 h4 hle he
        have hd : p ∣ a * y - a * x := dvd_sub_of he
        rw [← Nat.mul_sub] at hd
        rcases hp.dvd_mul hd with h5 | h5
        · exact absurd h5 ha
        · by_cases h6 : y - x = 0
          · omega
          · have := Nat.le_of_dvd (by omega) h5
            omega
      rcases Nat.le_total x y with h | h
      · exact key hx1.1 hx1.2 hy1.2 h he
      · exact (key hy1.1 hy1.2 hx1.2 h he.symm).symm
    · obtain ⟨x, hx, rfl⟩ := List.mem_map.mp hy
      refine (hmem _).mpr ⟨?_, Nat.mod_lt _ (by omega)⟩
      refine Nat.pos_of_ne_zero fun h0 => ?_
      rcases hp.dvd_mul (Nat.dvd_of_mod_eq_zero h0) with h5 | h5
      · exact ha h5
      · exact hno x hx h5
  have h1 := prod_scale a p l
  rw [prod_perm hperm, hl] at h1
  have hle : prod l ≤ a ^ (p - 1) * prod l := by
    have : 0 < a ^ (p - 1) := Nat.pow_pos (Nat.pos_of_ne_zero fun h0 => ha (h0 ▸ Nat.dvd_zero p))
    exact Nat.le_mul_of_pos_left _ this
  have hd : p ∣ a ^ (p - 1) * prod l - prod l := dvd_sub_of h1
  have e : a ^ (p - 1) * prod l - prod l = (a ^ (p - 1) - 1) * prod l := by rw [Nat.sub_mul, Nat.one_mul]
  rw [e] at hd
  rcases hp.dvd_mul hd with h5 | h5
  · have hpos : 1 ≤ a ^ (p - 1) := Nat.pow_pos (Nat.pos_of_ne_zero fun h0 => ha (h0 ▸ Nat.dvd_zero p))
    have := mod_of_dvd_sub hpos h5
    have h6 : 1 % p = a ^ (p - 1) % p := this
    rw [← h6, Nat.mod_eq_of_lt (by omega)]
  · exact absurd h5 (prod_coprime hp hno)
theorem bt_yes {i : Nat} {bs : List Bool} {x k₂ : Int} {b : Bool} (hk : k₂ = 2 + (i : Int)) (hR : bs.all id = true → ∀ k : Int, 2 ≤ k → k < 2 + (i : Int) → k * k ≤ x → 0 < x.fmod k) (hb : b = true → 0 < x.fmod k₂) :
    (bs ++ [b]).all id = true → ∀ k : Int, 2 ≤ k → k < 2 + ((i + 1 : Nat) : Int) → k * k ≤ x → 0 < x.fmod k := by
  intro hall k h2 hlt hkk
  rw [List.all_append, Bool.and_eq_true] at hall
  by_cases hki : k < 2 + (i : Int)
  · exact hR hall.1 k h2 hki hkk
  · rw [show k = k₂ by omega]
    exact hb (by simpa using hall.2)
theorem bt_no {i : Nat} {bs : List Bool} {x k₂ : Int} (hk : k₂ = 2 + (i : Int)) (hR : bs.all id = true → ∀ k : Int, 2 ≤ k → k < 2 + (i : Int) → k * k ≤ x → 0 < x.fmod k) (hb : ¬ k₂ * k₂ ≤ x) :
    bs.all id = true → ∀ k : Int, 2 ≤ k → k < 2 + ((i + 1 : Nat) : Int) → k * k ≤ x → 0 < x.fmod k := by
  intro hall k h2 hlt hkk
  by_cases hki : k < 2 + (i : Int)
  · exact hR hall k h2 hki hkk
  · rw [show k = k₂ by omega] at hkk
    exact absurd hkk hb
end
section
theorem root_one {p y : Nat} (hp : IsPrime p) (hy : y < p) (h : y * y % p = 1) : y = 1 ∨ y = p - 1 := by
  have h2 := hp.1
  have hy0 : y ≠ 0 := by
    rintro rfl
    simp at h
  obtain ⟨z, rfl⟩ : ∃ z, y = z + 1 := ⟨y - 1, by omega⟩
  have hd : p ∣ (z + 1) * (z + 1) - 1 := dvd_sub_of (by rw [h, Nat.mod_eq_of_lt (by omega)])
  have e : (z + 1) * (z + 1) - 1 = z * (z + 2) := by
    have : (z + 1) * (z + 1) = z * (z + 2) + 1 := by
      simp only [Nat.add_mul, Nat.mul_add, Nat.mul_one, Nat.one_mul]; omega
    omega
  rw [e] at hd
  rcases hp.dvd_mul hd with h5 | h5
  · by_cases hz : z = 0
    · exact .inl (by omega)
    · have := Nat.le_of_dvd (by omega) h5
      omega
  · have := Nat.le_of_dvd (by omega) h5
    exact .inr (by omega)
theorem descend {p A d : Nat} (hp : IsPrime p) : ∀ i, A ^ (d * 2 ^ i) % p = 1 → A ^ d % p = 1 ∨ ∃ k, k < i ∧ A ^ (d * 2 ^ k) % p = p - 1
  | 0, h => .inl (by simpa using h)
  | i + 1, h => by
    have e : A ^ (d * 2 ^ (i + 1)) % p = (A ^ (d * 2 ^ i) % p) * (A ^ (d * 2 ^ i) % p) % p := by
      rw [Nat.pow_succ, ← Nat.mul_assoc, Nat.mul_two, Nat.pow_add, Nat.mul_mod]
    rw [e] at h
    rcases root_one hp (Nat.mod_lt _ (by have := hp.1; omega)) h with h1 | h1
    · rcases descend hp i h1 with h3 | ⟨k, hk, h3⟩
      · exact .inl h3
      · exact .inr ⟨k, by omega, h3⟩
    · exact .inr ⟨i, by omega, h1⟩
/-- a prime is let through by every base -/
theorem lets_prime {n : Int} (hp : PrimeI n) (h4 : 4 ≤ n) (dr : Int) : LetsP n dr := by
  intro d r hdr _
  obtain ⟨p, rfl⟩ : ∃ p : Nat, n = (p : Int) := ⟨n.toNat, by omega⟩
  have hp' : IsPrime p := by simpa [PrimeI] using hp
  have hlo : 0 ≤ dr.fmod ((p : Int) - 3) := Int.fmod_nonneg_of_pos _ (by omega)
  have hhi : dr.fmod ((p : Int) - 3) < (p : Int) - 3 := Int.fmod_lt_of_pos _ (by omega)
  obtain ⟨A, hA⟩ : ∃ A : Nat, dr.fmod ((p : Int) - 3) + 2 = (A : Int) := ⟨(dr.fmod ((p : Int) - 3) + 2).toNat, by omega⟩
  rw [hA]
  have hno : ¬ p ∣ A := fun hd => by
    have := Nat.le_of_dvd (by omega) hd
    omega
  have hf := fermat hp' hno
  have e : p - 1 = d * 2 ^ r := by
    have : ((p - 1 : Nat) : Int) = ((d * 2 ^ r : Nat) : Int) := by
      rw [Int.natCast_mul, Int.natCast_pow, Int.natCast_sub (by omega)]
      simpa using hdr
    exact_mod_cast this
  rw [e] at hf
  have cast : ∀ k : Nat, ((A : Int) ^ d % (p : Int)) ^ (2 ^ k) % (p : Int) = ((A ^ (d * 2 ^ k) % p : Nat) : Int) := fun k => by
    rw [int_pow_mod, ← Int.pow_mul, Int.natCast_emod, Int.natCast_pow]
  rcases descend hp' r hf with h1 | ⟨k, hk, h1⟩
  · refine .inl ?_
    have : ((A ^ d % p : Nat) : Int) = 1 := by rw [h1]; rfl
    rw [← this, Int.natCast_emod, Int.natCast_pow]
  · refine .inr ⟨k, by omega, ?_⟩
    rw [cast k, h1]
    omega

/-- the power's rest by squares, for the kernel -/
def pwm (m : Nat) : Nat → Nat → Nat → Nat
  | 0, _, _ => 1 % m
  | f + 1, b, e => if e % 2 = 1 then b * pwm m f (b * b % m) (e / 2) % m else pwm m f (b * b % m) (e / 2)
theorem nat_pow_mod (b m : Nat) (k : Nat) : (b % m) ^ k % m = b ^ k % m := by
  rw [← Nat.pow_mod]
theorem pwm_eq {m : Nat} : ∀ {f b e : Nat}, e < 2 ^ f → pwm m f b e = b ^ e % m
  | 0, b, e, h => by
    have : e = 0 := by simpa using h
    rw [this, Nat.pow_zero]
    rfl
  | f + 1, b, e, h => by
    have h2 : e / 2 < 2 ^ f := by rw [Nat.pow_succ] at h; omega
    have ih := pwm_eq (m := m) (b := b * b % m) h2
    have e2 : (b * b % m) ^ (e / 2) % m = b ^ (2 * (e / 2)) % m := by
      rw [nat_pow_mod, Nat.pow_mul, Nat.pow_two]
    unfold pwm
    rw [ih, e2]
    split
    · rename_i ho
      have h3 : e = 2 * (e / 2) + 1 := by omega
      rw [Nat.mul_mod_mod, Nat.mul_comm, ← Nat.pow_succ]
      show b ^ (2 * (e / 2) + 1) % m = _
      rw [← h3]
    · rename_i ho
      have h3 : e = 2 * (e / 2) := by omega
      rw [← h3]

theorem one_gcd {p b : Nat} (hp : 2 ≤ p) : ∀ x y : Nat, b ^ x % p = 1 → b ^ y % p = 1 → b ^ (Nat.gcd x y) % p = 1 := by
  intro x y
  induction x, y using Nat.gcd.induction with
  | H0 n => intro _ h; rwa [Nat.gcd_zero_left]
  | H1 m n _ ih =>
    intro h1 h2
    rw [Nat.gcd_rec]
    refine ih ?_ h1
    have e : b ^ n % p = b ^ (n % m) % p := by
      conv => lhs; rw [← Nat.div_add_mod n m, Nat.pow_add, Nat.pow_mul]
      rw [Nat.mul_mod, ← nat_pow_mod (b ^ m), h1, Nat.one_pow, Nat.mod_eq_of_lt (by omega : 1 < p), Nat.one_mul, Nat.mod_mod]
    rw [← e, h2]
theorem mod_dvd {p n x : Nat} (hd : p ∣ n) (hp : 2 ≤ p) (h : x % n = 1) : x % p = 1 := by
  have := Nat.mod_mod_of_dvd x hd
  rw [h] at this
  rw [← this, Nat.mod_eq_of_lt (by omega)]
theorem dvd_pow_self' {x q : Nat} (h : q ≠ 0) : x ∣ x ^ q := by
  obtain ⟨k, rfl⟩ := Nat.exists_eq_succ_of_ne_zero h
  exact ⟨x ^ k, by rw [Nat.pow_succ, Nat.mul_comm]⟩
/-- Pocklington's step: the prime q divides p - 1 for every prime p of n -/
theorem pock_q {n p q a : Nat} (hp : IsPrime p) (hpn : p ∣ n) (hn : 1 < n) (hq : IsPrime q) (hqn : q ∣ n - 1) (h1 : a ^ (n - 1) % n = 1) (hg : Nat.gcd (a ^ ((n - 1) / q) % n + (n - 1)) n = 1) : q ∣ p - 1 := by
  have hp2 := hp.1
  refine Classical.byContradiction fun hno => ?_
  have hb1 : a ^ (n - 1) % p = 1 := mod_dvd hpn hp2 h1
  have hpb : ¬ p ∣ a ^ ((n - 1) / q) := fun hd => by
    have h2 : p ∣ a ^ (n - 1) := by
      have e : a ^ (n - 1) = (a ^ ((n - 1) / q)) ^ q := by rw [← Nat.pow_mul, Nat.div_mul_cancel hqn]
      rw [e]
      exact Nat.dvd_trans hd (dvd_pow_self' (by have := hq.1; omega))
    rw [Nat.mod_eq_zero_of_dvd h2] at hb1
    cases hb1
  have hb2 : (a ^ ((n - 1) / q)) ^ q % p = 1 := by rw [← Nat.pow_mul, Nat.div_mul_cancel hqn]; exact hb1
  have hb3 := fermat hp hpb
  have hg1 : Nat.gcd q (p - 1) = 1 := hq.coprime hno
  have hb4 := one_gcd hp2 q (p - 1) hb2 hb3
  rw [hg1, Nat.pow_one] at hb4
  have hd : p ∣ a ^ ((n - 1) / q) % n + (n - 1) := by
    refine Nat.dvd_of_mod_eq_zero ?_
    have e1 : a ^ ((n - 1) / q) % n % p = 1 := by rw [Nat.mod_mod_of_dvd _ hpn]; exact hb4
    have e2 : (1 + (n - 1)) % p = 0 := by rw [show 1 + (n - 1) = n by omega]; exact Nat.mod_eq_zero_of_dvd hpn
    have e3 : (1 + (n - 1)) % p = (1 % p + (n - 1) % p) % p := Nat.add_mod ..
    rw [Nat.mod_eq_of_lt (by omega : 1 < p)] at e3
    rw [Nat.add_mod, e1, ← e3, e2]
  have := Nat.dvd_gcd hd hpn
  rw [hg] at this
  have := Nat.le_of_dvd (by decide) this
  omega
theorem prod_dvd {k : Nat} : ∀ {l : List Nat}, (∀ q ∈ l, IsPrime q ∧ q ∣ k) → l.Nodup → prod l ∣ k
  | [], _, _ => ⟨k, (Nat.one_mul k).symm⟩
  | q :: r, h, hn => by
    have hn' := List.nodup_cons.mp hn
    have hq := h q List.mem_cons_self
    have ih := prod_dvd (fun x hx => h x (List.mem_cons_of_mem _ hx)) hn'.2
    have hno : ¬ q ∣ prod r := by
      refine prod_coprime hq.1 fun x hx hd => ?_
      have hx' := h x (List.mem_cons_of_mem _ hx)
      rcases hx'.1.2 q hd with h1 | h1
      · have := hq.1.1; omega
      · exact hn'.1 (h1 ▸ hx)
    exact Nat.Coprime.mul_dvd_of_dvd_of_dvd (hq.1.coprime hno) hq.2 ih
/-- what the kernel looks at: the primes, each with its base -/
def pockOk (f n : Nat) (qs : List (Nat × Nat)) : Bool :=
  qs.all fun qa => (n - 1) % qa.1 == 0 && pwm n f qa.2 (n - 1) == 1 && Nat.gcd (pwm n f qa.2 ((n - 1) / qa.1) + (n - 1)) n == 1
theorem pocklington {n : Nat} (f : Nat) (qs : List (Nat × Nat)) (hn : 1 < n) (hf : n - 1 < 2 ^ f) (hq : ∀ q ∈ qs.map (·.1), IsPrime q) (hnd : (qs.map (·.1)).Nodup) (hbig : n < prod (qs.map (·.1)) * prod (qs.map (·.1))) (hok : pockOk f n qs = true) : IsPrime n := by
  refine Classical.byContradiction fun hnp => ?_
  obtain ⟨p, hp, hpn, hpp⟩ := least_div (by omega) hnp
  have hall : ∀ q ∈ qs.map (·.1), IsPrime q ∧ q ∣ p - 1 := fun q hqm => by
    refine ⟨hq q hqm, ?_⟩
    obtain ⟨⟨q, a⟩, hm, rfl⟩ := List.mem_map.mp hqm
    have h := List.all_eq_true.mp hok _ hm
    simp only [Bool.and_eq_true, beq_iff_eq] at h
    obtain ⟨⟨h1, h2⟩, h3⟩ := h
    have hdv := Nat.dvd_of_mod_eq_zero h1
    rw [pwm_eq hf] at h2
    rw [pwm_eq (Nat.lt_of_le_of_lt (Nat.div_le_self _ _) hf)] at h3
    exact pock_q hp hpn hn (hq q hqm) hdv h2 h3
  have hd := prod_dvd hall hnd
  have hp2 := hp.1
  have hle := Nat.le_of_dvd (by omega) hd
  have := Nat.mul_le_mul (show prod (qs.map (·.1)) ≤ p by omega) (show prod (qs.map (·.1)) ≤ p by omega)
  omega
end
section
def primeOk (x : Nat × Nat) : Bool := decide (2 ≤ x.1) && decide (x.1 < (x.2 + 2) * (x.2 + 2)) && noDiv x.1 x.2
theorem prime_ok {q k : Nat} (h : primeOk (q, k) = true) : IsPrime q := by
  unfold primeOk at h
  simp only [Bool.and_eq_true, decide_eq_true_eq] at h
  exact prime_noDiv k h.1.1 h.1.2 h.2
theorem primes_ok {l : List (Nat × Nat)} (h : l.all primeOk = true) : ∀ q ∈ l.map (·.1), IsPrime q := by
  intro q hq
  obtain ⟨⟨q, k⟩, hm, rfl⟩ := List.mem_map.mp hq
  exact prime_ok (List.all_eq_true.mp h _ hm)
/-- the same by odd d alone -/
def noOdd (n : Nat) : Nat → Bool
  | 0 => true
  | k + 1 => (n % (2 * k + 3) != 0) && noOdd n k
theorem noOdd_spec {n : Nat} : ∀ {k : Nat}, noOdd n k = true → ∀ d, d % 2 = 1 → 3 ≤ d → d < 2 * k + 3 → ¬ d ∣ n
  | 0, _, d, _, h2, hk => by omega
  | k + 1, h, d, ho, h2, hk => by
    unfold noOdd at h
    rw [Bool.and_eq_true] at h
    by_cases hd : d = 2 * k + 3
    · intro hdvd
      have := Nat.mod_eq_zero_of_dvd hdvd
      rw [hd] at this
      simp [this] at h
    · exact noOdd_spec h.2 d ho h2 (by omega)
theorem prime_odd {n : Nat} (k : Nat) (h2 : 2 ≤ n) (ho : n % 2 = 1) (hk : n < (2 * k + 3) * (2 * k + 3)) (h : noOdd n k = true) : IsPrime n := by
  refine prime_of_root h2 fun d hd hdd hdvd => ?_
  have hd2 : d % 2 = 1 := by
    rcases Nat.mod_two_eq_zero_or_one d with h3 | h3
    · have h4 : 2 ∣ n := Nat.dvd_trans (Nat.dvd_of_mod_eq_zero h3) hdvd
      have := Nat.mod_eq_zero_of_dvd h4
      omega
    · exact h3
  refine noOdd_spec h d hd2 (by omega) ?_ hdvd
  refine Nat.lt_of_not_le fun hge => ?_
  have := Nat.mul_le_mul hge hge
  omega
theorem p65537 : IsPrime 65537 := prime_ok (k := 255) (by decide +kernel)
theorem p998 : IsPrime 998244353 := prime_odd 15797 (by decide) (by decide) (by decide) (by decide +kernel)
theorem p1000 : IsPrime 1000000007 := prime_odd 15811 (by decide) (by decide) (by decide) (by decide +kernel)
theorem m13 : IsPrime 8191 := prime_ok (k := 89) (by decide +kernel)
theorem m17 : IsPrime 131071 := prime_ok (k := 361) (by decide +kernel)
theorem m19 : IsPrime 524287 := prime_ok (k := 723) (by decide +kernel)
theorem m31 : IsPrime 2147483647 := pocklington 31 [(2, 3), (3, 5), (7, 3), (11, 3), (31, 2), (151, 3)] (by decide) (by decide) (primes_ok (l := [(2, 0), (3, 0), (7, 1), (11, 2), (31, 4), (151, 11)]) (by decide +kernel)) (by decide) (by decide) (by decide +kernel)
theorem m61 : IsPrime 2305843009213693951 := pocklington 61 [(2, 3), (3, 5), (5, 3), (7, 3), (11, 3), (13, 3), (31, 3), (41, 3), (61, 2)] (by decide) (by decide) (primes_ok (l := [(2, 0), (3, 0), (5, 1), (7, 1), (11, 2), (13, 2), (31, 4), (41, 5), (61, 6)]) (by decide +kernel)) (by decide) (by decide) (by decide +kernel)
theorem m89 : IsPrime 618970019642690137449562111 := pocklington 89 [(2, 3), (3, 3), (5, 3), (17, 3), (23, 3), (89, 2), (353, 3), (397, 3), (683, 3)] (by decide) (by decide) (primes_ok (l := [(2, 0), (3, 0), (5, 1), (17, 3), (23, 3), (89, 8), (353, 17), (397, 18), (683, 25)]) (by decide +kernel)) (by decide) (by decide) (by decide +kernel)
theorem m107 : IsPrime 162259276829213363391578010288127 := pocklington 107 [(2, 3), (3, 3), (107, 2), (6361, 3), (69431, 3), (20394401, 3)] (by decide) (by decide) (primes_ok (l := [(2, 0), (3, 0), (107, 9), (6361, 78), (69431, 262), (20394401, 4515)]) (by decide +kernel)) (by decide) (by decide) (by decide +kernel)
theorem m127 : IsPrime 170141183460469231731687303715884105727 := pocklington 127 [(2, 3), (3, 5), (7, 3), (19, 3), (43, 3), (73, 3), (127, 2), (337, 3), (5419, 3), (92737, 3)] (by decide) (by decide) (primes_ok (l := [(2, 0), (3, 0), (7, 1), (19, 3), (43, 5), (73, 7), (127, 10), (337, 17), (5419, 72), (92737, 303)]) (by decide +kernel)) (by decide) (by decide) (by decide +kernel)

/-- the table of great primes -/
theorem great_prime {i : Nat} (hi : i < 11) : PrimeI ((([65537, 998244353, 1000000007] : List Int) ++ [13, 17, 19, 31, 61, 89, 107, 127].map fun k : Int => 2 ^ k.toNat - 1).getD i 0) ∧ 10 < (([65537, 998244353, 1000000007] : List Int) ++ [13, 17, 19, 31, 61, 89, 107, 127].map fun k : Int => 2 ^ k.toNat - 1).getD i 0 ∧
    (([65537, 998244353, 1000000007] : List Int) ++ [13, 17, 19, 31, 61, 89, 107, 127].map fun k : Int => 2 ^ k.toNat - 1).getD i 0 < 2 ^ 128 := by
  have e : (([65537, 998244353, 1000000007] : List Int) ++ [13, 17, 19, 31, 61, 89, 107, 127].map fun k : Int => 2 ^ k.toNat - 1) =
    [((65537 : Nat) : Int), ((998244353 : Nat) : Int), ((1000000007 : Nat) : Int), ((8191 : Nat) : Int), ((131071 : Nat) : Int), ((524287 : Nat) : Int), ((2147483647 : Nat) : Int), ((2305843009213693951 : Nat) : Int), ((618970019642690137449562111 : Nat) : Int), ((162259276829213363391578010288127 : Nat) : Int), ((170141183460469231731687303715884105727 : Nat) : Int)] := by decide +kernel
  rw [e]
  match i, hi with
  | 0, _ => exact ⟨p65537, by decide +kernel, by decide +kernel⟩
  | 1, _ => exact ⟨p998, by decide +kernel, by decide +kernel⟩
  | 2, _ => exact ⟨p1000, by decide +kernel, by decide +kernel⟩
  | 3, _ => exact ⟨m13, by decide +kernel, by decide +kernel⟩
  | 4, _ => exact ⟨m17, by decide +kernel, by decide +kernel⟩
  | 5, _ => exact ⟨m19, by decide +kernel, by decide +kernel⟩
  | 6, _ => exact ⟨m31, by decide +kernel, by decide +kernel⟩
  | 7, _ => exact ⟨m61, by decide +kernel, by decide +kernel⟩
  | 8, _ => exact ⟨m89, by decide +kernel, by decide +kernel⟩
  | 9, _ => exact ⟨m107, by decide +kernel, by decide +kernel⟩
  | 10, _ => exact ⟨m127, by decide +kernel, by decide +kernel⟩
end
section
local macro_rules | `(tactic| walk_at "mine:off") => `(tactic| first | assumption | exact offNil | (refine offCons (by first | assumption | omega) (by first | assumption | omega) ?_; walk_at "mine:off"))
local macro_rules | `(tactic| walk_at "mine:led") => `(tactic| first | k_asm | (refine' nl1 ?kl; (case kl => k_asm)) | (refine' nl2 ?kl; (case kl => k_asm)) | (refine' nl3 ?kl; (case kl => k_asm)) | (refine' nl4 ?kl; (case kl => k_asm)) | (refine' nl5 ?kl; (case kl => k_asm)))
local macro_rules | `(tactic| walk_at "mine:back") => `(tactic| first | k_asm | (refine' nd1 ?kl; (case kl => k_asm)) | (refine' nd2 ?kl; (case kl => k_asm)) | (refine' nd3 ?kl; (case kl => k_asm)) | (refine' nd4 ?kl; (case kl => k_asm)) | (refine' nd5 ?kl; (case kl => k_asm)) | (refine' nd6 ?kl; (case kl => k_asm)))
local macro_rules | `(tactic| walk_at "mine:lt") => `(tactic| first | exact allLt_ne (by assumption) | exact allLt_ne (And.right (by assumption)) | exact allLt_ne (And.right (And.right (by assumption))) | exact allLt_ne (And.right (And.right (And.right (by assumption)))) | exact allLt_ne (And.right (And.right (And.right (And.right (by assumption))))) | assumption)
local macro_rules | `(tactic| walk_at "mine:sub") => `(tactic| (intro p9 hp9; first | exact hp9 | (simp only [List.mem_append, List.mem_cons, List.nil_append, List.cons_append] at hp9 ⊢; grind)))
local macro_rules | `(tactic| walk_at "mine:news") => `(tactic| first | k_asm | exact newsL (by k_asm) | exact newsR (by k_asm) | exact newsL (newsR (by k_asm)) | exact newsL (newsR (newsR (by k_asm))))
local macro_rules | `(tactic| walk_at "mine:enterC") => `(tactic| (refine' code_defC ?k1 ?k2 ?k3 ?k4 ?k5 ?kA ?kF ?kK ?k6 ?k7 ?k8 ?k9 ?kB ?kD ?_ ?c2 ?c3 ?c4; (case kA => exact rfl); (case kF => exact rfl); (case kK => first | assumption | exact rfl); (case k1 => k_asm); (case k2 => k_asm); (case k3 => k_asm); (case k4 => k_asm); (case k5 => k_asm); (case k6 => k_is); (case k7 => k_is); (case k8 => ktr_room); (case k9 => exact BindsTo.of_eq rfl); (case kB => exact rfl); (case kD => decide +kernel); (case c2 => exact rfl); (case c3 => exact rfl); (case c4 => exact rfl); k_whole; intro g' L' h' tk' cells' FG' F' N' Y' B' X' T' l1; (try k_lt l1); k_cells Y'; (try simp only [List.cons_append, List.nil_append] at N'); (try dsimp only); (try k_lift B'); (try k_fold)))
local macro_rules | `(tactic| walk_at "mine:rest") => `(tactic| first | k_asm | exact newsL (by k_asm) | exact newsT (by walk_at "mine:rest1") | exact newsR (by k_asm))
local macro_rules | `(tactic| walk_at "mine:rest1") => `(tactic| first | exact newsL (by k_asm) | exact newsT (newsL (by k_asm)) | exact newsT (newsT (newsL (by k_asm))) | exact newsT (newsT (newsT (newsL (by k_asm)))))
local macro_rules | `(tactic| walk_at "mine:home") => `(tactic| first | k_asm | exact newsT (by k_asm) | exact newsT (newsT (by k_asm)) | exact nApp (by k_asm) | exact nApp (newsT (by k_asm)) | exact nApp (newsT (newsT (by k_asm))) | exact nApp (newsT (newsT (newsT (by k_asm)))) | walk_at "mine:back")
local macro_rules | `(tactic| walk_at "pyIter ref") => `(tactic| (k_here; refine Halt.out ?_))
local macro_rules | `(tactic| walk_at "exec For Name Call cons nil") => `(tactic| (k_here; (rename Fr _ _ _ _ => lF'); (with_unfolding_all refine' For_invVF lF' ?k1 ?k2 ?_; (case k1 => exact rfl); (case k2 => exact rfl); k_whole)))
local macro_rules | `(tactic| walk_at "InvEndN") => `(tactic| (k_here; refine Halt.out ?_))
local macro_rules | `(tactic| walk_at "call ref") => `(tactic| (k_here; (with_reducible show wpAny _ _ (call (Value.ref 54) [Value.ref _, Value.int _ _]) _ _ _); k_dflt (refine' take_spec ?k1 ?k2 ?k3 ?k4 ?k5 ?kK ?kd ?ku ?kn ?ko ?kS ?km ?km2 ?_; (case k1 => k_asm); (case k2 => k_asm); (case k3 => k_asm); (case k4 => walk_at "mine:led"); (case k5 => k_asm); (case kK => first | exact rfl | assumption); (case kd => ktr_room); (case ku => ktr_units); (case kn => first | assumption | omega); (case ko => walk_at "mine:off"); (case kS => assumption); (case km => omega); (case km2 => omega); k_whole); intro v9 t9 a9 u9 vs9 ns9 h9 tk9 hv9 hw9 hS9 F9 N9; (try dsimp only); (try k_sweep); (try k_fold)))
theorem great_step {num v : Int} {l : Nat} (h0 : 0 ≤ num) (h1 : num < 2 ^ (20 * l)) (h2 : 0 ≤ v) (h3 : v < 1000003) : 0 ≤ 1000003 * num + v ∧ 1000003 * num + v < 2 ^ (20 * (l + 1)) := by
  have e : (2 : Int) ^ (20 * (l + 1)) = 2 ^ (20 * l) * 1048576 := by
    rw [Nat.mul_add, Int.pow_add]
    rfl
  rw [e]
  generalize (2 : Int) ^ (20 * l) = X at h1 ⊢
  omega
section
variable {w : World} {p : Program} {loose : List Str} {mean : ExcName → Option Value} {mg mb : Str → Option Value}
    {dp un : Nat} {gd : Option (List Code)} {cn : Str} {cs : Scope} {a : Addr} {ccd : Value} {ccl : List (Str × Addr)} {outer : List Env} {A₀ : Around} {base h₀ : Heap} {L : Addr} {m : Str → Option Value} {s : Shared} {Q E : Value → Shared → Prop}
    {st cl : Addr} {at_ : Int} {t : Tok} {n n2 : Nat} {vs : List Value} {ns : List Int} {rest : List (Addr × Obj)}

theorem great_spec {words : Nat} {tm : Tok}
    (B : Below A₀ base outer h₀) (F : Fr h₀ L s.heap m) (X : (hd.heap_39 w.params).In h₀) (N : News h₀ L s.heap ((st, stO at_ t cl n) :: (cl, listOf vs.toArray n2) :: rest)) (T : Top p loose mean mg mb h₀) (hk : cs.kind = .function)
    (hd : dp + 2 < recursionLimit) (hu : un + 16 < cLine)
    (hne : @Ne Nat st cl) (ho : OwnOff rest [st, cl]) (hS : StOk at_ vs ns) (hm2 : words ≤ 20)
    (hret : ∀ (v : Int) (t' : Tok) (at' : Int) (t2 : Tok) (vs' : List Value) (ns' : List Int) (h' : Heap) (tk' : Nat), 0 ≤ v → v < 2 ^ (20 * words) → StOk at' vs' ns' → Fr h₀ L h' m → News h₀ L h' ((st, stO at' t2 cl n) :: (cl, listOf vs'.toArray n2) :: rest) → Q (.int v t') { s with heap := h', toks := tk' }) :
    wpAny (model PySem.Challenge.rw_ys0003_05.row.prog w) (ktrTop dp un gd cn cs L a ccd ccl outer) (call (.ref 61) [.ref st, .int (words : Int) tm]) Q E s := by
  w_top off
  revert X; k_fill; intro X
  have hMk := kstMark
  refine wpAny_call ?_
  k_dflt cell_enter
  k_steps
  unfold Halt
  rename IsRange _ _ _ _ _ _ _ _ => rgX
  rename Fr _ _ _ _ => lF
  rename News _ _ _ _ => lN
  with_unfolding_all
   refine' kst_range (σ := Int × Tok × Int × Tok × List Value × List Int)
    (fun c => (st, stO c.2.2.1 c.2.2.2.1 cl n) :: (cl, listOf c.2.2.2.2.1.toArray n2) :: rest)
    (fun c => [(Str.ofString "number", Value.int c.1 c.2.1)])
    (fun c => StOk c.2.2.1 c.2.2.2.2.1 c.2.2.2.2.2) []
    (fun pre c => 0 ≤ c.1 ∧ c.1 < 2 ^ (20 * pre.length)) (0, _, at_, t, vs, ns)
    (by rfl) rgX (small_one (by omega) (by omega) (by omega) (by omega)) (rangeSize_nat _ _) lF lN hS (by kst_all) (by constructor <;> simp) ?_ ?_
  · intro c pre k tk' u h tk own hk' hlt hoff hf hP F9 N9
    obtain ⟨num, tn, at1, t2, vs1, ns1⟩ := c
    have ho2 : OwnOff (rest ++ own) [st, cl] := offApp ho (offSub hoff (by simp) (by simp))
    have N9' : News _ _ h ((st, stO at1 t2 cl n) :: (cl, listOf vs1.toArray n2) :: (rest ++ own)) := N9
    clear N9
    dsimp only at hf hP F9
    simp only [kstB, List.contains_nil, Bool.false_eq_true, if_false] at F9
    (try dsimp only)
    (try k_fold)
    k_steps
    unfold Halt
    rename News _ _ _ _ => nE
    rename StOk _ _ _ => sE
    refine kst_end ⟨_, _, _, _, _, _⟩ (by assumption) nE (by kst_in) (by intro p hp; kst_mem) (by rfl) sE (by kst_all) (by kst_same) ?_
    rw [List.length_append]
    exact great_step hP.1 hP.2 (by assumption) (by assumption)
  · intro c u h tk hf hP F9 N9
    obtain ⟨num, tn, at1, t2, vs1, ns1⟩ := c
    dsimp only at hf hP F9 N9
    k_steps
    have e : (rangeKs 0 ((words : Int) - 0).toNat).length = words := by rw [rangeKs_length]; omega
    rw [e] at hP
    exact hret _ _ _ _ _ _ _ _ hP.1 hP.2 hf (by k_asm) (by k_asm)
end
section
variable {w : World} {p : Program} {loose : List Str} {mean : ExcName → Option Value} {mg mb : Str → Option Value}
    {dp un : Nat} {gd : Option (List Code)} {cn : Str} {cs : Scope} {a : Addr} {ccd : Value} {ccl : List (Str × Addr)} {outer : List Env} {A₀ : Around} {base h₀ : Heap} {L : Addr} {m : Str → Option Value} {s : Shared} {Q E : Value → Shared → Prop}
    {st cl : Addr} {at_ : Int} {t : Tok} {n n2 : Nat} {vs : List Value} {ns : List Int} {rest : List (Addr × Obj)}
theorem great_call {words : Int} {tm : Tok}
    (B : Below A₀ base outer h₀) (F : Fr h₀ L s.heap m) (X : (hd.heap_39 w.params).In h₀) (N : News h₀ L s.heap ((st, stO at_ t cl n) :: (cl, listOf vs.toArray n2) :: rest)) (T : Top p loose mean mg mb h₀) (hk : cs.kind = .function)
    (hd : dp + 2 < recursionLimit) (hu : un + 16 < cLine)
    (hne : @Ne Nat st cl) (ho : OwnOff rest [st, cl]) (hS : StOk at_ vs ns) (hm : 0 ≤ words) (hm2 : words ≤ 20)
    (hret : ∀ (v : Int) (t' : Tok) (at' : Int) (t2 : Tok) (vs' : List Value) (ns' : List Int) (h' : Heap) (tk' : Nat), 0 ≤ v → v < 2 ^ 400 → StOk at' vs' ns' → Fr h₀ L h' m → News h₀ L h' ((st, stO at' t2 cl n) :: (cl, listOf vs'.toArray n2) :: rest) → Q (.int v t') { s with heap := h', toks := tk' }) :
    wpAny (model PySem.Challenge.rw_ys0003_05.row.prog w) (ktrTop dp un gd cn cs L a ccd ccl outer) (call (.ref 61) [.ref st, .int words tm]) Q E s := by
  obtain ⟨k, rfl⟩ : ∃ k : Nat, words = (k : Int) := ⟨words.toNat, by omega⟩
  refine great_spec B F X N T hk hd hu hne ho hS (by omega) fun v t' at' t2 vs' ns' h' tk' h0 h1 => hret v t' at' t2 vs' ns' h' tk' h0 (Int.lt_of_lt_of_le h1 ?_)
  exact Int.ofNat_le.mpr (Nat.pow_le_pow_right (n := 2) (by decide) (by omega : 20 * k ≤ 400))
end
end
section
local macro_rules | `(tactic| walk_at "mine:pad12") => `(tactic| skip)
local macro_rules | `(tactic| walk_at "mine:pad13") => `(tactic| skip)
local macro_rules | `(tactic| walk_at "mine:pad14") => `(tactic| skip)
local macro_rules | `(tactic| walk_at "mine:off") => `(tactic| first | assumption | exact offNil | (refine offCons (by first | assumption | omega) (by first | assumption | omega) ?_; walk_at "mine:off"))
local macro_rules | `(tactic| walk_at "mine:led") => `(tactic| first | k_asm | (refine' nl1 ?kl; (case kl => k_asm)) | (refine' nl2 ?kl; (case kl => k_asm)) | (refine' nl3 ?kl; (case kl => k_asm)) | (refine' nl4 ?kl; (case kl => k_asm)) | (refine' nl5 ?kl; (case kl => k_asm)))
local macro_rules | `(tactic| walk_at "mine:back") => `(tactic| first | k_asm | (refine' nd1 ?kl; (case kl => k_asm)) | (refine' nd2 ?kl; (case kl => k_asm)) | (refine' nd3 ?kl; (case kl => k_asm)) | (refine' nd4 ?kl; (case kl => k_asm)) | (refine' nd5 ?kl; (case kl => k_asm)) | (refine' nd6 ?kl; (case kl => k_asm)))
local macro_rules | `(tactic| walk_at "mine:lt") => `(tactic| first | exact allLt_ne (by assumption) | exact allLt_ne (And.right (by assumption)) | exact allLt_ne (And.right (And.right (by assumption))) | exact allLt_ne (And.right (And.right (And.right (by assumption)))) | exact allLt_ne (And.right (And.right (And.right (And.right (by assumption))))) | assumption)
local macro_rules | `(tactic| walk_at "mine:sub") => `(tactic| (intro p9 hp9; first | exact hp9 | (simp only [List.mem_append, List.mem_cons, List.nil_append, List.cons_append] at hp9 ⊢; grind)))
local macro_rules | `(tactic| walk_at "mine:news") => `(tactic| first | k_asm | exact newsL (by k_asm) | exact newsR (by k_asm) | exact newsL (newsR (by k_asm)) | exact newsL (newsR (newsR (by k_asm))))
local macro_rules | `(tactic| walk_at "mine:enterC") => `(tactic| (refine' code_defC ?k1 ?k2 ?k3 ?k4 ?k5 ?kA ?kF ?kK ?k6 ?k7 ?k8 ?k9 ?kB ?kD ?_ ?c2 ?c3 ?c4; (case kA => exact rfl); (case kF => exact rfl); (case kK => first | assumption | exact rfl); (case k1 => k_asm); (case k2 => k_asm); (case k3 => k_asm); (case k4 => k_asm); (case k5 => k_asm); (case k6 => k_is); (case k7 => k_is); (case k8 => ktr_room); (case k9 => exact BindsTo.of_eq rfl); (case kB => exact rfl); (case kD => decide +kernel); (case c2 => exact rfl); (case c3 => exact rfl); (case c4 => exact rfl); k_whole; intro g' L' h' tk' cells' FG' F' N' Y' B' X' T' l1; (try k_lt l1); k_cells Y'; (try simp only [List.cons_append, List.nil_append] at N'); (try dsimp only); (try k_lift B'); (try k_fold)))
local macro_rules | `(tactic| walk_at "mine:rest") => `(tactic| first | k_asm | exact newsL (by k_asm) | exact newsT (by walk_at "mine:rest1") | exact newsR (by k_asm))
local macro_rules | `(tactic| walk_at "mine:rest1") => `(tactic| first | exact newsL (by k_asm) | exact newsT (newsL (by k_asm)) | exact newsT (newsT (newsL (by k_asm))) | exact newsT (newsT (newsT (newsL (by k_asm)))))
local macro_rules | `(tactic| walk_at "mine:home") => `(tactic| first | k_asm | exact newsT (by k_asm) | exact newsT (newsT (by k_asm)) | exact nApp (by k_asm) | exact nApp (newsT (by k_asm)) | exact nApp (newsT (newsT (by k_asm))) | exact nApp (newsT (newsT (newsT (by k_asm)))) | walk_at "mine:back")
local macro_rules | `(tactic| walk_at "call ref") => `(tactic| (k_here; (with_reducible show wpAny _ _ (call (Value.ref 54) [Value.ref _, Value.int _ _]) _ _ _); k_dflt (refine' take_spec ?k1 ?k2 ?k3 ?k4 ?k5 ?kK ?kd ?ku ?kn ?ko ?kS ?km ?km2 ?_; (case k1 => k_asm); (case k2 => k_asm); (case k3 => k_asm); (case k4 => walk_at "mine:led"); (case k5 => k_asm); (case kK => first | exact rfl | assumption); (case kd => ktr_room); (case ku => ktr_units); (case kn => first | assumption | omega); (case ko => walk_at "mine:off"); (case kS => assumption); (case km => omega); (case km2 => omega); k_whole); intro v9 t9 a9 u9 vs9 ns9 h9 tk9 hv9 hw9 hS9 F9 N9; (try dsimp only); (try k_sweep); (try k_fold)))
local macro_rules | `(tactic| walk_at "call ref") => `(tactic| (k_here; (with_reducible show wpAny _ _ (call (Value.ref 61) [Value.ref _, Value.int _ _]) _ _ _); k_dflt (refine' great_call ?k1 ?k2 ?k3 ?k4 ?k5 ?kK ?kd ?ku ?kn ?ko ?kS ?km ?km2 ?_; (case k1 => k_asm); (case k2 => k_asm); (case k3 => k_asm); (case k4 => walk_at "mine:led"); (case k5 => k_asm); (case kK => first | exact rfl | assumption); (case kd => ktr_room); (case ku => ktr_units); (case kn => first | assumption | omega); (case ko => walk_at "mine:off"); (case kS => assumption); (case km => omega); (case km2 => omega); k_whole); intro v9 t9 a9 u9 vs9 ns9 h9 tk9 hv9 hw9 hS9 F9 N9; (try dsimp only); (try k_sweep); (try k_fold)))
theorem number_pow {v x : Int} (h0 : 0 ≤ v) (h1 : v < 300) (h2 : 0 ≤ x) (h3 : x < 3) : 0 ≤ 2 ^ v.toNat + x - 1 ∧ (2 : Int) ^ v.toNat + x - 1 < 2 ^ 400 := by
  have h4 : (2 : Int) ^ v.toNat ≤ 2 ^ 300 := Int.ofNat_le.mpr (Nat.pow_le_pow_right (n := 2) (by decide) (by omega : v.toNat ≤ 300))
  have h5 : 0 < (2 : Int) ^ v.toNat := Int.pow_pos (by decide)
  have h6 : (2 : Int) ^ 400 = 2 ^ 300 * 2 ^ 100 := by rw [← Int.pow_add]
  have h7 : (2 : Int) ^ 100 = 1267650600228229401496703205376 := by decide
  rw [h6, h7]
  generalize (2 : Int) ^ 300 = X at h4 ⊢
  omega
section
variable {w : World} {p : Program} {loose : List Str} {mean : ExcName → Option Value} {mg mb : Str → Option Value}
    {dp un : Nat} {gd : Option (List Code)} {cn : Str} {cs : Scope} {a : Addr} {ccd : Value} {ccl : List (Str × Addr)} {outer : List Env} {A₀ : Around} {base h₀ : Heap} {L : Addr} {m : Str → Option Value} {s : Shared} {Q E : Value → Shared → Prop}
    {st cl : Addr} {at_ : Int} {t : Tok} {n n2 : Nat} {vs : List Value} {ns : List Int} {rest : List (Addr × Obj)}
theorem number_spec
    (B : Below A₀ base outer h₀) (F : Fr h₀ L s.heap m) (X : (hd.heap_39 w.params).In h₀) (N : News h₀ L s.heap ((st, stO at_ t cl n) :: (cl, listOf vs.toArray n2) :: rest)) (T : Top p loose mean mg mb h₀) (hk : cs.kind = .function)
    (hd : dp + 3 < recursionLimit) (hu : un + 24 < cLine)
    (hne : @Ne Nat st cl) (ho : OwnOff rest [st, cl]) (hS : StOk at_ vs ns)
    (hret : ∀ (v : Int) (t' : Tok) (at' : Int) (t2 : Tok) (vs' : List Value) (ns' : List Int) (h' : Heap) (tk' : Nat), 0 ≤ v → v < 2 ^ 400 → StOk at' vs' ns' → Fr h₀ L h' m → News h₀ L h' ((st, stO at' t2 cl n) :: (cl, listOf vs'.toArray n2) :: rest) → Q (.int v t') { s with heap := h', toks := tk' }) :
    wpAny (model PySem.Challenge.rw_ys0003_05.row.prog w) (ktrTop dp un gd cn cs L a ccd ccl outer) (call (.ref 68) [.ref st]) Q E s := by
  w_top off
  revert X; k_fill; intro X
  have hMk := kstMark
  refine wpAny_call ?_
  k_dflt cell_enter
  k_steps
  · exact hret _ _ _ _ _ _ _ _ (getD_in (lo := 0) (hi := 65536) (by decide) (by decide) _).1 (Int.lt_of_le_of_lt (getD_in (lo := 0) (hi := 65536) (by decide) (by decide) _).2 (by decide)) (by assumption) (by k_asm) (by walk_at "mine:back")
  · exact hret _ _ _ _ _ _ _ _ (number_pow (by assumption) (by assumption) (by assumption) (by assumption)).1 (number_pow (by assumption) (by assumption) (by assumption) (by assumption)).2 (by assumption) (by k_asm) (by k_asm)
  · exact hret _ _ _ _ _ _ _ _ (by assumption) (by assumption) (by assumption) (by k_asm) (by k_asm)
end
end
section
local macro_rules | `(tactic| walk_at "mine:off") => `(tactic| first | assumption | exact offNil | (refine offCons (by first | assumption | omega) (by first | assumption | omega) ?_; walk_at "mine:off"))
local macro_rules | `(tactic| walk_at "mine:led") => `(tactic| first | k_asm | (refine' nl1 ?kl; (case kl => k_asm)) | (refine' nl2 ?kl; (case kl => k_asm)) | (refine' nl3 ?kl; (case kl => k_asm)) | (refine' nl4 ?kl; (case kl => k_asm)) | (refine' nl5 ?kl; (case kl => k_asm)))
local macro_rules | `(tactic| walk_at "mine:back") => `(tactic| first | k_asm | (refine' nd1 ?kl; (case kl => k_asm)) | (refine' nd2 ?kl; (case kl => k_asm)) | (refine' nd3 ?kl; (case kl => k_asm)) | (refine' nd4 ?kl; (case kl => k_asm)) | (refine' nd5 ?kl; (case kl => k_asm)) | (refine' nd6 ?kl; (case kl => k_asm)))
local macro_rules | `(tactic| walk_at "mine:lt") => `(tactic| first | exact allLt_ne (by assumption) | exact allLt_ne (And.right (by assumption)) | exact allLt_ne (And.right (And.right (by assumption))) | exact allLt_ne (And.right (And.right (And.right (by assumption)))) | exact allLt_ne (And.right (And.right (And.right (And.right (by assumption))))) | assumption)
local macro_rules | `(tactic| walk_at "mine:sub") => `(tactic| (intro p9 hp9; first | exact hp9 | (simp only [List.mem_append, List.mem_cons, List.nil_append, List.cons_append] at hp9 ⊢; grind)))
local macro_rules | `(tactic| walk_at "mine:news") => `(tactic| first | k_asm | exact newsL (by k_asm) | exact newsR (by k_asm) | exact newsL (newsR (by k_asm)) | exact newsL (newsR (newsR (by k_asm))))
local macro_rules | `(tactic| walk_at "mine:enterC") => `(tactic| (refine' code_defC ?k1 ?k2 ?k3 ?k4 ?k5 ?kA ?kF ?kK ?k6 ?k7 ?k8 ?k9 ?kB ?kD ?_ ?c2 ?c3 ?c4; (case kA => exact rfl); (case kF => exact rfl); (case kK => first | assumption | exact rfl); (case k1 => k_asm); (case k2 => k_asm); (case k3 => k_asm); (case k4 => k_asm); (case k5 => k_asm); (case k6 => k_is); (case k7 => k_is); (case k8 => ktr_room); (case k9 => exact BindsTo.of_eq rfl); (case kB => exact rfl); (case kD => decide +kernel); (case c2 => exact rfl); (case c3 => exact rfl); (case c4 => exact rfl); k_whole; intro g' L' h' tk' cells' FG' F' N' Y' B' X' T' l1; (try k_lt l1); k_cells Y'; (try simp only [List.cons_append, List.nil_append] at N'); (try dsimp only); (try k_lift B'); (try k_fold)))
local macro_rules | `(tactic| walk_at "mine:rest") => `(tactic| first | k_asm | exact newsL (by k_asm) | exact newsT (by walk_at "mine:rest1") | exact newsR (by k_asm))
local macro_rules | `(tactic| walk_at "mine:rest1") => `(tactic| first | exact newsL (by k_asm) | exact newsT (newsL (by k_asm)) | exact newsT (newsT (newsL (by k_asm))) | exact newsT (newsT (newsT (newsL (by k_asm)))))
local macro_rules | `(tactic| walk_at "mine:home") => `(tactic| first | k_asm | exact newsT (by k_asm) | exact newsT (newsT (by k_asm)) | exact nApp (by k_asm) | exact nApp (newsT (by k_asm)) | exact nApp (newsT (newsT (by k_asm))) | exact nApp (newsT (newsT (newsT (by k_asm)))) | walk_at "mine:back")
local macro_rules | `(tactic| walk_at "call ref") => `(tactic| (k_here; (with_reducible show wpAny _ _ (call (Value.ref 54) [Value.ref _, Value.int _ _]) _ _ _); k_dflt (refine' take_spec ?k1 ?k2 ?k3 ?k4 ?k5 ?kK ?kd ?ku ?kn ?ko ?kS ?km ?km2 ?_; (case k1 => k_asm); (case k2 => k_asm); (case k3 => k_asm); (case k4 => walk_at "mine:led"); (case k5 => k_asm); (case kK => first | exact rfl | assumption); (case kd => ktr_room); (case ku => ktr_units); (case kn => first | assumption | omega); (case ko => walk_at "mine:off"); (case kS => assumption); (case km => omega); (case km2 => omega); k_whole); intro v9 t9 a9 u9 vs9 ns9 h9 tk9 hv9 hw9 hS9 F9 N9; (try dsimp only); (try k_sweep); (try k_fold)))
local macro_rules | `(tactic| walk_at "exec Assign cons ListComp") => `(tactic| (k_here; refine Halt.out ?_))
local macro_rules | `(tactic| walk_at "eval ListComp") => `(tactic| (k_here; refine Halt.out ?_))
local macro_rules | `(tactic| walk_at "CompSrc") => `(tactic| (k_here; refine Halt.out ?_))
local macro_rules | `(tactic| walk_at "CompEnd") => `(tactic| (k_here; refine Halt.out ?_))
local macro_rules | `(tactic| walk_at "exec For Name Call cons nil") => `(tactic| (k_here; (with_unfolding_all refine wpAny_For ?_)))
local macro_rules | `(tactic| walk_at "pyIter ref") => `(tactic| (k_here; refine Halt.out ?_))
local macro_rules | `(tactic| walk_at "CompSrcT") => `(tactic| (k_here; refine Halt.out ?_))
local macro_rules | `(tactic| walk_at "CfPost") => `(tactic| (k_here; first | ((with_reducible show CfPost _ _ _ _ _ _ _ (Flow.ret _) _); unfold CfPost; dsimp only) | refine Halt.out ?_))
local macro_rules | `(tactic| lsm_bools) => `(tactic| assumption)
theorem exps_in (k : Int) (hk : k ∈ ([13, 17, 19, 31, 61, 89, 107, 127] : List Int)) : 0 ≤ k ∧ k ≤ 127 := by
  simp only [List.mem_cons, List.not_mem_nil, or_false] at hk
  omega
section
variable {w : World} {p : Program} {loose : List Str} {mean : ExcName → Option Value} {mg mb : Str → Option Value}
    {dp un : Nat} {gd : Option (List Code)} {cn : Str} {cs : Scope} {a : Addr} {ccd : Value} {ccl : List (Str × Addr)} {outer : List Env} {A₀ : Around} {base h₀ : Heap} {L : Addr} {m : Str → Option Value} {s : Shared} {Q E : Value → Shared → Prop}
    {st cl : Addr} {at_ : Int} {t : Tok} {n n2 : Nat} {vs : List Value} {ns : List Int} {rest : List (Addr × Obj)}
theorem prime_spec
    (B : Below A₀ base outer h₀) (F : Fr h₀ L s.heap m) (X : (hd.heap_39 w.params).In h₀) (N : News h₀ L s.heap ((st, stO at_ t cl n) :: (cl, listOf vs.toArray n2) :: rest)) (T : Top p loose mean mg mb h₀) (hk : cs.kind = .function)
    (hd : dp + 2 < recursionLimit) (hu : un + 16 < cLine)
    (hne : @Ne Nat st cl) (ho : OwnOff rest [st, cl]) (hS : StOk at_ vs ns)
    (hret : ∀ (v : Int) (t' : Tok) (at' : Int) (t2 : Tok) (vs' : List Value) (ns' : List Int) (h' : Heap) (tk' : Nat), PrimeI v → 3 ≤ v → v < 2 ^ 128 → StOk at' vs' ns' → Fr h₀ L h' m → News h₀ L h' ((st, stO at' t2 cl n) :: (cl, listOf vs'.toArray n2) :: rest) → Q (.int v t') { s with heap := h', toks := tk' }) :
    wpAny (model PySem.Challenge.rw_ys0003_05.row.prog w) (ktrTop dp un gd cn cs L a ccd ccl outer) (call (.ref 73) [.ref st]) Q E s := by
  w_top off
  revert X; k_fill; intro X
  have hMk := kstMark
  refine wpAny_call ?_
  k_dflt walk_at "mine:enterC"
  k_steps
  · unfold Halt
    rename IsRange _ _ _ _ _ _ _ _ => rgX
    rename Fr _ _ _ _ => lF
    rename News _ _ _ _ => lN
    rename StOk _ _ _ => sE
    rename ((@LT.lt Nat _ st _) ∧ (@LT.lt Nat _ cl _) ∧ AllLt _ rest) => hoff
    with_unfolding_all
     refine' cf_range (by rfl) (by rfl) (by rfl) (by rfl) rgX (small_one (by omega) (by omega) (by omega) (by omega)) (rangeSize_nat _ _) lF (nrot2 lN) (by assumption) (allLt_ne1 (d := _) ⟨hoff.1, hoff.2.1, hoff.2.2⟩ (Nat.le_succ _)) ?_ ?_
    · intro i X0 ti oc h tk own hi hX0 hoc hown F9 N9
      clear lF lN
      simp only [List.cons_append, List.nil_append] at N9
      rename _ < (3000 : Int) => hw3
      rename StOk _ _ _ => sE
      (try dsimp only)
      (try k_fold)
      k_steps
      · unfold Halt
        refine LCt.ListComp_T (F₀ := by k_asm) (by with_unfolding_all rfl) (by decide) (by rfl) (by decide) (by rfl) ?_
        k_steps
        unfold Halt
        rename IsRange _ _ _ _ _ _ _ _ => rgY
        refine LCt.CompSrcT.range (by rfl) (by k_asm) (by k_asm) rgY (by decide) (n := 58) (by rfl) (by decide) ?_
        intro g
        refine bt_range (fun i bs => bs.all id = true → ∀ k : Int, 2 ≤ k → k < 2 + (i : Int) → k * k ≤ X0 → 0 < X0.fmod k) ?_ ?_ ?_
        · intro i2 k2 t2 I2 oI2 C2 oC2 D2 m2 ys2 bs2 h2 tk2 E2 hk2 hi2 hR hC2 hx2 F2 N2 off2 ne2
          k_steps
          · unfold Halt
            refine LCg.CompEnd.intro (by k_asm) (by k_asm) _ (fun p hp => hp) off2 trivial ⟨rfl, _, rfl, bt_yes hk2 hR (fun hb => ?_)⟩
            exact of_decide_eq_true hb
          · unfold Halt
            rename ¬ k2 * k2 ≤ X0 => hno
            exact LCg.CompEnd.intro (by k_asm) (by k_asm) _ (fun p hp => hp) off2 trivial ⟨rfl, bt_no hk2 hR hno⟩
        · intro ys bs hys hall
          unfold LCg.FinE
          intro D3 h3 tk3 F3 N3 o3
          (try dsimp only)
          k_steps
          · rename List.all _ _ = true => hyes
            refine' hret _ _ _ _ _ _ _ _ (prime_trial (by omega) (by omega) (fun k h1 h2 h3 => hall hyes k h1 (by omega) h3)) (by omega) ?hlt sE ?hF ?hN
            (case hF => k_asm)
            (case hN => walk_at "mine:home")
            (case hlt => exact Int.lt_of_le_of_lt (show X0 ≤ 4000 by omega) (by decide +kernel))
          · unfold Halt CfPost
            rename News _ _ _ _ => nE
            refine ⟨_, _, _, _, rfl, by k_asm, fun p hp => nE p ?_, hoc⟩
            simp only [List.mem_cons, List.mem_append, List.cons_append, List.nil_append] at hp ⊢
            grind
        · intro _ k h2 hlt
          omega
    · intro oc vc h tk hoc F9 N9
      clear lF lN
      (try dsimp only)
      (try k_fold)
      k_steps
      unfold Halt
      refine LCg.ListComp_U (F₀ := by k_asm) (by with_unfolding_all rfl) (by decide) (by rfl) (by decide) (by rfl) ?_
      k_steps
      unfold Halt
      refine LCg.CompSrc.ledger (by rfl) (by k_asm) (by k_asm) (by k_mem) (by exact Nat.le_trans (m := 8) (Nat.le_of_eq rfl) (by rw [PySem.sizeLine_eq]; decide)) ?_
      intro g
      refine' kcf_list (ns := [13, 17, 19, 31, 61, 89, 107, 127]) (fun k => 2 ^ k.toNat - 1) (by repeat' constructor) (fun k' t' I' oI' C' oC' D' m' ys' h' tk' E' hk' hC' hx' F' N' off' ne' hMark' => ?_) ?_
      · have hb0 := (exps_in k' hk').1
        have hb1 := (exps_in k' hk').2
        (try dsimp only)
        k_steps
        unfold Halt
        exact LCg.CompEnd.intro (by k_asm) (by k_asm) _ (fun p hp => hp) off' (.inr ⟨_, by k_mem, rfl, _, rfl⟩) (kcf_el rfl rfl rfl)
      · unfold KPfDone LCg.FinE
        intro ys hys D3 h3 tk3 F3 N3 o3
        (try simp only [LCg.Off1, and_true] at o3)
        (try dsimp only)
        k_steps
        rename _ < (11 : Int) => hw11
        refine' hret _ _ _ _ _ _ _ _ (great_prime (by omega)).1 (Int.le_of_lt (Int.lt_trans (by decide) (great_prime (by omega)).2.1)) (great_prime (by omega)).2.2 (by assumption) ?hF ?hN
        (case hF => k_asm)
        (case hN => walk_at "mine:home")
  · unfold Halt
    refine LCg.ListComp_U (F₀ := by k_asm) (by with_unfolding_all rfl) (by decide) (by rfl) (by decide) (by rfl) ?_
    k_steps
    unfold Halt
    refine LCg.CompSrc.ledger (by rfl) (by k_asm) (by k_asm) (by k_mem) (by exact Nat.le_trans (m := 8) (Nat.le_of_eq rfl) (by rw [PySem.sizeLine_eq]; decide)) ?_
    intro g
    refine' kcf_list (ns := [13, 17, 19, 31, 61, 89, 107, 127]) (fun k => 2 ^ k.toNat - 1) (by repeat' constructor) (fun k' t' I' oI' C' oC' D' m' ys' h' tk' E' hk' hC' hx' F' N' off' ne' hMark' => ?_) ?_
    · have hb0 := (exps_in k' hk').1
      have hb1 := (exps_in k' hk').2
      (try dsimp only)
      k_steps
      unfold Halt
      exact LCg.CompEnd.intro (by k_asm) (by k_asm) _ (fun p hp => hp) off' (.inr ⟨_, by k_mem, rfl, _, rfl⟩) (kcf_el rfl rfl rfl)
    · unfold KPfDone LCg.FinE
      intro ys hys D3 h3 tk3 F3 N3 o3
      (try simp only [LCg.Off1, and_true] at o3)
      (try dsimp only)
      k_steps
      rename _ < (11 : Int) => hw11
      refine' hret _ _ _ _ _ _ _ _ (great_prime (by omega)).1 (Int.le_of_lt (Int.lt_trans (by decide) (great_prime (by omega)).2.1)) (great_prime (by omega)).2.2 (by assumption) ?hF ?hN
      (case hF => k_asm)
      (case hN => walk_at "mine:home")
end
end
section
local macro_rules | `(tactic| walk_at "mine:pad11") => `(tactic| skip)
local macro_rules | `(tactic| walk_at "mine:pad12") => `(tactic| skip)
local macro_rules | `(tactic| walk_at "mine:pad13") => `(tactic| skip)
local macro_rules | `(tactic| walk_at "mine:pad14") => `(tactic| skip)
local macro_rules | `(tactic| walk_at "mine:pad15") => `(tactic| skip)
local macro_rules | `(tactic| walk_at "mine:pad16") => `(tactic| skip)
local macro_rules | `(tactic| walk_at "mine:pad17") => `(tactic| skip)
local macro_rules | `(tactic| walk_at "mine:pad18") => `(tactic| skip)
local macro_rules | `(tactic| walk_at "mine:pad19") => `(tactic| skip)
local macro_rules | `(tactic| walk_at "mine:off") => `(tactic| first | assumption | exact offNil | (refine offCons (by first | assumption | omega) (by first | assumption | omega) ?_; walk_at "mine:off"))
local macro_rules | `(tactic| walk_at "mine:led") => `(tactic| first | k_asm | (refine' nl1 ?kl; (case kl => k_asm)) | (refine' nl2 ?kl; (case kl => k_asm)) | (refine' nl3 ?kl; (case kl => k_asm)) | (refine' nl4 ?kl; (case kl => k_asm)) | (refine' nl5 ?kl; (case kl => k_asm)))
local macro_rules | `(tactic| walk_at "mine:back") => `(tactic| first | k_asm | (refine' nd1 ?kl; (case kl => k_asm)) | (refine' nd2 ?kl; (case kl => k_asm)) | (refine' nd3 ?kl; (case kl => k_asm)) | (refine' nd4 ?kl; (case kl => k_asm)) | (refine' nd5 ?kl; (case kl => k_asm)) | (refine' nd6 ?kl; (case kl => k_asm)))
local macro_rules | `(tactic| walk_at "mine:lt") => `(tactic| first | exact allLt_ne (by assumption) | exact allLt_ne (And.right (by assumption)) | exact allLt_ne (And.right (And.right (by assumption))) | exact allLt_ne (And.right (And.right (And.right (by assumption)))) | exact allLt_ne (And.right (And.right (And.right (And.right (by assumption))))) | assumption)
local macro_rules | `(tactic| walk_at "mine:sub") => `(tactic| (intro p9 hp9; first | exact hp9 | (simp only [List.mem_append, List.mem_cons, List.nil_append, List.cons_append] at hp9 ⊢; grind)))
local macro_rules | `(tactic| walk_at "mine:news") => `(tactic| first | k_asm | exact newsL (by k_asm) | exact newsR (by k_asm) | exact newsL (newsR (by k_asm)) | exact newsL (newsR (newsR (by k_asm))))
local macro_rules | `(tactic| walk_at "mine:enterC") => `(tactic| (refine' code_defC ?k1 ?k2 ?k3 ?k4 ?k5 ?kA ?kF ?kK ?k6 ?k7 ?k8 ?k9 ?kB ?kD ?_ ?c2 ?c3 ?c4; (case kA => exact rfl); (case kF => exact rfl); (case kK => first | assumption | exact rfl); (case k1 => k_asm); (case k2 => k_asm); (case k3 => k_asm); (case k4 => k_asm); (case k5 => k_asm); (case k6 => k_is); (case k7 => k_is); (case k8 => ktr_room); (case k9 => exact BindsTo.of_eq rfl); (case kB => exact rfl); (case kD => decide +kernel); (case c2 => exact rfl); (case c3 => exact rfl); (case c4 => exact rfl); k_whole; intro g' L' h' tk' cells' FG' F' N' Y' B' X' T' l1; (try k_lt l1); k_cells Y'; (try simp only [List.cons_append, List.nil_append] at N'); (try dsimp only); (try k_lift B'); (try k_fold)))
local macro_rules | `(tactic| walk_at "mine:rest") => `(tactic| first | k_asm | exact newsL (by k_asm) | exact newsT (by walk_at "mine:rest1") | exact newsR (by k_asm))
local macro_rules | `(tactic| walk_at "mine:rest1") => `(tactic| first | exact newsL (by k_asm) | exact newsT (newsL (by k_asm)) | exact newsT (newsT (newsL (by k_asm))) | exact newsT (newsT (newsT (newsL (by k_asm)))))
local macro_rules | `(tactic| walk_at "mine:home") => `(tactic| first | k_asm | exact newsT (by k_asm) | exact newsT (newsT (by k_asm)) | exact nApp (by k_asm) | exact nApp (newsT (by k_asm)) | exact nApp (newsT (newsT (by k_asm))) | exact nApp (newsT (newsT (newsT (by k_asm)))) | walk_at "mine:back")
local macro_rules | `(tactic| walk_at "call ref") => `(tactic| (k_here; (with_reducible show wpAny _ _ (call (Value.ref 73) [Value.ref _]) _ _ _); k_dflt (refine' prime_spec ?k1 ?k2 ?k3 ?k4 ?k5 ?kK ?kd ?ku ?kn ?ko ?kS ?_; (case k1 => k_asm); (case k2 => k_asm); (case k3 => k_asm); (case k4 => walk_at "mine:led"); (case k5 => k_asm); (case kK => first | exact rfl | assumption); (case kd => ktr_room); (case ku => ktr_units); (case kn => first | assumption | omega); (case ko => walk_at "mine:off"); (case kS => assumption); k_whole); intro v9 t9 a9 u9 vs9 ns9 h9 tk9 hp9 hv9 hw9 hS9 F9 N9; (try dsimp only); (try k_sweep); (try k_fold)))
theorem ne2 {h₀ h : Heap} {L : Addr} {a b : Addr × Obj} {r : List (Addr × Obj)} (N : News h₀ L h (a :: b :: r)) : News h₀ L h (a :: r) :=
  fun p hp => N p (by simp only [List.mem_cons] at hp ⊢; grind)
theorem ne3 {h₀ h : Heap} {L : Addr} {a b c : Addr × Obj} {r : List (Addr × Obj)} (N : News h₀ L h (a :: b :: c :: r)) : News h₀ L h (a :: r) :=
  fun p hp => N p (by simp only [List.mem_cons] at hp ⊢; grind)
theorem menu35 (b : Bool) : PrimeI ([3, 5].getD (if b = true then (1 : Int) else 0).toNat 0) ∧ 3 ≤ [3, 5].getD (if b = true then (1 : Int) else 0).toNat (0 : Int) ∧ [3, 5].getD (if b = true then (1 : Int) else 0).toNat (0 : Int) < 2 ^ 128 := by
  cases b with
  | true => exact ⟨(prime_ok (q := 5) (k := 1) (by decide +kernel)), by decide +kernel, by decide +kernel⟩
  | false => exact ⟨(prime_ok (q := 3) (k := 0) (by decide +kernel)), by decide +kernel, by decide +kernel⟩
section
variable {w : World} {p : Program} {loose : List Str} {mean : ExcName → Option Value} {mg mb : Str → Option Value}
    {dp un : Nat} {gd : Option (List Code)} {cn : Str} {cs : Scope} {a : Addr} {ccd : Value} {ccl : List (Str × Addr)} {outer : List Env} {A₀ : Around} {base h₀ : Heap} {L : Addr} {m : Str → Option Value} {s : Shared} {Q E : Value → Shared → Prop}
    {st cl : Addr} {at_ : Int} {t : Tok} {n n2 : Nat} {vs : List Value} {ns : List Int} {rest : List (Addr × Obj)}
theorem primes_spec
    (B : Below A₀ base outer h₀) (F : Fr h₀ L s.heap m) (X : (hd.heap_39 w.params).In h₀) (N : News h₀ L s.heap ((st, stO at_ t cl n) :: (cl, listOf vs.toArray n2) :: rest)) (T : Top p loose mean mg mb h₀) (hk : cs.kind = .function)
    (hd : dp + 3 < recursionLimit) (hu : un + 24 < cLine)
    (hne : @Ne Nat st cl) (ho : OwnOff rest [st, cl]) (hS : StOk at_ vs ns)
    (hret : ∀ (x y : Int) (t' t'' : Tok) (tp : Addr) (at' : Int) (t2 : Tok) (vs' : List Value) (ns' : List Int) (h' : Heap) (tk' : Nat), PrimeI x → 3 ≤ x → x < 2 ^ 128 → PrimeI y → 3 ≤ y → y < 2 ^ 128 → @LT.lt Nat _ st tp → @LT.lt Nat _ cl tp → AllLt tp rest → StOk at' vs' ns' → Fr h₀ L h' m →
      News h₀ L h' ((tp, { cls := .type "tuple", data := .seq #[.int x t', .int y t''] }) :: (st, stO at' t2 cl n) :: (cl, listOf vs'.toArray n2) :: rest) → Q (.ref tp) { s with heap := h', toks := tk' }) :
    wpAny (model PySem.Challenge.rw_ys0003_05.row.prog w) (ktrTop dp un gd cn cs L a ccd ccl outer) (call (.ref 80) [.ref st]) Q E s := by
  w_top off
  revert X; k_fill; intro X
  have hMk := kstMark
  refine wpAny_call ?_
  k_dflt cell_enter
  k_steps
  · refine' hret _ _ _ _ _ _ _ _ _ _ _ ?p1 ?p2 ?p3 (menu35 _).1 (menu35 _).2.1 (menu35 _).2.2 ?l1 ?l2 ?l3 ?hS ?hF ?hN
    (case hF => k_asm)
    (case hN => exact ne3 (by k_asm))
    (case p1 => assumption)
    (case p2 => assumption)
    (case p3 => assumption)
    (case l1 => omega)
    (case l2 => omega)
    (case l3 => first | exact And.right (And.right (And.right (And.right (by assumption)))) | assumption)
    (case hS => assumption)
  · refine' hret _ _ _ _ _ _ _ _ _ _ _ ?p1 ?p2 ?p3 ?q1 ?q2 ?q3 ?l1 ?l2 ?l3 ?hS ?hF ?hN
    (case hF => k_asm)
    (case hN => exact ne2 (by k_asm))
    (case p1 => assumption)
    (case p2 => assumption)
    (case p3 => assumption)
    (case q1 => assumption)
    (case q2 => assumption)
    (case q3 => assumption)
    (case l1 => omega)
    (case l2 => omega)
    (case l3 => first | exact And.right (And.right (And.right (by assumption))) | assumption)
    (case hS => assumption)
end
end
section
local macro_rules | `(tactic| walk_at "mine:pad19") => `(tactic| skip)
local macro_rules | `(tactic| walk_at "mine:pad20") => `(tactic| skip)
local macro_rules | `(tactic| walk_at "mine:off") => `(tactic| first | assumption | exact offNil | (refine offCons (by first | assumption | omega) (by first | assumption | omega) ?_; walk_at "mine:off"))
local macro_rules | `(tactic| walk_at "mine:led") => `(tactic| first | k_asm | (refine' nl1 ?kl; (case kl => k_asm)) | (refine' nl2 ?kl; (case kl => k_asm)) | (refine' nl3 ?kl; (case kl => k_asm)) | (refine' nl4 ?kl; (case kl => k_asm)) | (refine' nl5 ?kl; (case kl => k_asm)))
local macro_rules | `(tactic| walk_at "mine:back") => `(tactic| first | k_asm | (refine' nd1 ?kl; (case kl => k_asm)) | (refine' nd2 ?kl; (case kl => k_asm)) | (refine' nd3 ?kl; (case kl => k_asm)) | (refine' nd4 ?kl; (case kl => k_asm)) | (refine' nd5 ?kl; (case kl => k_asm)) | (refine' nd6 ?kl; (case kl => k_asm)))
local macro_rules | `(tactic| walk_at "mine:lt") => `(tactic| first | exact allLt_ne (by assumption) | exact allLt_ne (And.right (by assumption)) | exact allLt_ne (And.right (And.right (by assumption))) | exact allLt_ne (And.right (And.right (And.right (by assumption)))) | exact allLt_ne (And.right (And.right (And.right (And.right (by assumption))))) | assumption)
local macro_rules | `(tactic| walk_at "mine:sub") => `(tactic| (intro p9 hp9; first | exact hp9 | (simp only [List.mem_append, List.mem_cons, List.nil_append, List.cons_append] at hp9 ⊢; grind)))
local macro_rules | `(tactic| walk_at "mine:news") => `(tactic| first | k_asm | exact newsL (by k_asm) | exact newsR (by k_asm) | exact newsL (newsR (by k_asm)) | exact newsL (newsR (newsR (by k_asm))))
local macro_rules | `(tactic| walk_at "mine:enterC") => `(tactic| (refine' code_defC ?k1 ?k2 ?k3 ?k4 ?k5 ?kA ?kF ?kK ?k6 ?k7 ?k8 ?k9 ?kB ?kD ?_ ?c2 ?c3 ?c4; (case kA => exact rfl); (case kF => exact rfl); (case kK => first | assumption | exact rfl); (case k1 => k_asm); (case k2 => k_asm); (case k3 => k_asm); (case k4 => k_asm); (case k5 => k_asm); (case k6 => k_is); (case k7 => k_is); (case k8 => ktr_room); (case k9 => exact BindsTo.of_eq rfl); (case kB => exact rfl); (case kD => decide +kernel); (case c2 => exact rfl); (case c3 => exact rfl); (case c4 => exact rfl); k_whole; intro g' L' h' tk' cells' FG' F' N' Y' B' X' T' l1; (try k_lt l1); k_cells Y'; (try simp only [List.cons_append, List.nil_append] at N'); (try dsimp only); (try k_lift B'); (try k_fold)))
local macro_rules | `(tactic| walk_at "mine:rest") => `(tactic| first | k_asm | exact newsL (by k_asm) | exact newsT (by walk_at "mine:rest1") | exact newsR (by k_asm))
local macro_rules | `(tactic| walk_at "mine:rest1") => `(tactic| first | exact newsL (by k_asm) | exact newsT (newsL (by k_asm)) | exact newsT (newsT (newsL (by k_asm))) | exact newsT (newsT (newsT (newsL (by k_asm)))))
local macro_rules | `(tactic| walk_at "mine:home") => `(tactic| first | k_asm | exact newsT (by k_asm) | exact newsT (newsT (by k_asm)) | exact nApp (by k_asm) | exact nApp (newsT (by k_asm)) | exact nApp (newsT (newsT (by k_asm))) | exact nApp (newsT (newsT (newsT (by k_asm)))) | walk_at "mine:back")
local macro_rules | `(tactic| walk_at "call builtin:pow") => `(tactic| (k_here; (with_reducible show wpAny _ _ (call (Value.builtin "pow") [Value.int _ _, Value.int _ _, Value.int _ _]) _ _ _); (refine call_pow3 (by first | assumption | omega | exact Int.le_of_lt (Int.pow_pos (by decide))) (by first | assumption | omega) ?_)))
local macro_rules | `(tactic| walk_at "pyIter ref") => `(tactic| (k_here; refine Halt.out ?_))
local macro_rules | `(tactic| walk_at "exec For Name Call cons nil") => `(tactic| (k_here; (rename Fr _ _ _ _ => lF'); (with_unfolding_all refine' For_invVF lF' ?k1 ?k2 ?_; (case k1 => exact rfl); (case k2 => exact rfl); k_whole)))
local macro_rules | `(tactic| walk_at "InvEndN") => `(tactic| (k_here; refine Halt.out ?_))
local macro_rules | `(tactic| walk_at "exec While UnaryOp cons nil") => `(tactic| (k_here; refine Halt.out ?_))
local macro_rules | `(tactic| walk_at "exec While") => `(tactic| (k_here; refine Halt.out ?_))
local macro_rules | `(tactic| walk_at "exec For") => `(tactic| (k_here; (with_reducible show wpAny _ _ (exec (Stmt.For _ _ _ (_ :: _) _) _) _ _ _); (with_unfolding_all refine wpAny_For ?_)))
local macro_rules | `(tactic| walk_at "exec For Name Call cons cons") => `(tactic| (k_here; (with_reducible show wpAny _ _ (exec (Stmt.For _ _ _ (_ :: _) _) _) _ _ _); (with_unfolding_all refine wpAny_For ?_)))
local macro_rules | `(tactic| walk_at "InvEnd") => `(tactic| (k_here; refine Halt.out ?_))
section
variable {w : World} {p : Program} {loose : List Str} {mean : ExcName → Option Value} {mg mb : Str → Option Value}
    {dp un : Nat} {gd : Option (List Code)} {cn : Str} {cs : Scope} {a : Addr} {ccd : Value} {ccl : List (Str × Addr)} {outer : List Env} {A₀ : Around} {base h₀ : Heap} {L : Addr} {m : Str → Option Value} {s : Shared} {Q E : Value → Shared → Prop}
    {rest : List (Addr × Obj)}
theorem mr_spec {n : Int} {tn : Tok} {D : Addr} {dvs : List Value} {ds : List Int} {dn : Nat}
    (B : Below A₀ base outer h₀) (F : Fr h₀ L s.heap m) (X : (hd.heap_39 w.params).In h₀) (N : News h₀ L s.heap rest) (T : Top p loose mean mg mb h₀) (hk : cs.kind = .function)
    (hd : dp + 1 < recursionLimit) (hu : un + 8 < cLine)
    (hm : (D, listOf dvs.toArray dn) ∈ rest) (hIs : IntsAre dvs ds) (h2 : 2 ≤ n) (hb : n < 2 ^ 2000) (h3 : n = 3 → ds = [])
    (hret : ∀ (h' : Heap) (tk' : Nat), Fr h₀ L h' m → News h₀ L h' rest → Q (.bool (letsAll n ds)) { s with heap := h', toks := tk' }) :
    wpAny (model PySem.Challenge.rw_ys0003_05.row.prog w) (ktrTop dp un gd cn cs L a ccd ccl outer) (call (.ref 35) [.int n tn, .ref D]) Q E s := by
  w_top off
  revert X; k_fill; intro X
  have hMk := kstMark
  refine wpAny_call ?_
  k_dflt cell_enter
  k_steps
  unfold Halt
  rename Fr _ _ _ _ => lF
  rename News _ _ _ _ => lN
  with_unfolding_all
   refine' ksw_while (σ := Int × Tok × Int × Tok) (fun _ => rest) (fun c => [(Str.ofString "d", Value.int c.1 c.2.1), (Str.ofString "r", Value.int c.2.2.1 c.2.2.2)]) (fun _ => True) []
    (fun c => 0 < c.1 ∧ 0 ≤ c.2.2.1 ∧ n - 1 = c.1 * 2 ^ c.2.2.1.toNat) (fun c => c.1.toNat) (n - 1, _, 0, _) lF lN trivial (by kst_all) ⟨by dsimp only; omega, by dsimp only; omega, by simp⟩ ?_ ?_
  · rintro ⟨d, td, r, tr⟩ u h tk - hP F9 N9
    dsimp only at hP F9
    simp only [kstB, List.contains_nil, Bool.false_eq_true, if_false] at F9
    clear lF lN
    (try dsimp only)
    (try k_fold)
    k_steps
    · unfold Halt
      rename Builtin.bitAnd _ _ ≠ 0 => hodd
      have ho := mr_odd hP.1 hodd
      obtain ⟨hd0, hr0, hdr⟩ := hP
      rename Fr _ _ _ _ => lF
      rename News _ _ _ _ => lN
      with_unfolding_all
       refine' kst_listL (σ := Unit) (fun _ => rest) (fun _ => []) (fun _ => True) [Str.ofString "a", Str.ofString "x", Str.ofString "_"] (fun pre _ => ∀ dr ∈ pre, LetsP n dr) () (by rfl) (fun _ => hm) (by assumption) lF lN trivial (by kst_all) (by simp) ?_ ?_
      · intro c pre post k t' u h tk own hns hmem hoff hf hP F9 N9
        have hn3 : n - 3 ≠ 0 := by
          intro e
          rw [h3 (by omega)] at hmem
          cases hmem
        clear lF lN
        simp only [kstB] at F9
        (try dsimp only)
        (try k_fold)
        have hr2 := twos_lt hb hd0 hr0 hdr
        clear hb
        k_steps
        · -- the power is 1
          unfold Halt
          rename _ = (1 : Int) => hx1
          refine kst_end () (by k_asm) (by k_asm) (by kst_in) (by intro p hp; kst_mem) (by rfl) trivial (by kst_all) (by kst_same) ?_
          exact all_snoc hP ((lets_of hd0 hdr ho (by omega)).mpr (passes_one hx1))
        · -- the power is n - 1
          unfold Halt
          rename _ = n - 1 => hx1
          refine kst_end () (by k_asm) (by k_asm) (by kst_in) (by intro p hp; kst_mem) (by rfl) trivial (by kst_all) (by kst_same) ?_
          exact all_snoc hP ((lets_of hd0 hdr ho (by omega)).mpr (passes_zero hx1))
        · -- the squares
          unfold Halt
          rename IsRange _ _ _ _ _ _ _ _ => rgX
          rename _ ≠ (1 : Int) => hne1
          rename _ ≠ n - 1 => hnen
          rename Fr _ _ _ _ => lF
          rename News _ _ _ _ => lN
          have hlet := fun (B : Int) (hB : B = k.fmod (n - 3) + 2) => lets_of (n := n) (k := k) hd0 hdr ho hB
          generalize hx0 : (k.fmod (n - 3) + 1 + 1) ^ d.toNat % n = x0 at *
          have hlt0 := (hlet _ rfl)
          have hB2 : k.fmod (n - 3) + 2 = k.fmod (n - 3) + 1 + 1 := by omega
          rw [hB2, hx0] at hlt0
          have hx00 : x0 ^ (2 ^ 0) % n = x0 := by
            rw [Nat.pow_zero, Int.pow_one, ← hx0, Int.emod_emod_of_dvd _ (Int.dvd_refl n)]
          with_unfolding_all
           refine' fe_range (δ := Int × Tok) (fun c => [(Str.ofString "x", Value.int c.1 c.2)]) [] (fun i c => c.1 = x0 ^ (2 ^ i) % n ∧ ∀ j, j ≤ i → x0 ^ (2 ^ j) % n ≠ n - 1) (x0, _)
             (by rfl) (by rfl) (by rfl) rgX (small_one (by omega) (by omega) (by omega) (by omega)) (rangeSize_nat _ _) lF lN (by kst_all) ?_ ?_ ?_
          · refine ⟨hx00.symm, fun j hj => ?_⟩
            rw [Nat.le_zero.mp hj, hx00]
            exact hnen
          · rintro ⟨x, tx⟩ i t3 u3 h3 tk3 own3 hi3 hP3 F9 N9
            dsimp only at hP3 F9
            obtain ⟨rfl, hall⟩ := hP3
            simp only [kstB, List.contains_nil, Bool.false_eq_true, if_false] at F9
            clear lF lN
            (try dsimp only)
            (try k_fold)
            k_steps
            · rename _ = (1 : Int) => hx1
              rw [sq_step] at hx1
              exact retB (Q := Q) (s := s) hret (letsAll_false hmem (fun hl => not_passes_one (big_of hd0 (by omega) hdr) hne1 hall hx1 (hlt0.mp hl))).symm (by k_asm) (by walk_at "mine:news")
            · unfold Halt
              rename _ = n - 1 => hx1
              rw [sq_step] at hx1
              refine kst_end () (by k_asm) (by k_asm) (by walk_at "mine:sub") (by walk_at "mine:sub") (by rfl) trivial (by kst_all) (by kst_same) ?_
              exact all_snoc hP (hlt0.mpr (passes_at (i + 1) (by omega) hx1))
            · unfold Halt
              rename _ ≠ n - 1 => hx1
              rw [sq_step] at hx1
              refine fe_end (_, _) (by k_asm) (by k_asm) (by walk_at "mine:sub") (by kst_all) (by kst_same) ⟨?_, ?_⟩
              · exact sq_step i
              · intro j hj
                by_cases hji : j ≤ i
                · exact hall j hji
                · rw [show j = i + 1 by omega]
                  exact hx1
          · rintro ⟨x, tx⟩ u3 h3 tk3 hP3 F9 N9
            dsimp only at hP3 F9
            clear lF lN
            simp only [kstB, List.contains_nil, Bool.false_eq_true, if_false] at F9
            (try dsimp only)
            (try k_fold)
            k_steps
            exact retB (Q := Q) (s := s) hret (letsAll_false hmem (fun hl => not_passes hne1 (fun j hj => hP3.2 j (by omega)) (hlt0.mp hl))).symm (by k_asm) (by walk_at "mine:news")
      · intro c u h tk hf hP F9 N9
        clear lF lN
        simp only [kstB] at F9
        (try dsimp only)
        k_steps
        exact retB (Q := Q) (s := s) hret (letsAll_true.mpr hP).symm (by k_asm) (by k_asm)
    · rename Builtin.bitAnd _ _ = 0 => hev
      have hst := mr_half hP hev
      exact ksw_end (_, _, _, _) (by k_asm) (by k_asm) (fun p hp => hp) trivial (by kst_all) (by intro z h1 h2; simp only [List.forall_mem_cons, List.not_mem_nil, false_implies, implies_true, and_true, ne_eq] at h1; simp [h1]) hst.1 hst.2
  · passes_own
end
end
section
local macro_rules | `(tactic| walk_at "mine:pad11") => `(tactic| skip)
local macro_rules | `(tactic| walk_at "mine:pad12") => `(tactic| skip)
local macro_rules | `(tactic| walk_at "mine:pad13") => `(tactic| skip)
local macro_rules | `(tactic| walk_at "mine:pad14") => `(tactic| skip)
local macro_rules | `(tactic| walk_at "mine:pad15") => `(tactic| skip)
local macro_rules | `(tactic| walk_at "mine:pad16") => `(tactic| skip)
local macro_rules | `(tactic| walk_at "mine:pad17") => `(tactic| skip)
local macro_rules | `(tactic| walk_at "mine:pad18") => `(tactic| skip)
local macro_rules | `(tactic| walk_at "mine:pad19") => `(tactic| skip)
local macro_rules | `(tactic| walk_at "mine:pad20") => `(tactic| skip)
local macro_rules | `(tactic| walk_at "mine:pad21") => `(tactic| skip)
local macro_rules | `(tactic| walk_at "mine:off") => `(tactic| first | assumption | exact offNil | (refine offCons (by first | assumption | omega) (by first | assumption | omega) ?_; walk_at "mine:off"))
local macro_rules | `(tactic| walk_at "mine:led") => `(tactic| first | k_asm | (refine' nl1 ?kl; (case kl => k_asm)) | (refine' nl2 ?kl; (case kl => k_asm)) | (refine' nl3 ?kl; (case kl => k_asm)) | (refine' nl4 ?kl; (case kl => k_asm)) | (refine' nl5 ?kl; (case kl => k_asm)))
local macro_rules | `(tactic| walk_at "mine:back") => `(tactic| first | k_asm | (refine' nd1 ?kl; (case kl => k_asm)) | (refine' nd2 ?kl; (case kl => k_asm)) | (refine' nd3 ?kl; (case kl => k_asm)) | (refine' nd4 ?kl; (case kl => k_asm)) | (refine' nd5 ?kl; (case kl => k_asm)) | (refine' nd6 ?kl; (case kl => k_asm)))
local macro_rules | `(tactic| walk_at "mine:lt") => `(tactic| first | exact allLt_ne (by assumption) | exact allLt_ne (And.right (by assumption)) | exact allLt_ne (And.right (And.right (by assumption))) | exact allLt_ne (And.right (And.right (And.right (by assumption)))) | exact allLt_ne (And.right (And.right (And.right (And.right (by assumption))))) | assumption)
local macro_rules | `(tactic| walk_at "mine:sub") => `(tactic| (intro p9 hp9; first | exact hp9 | (simp only [List.mem_append, List.mem_cons, List.nil_append, List.cons_append] at hp9 ⊢; grind)))
local macro_rules | `(tactic| walk_at "mine:news") => `(tactic| first | k_asm | exact newsL (by k_asm) | exact newsR (by k_asm) | exact newsL (newsR (by k_asm)) | exact newsL (newsR (newsR (by k_asm))))
local macro_rules | `(tactic| walk_at "mine:enterC") => `(tactic| (refine' code_defC ?k1 ?k2 ?k3 ?k4 ?k5 ?kA ?kF ?kK ?k6 ?k7 ?k8 ?k9 ?kB ?kD ?_ ?c2 ?c3 ?c4; (case kA => exact rfl); (case kF => exact rfl); (case kK => first | assumption | exact rfl); (case k1 => k_asm); (case k2 => k_asm); (case k3 => k_asm); (case k4 => k_asm); (case k5 => k_asm); (case k6 => k_is); (case k7 => k_is); (case k8 => ktr_room); (case k9 => exact BindsTo.of_eq rfl); (case kB => exact rfl); (case kD => decide +kernel); (case c2 => exact rfl); (case c3 => exact rfl); (case c4 => exact rfl); k_whole; intro g' L' h' tk' cells' FG' F' N' Y' B' X' T' l1; (try k_lt l1); k_cells Y'; (try simp only [List.cons_append, List.nil_append] at N'); (try dsimp only); (try k_lift B'); (try k_fold)))
local macro_rules | `(tactic| walk_at "mine:rest") => `(tactic| first | k_asm | exact newsL (by k_asm) | exact newsT (by walk_at "mine:rest1") | exact newsR (by k_asm))
local macro_rules | `(tactic| walk_at "mine:rest1") => `(tactic| first | exact newsL (by k_asm) | exact newsT (newsL (by k_asm)) | exact newsT (newsT (newsL (by k_asm))) | exact newsT (newsT (newsT (newsL (by k_asm)))))
local macro_rules | `(tactic| walk_at "mine:home") => `(tactic| first | k_asm | exact newsT (by k_asm) | exact newsT (newsT (by k_asm)) | exact nApp (by k_asm) | exact nApp (newsT (by k_asm)) | exact nApp (newsT (newsT (by k_asm))) | exact nApp (newsT (newsT (newsT (by k_asm)))) | walk_at "mine:back")
local macro_rules | `(tactic| walk_at "call ref") => `(tactic| (k_here; (with_reducible show wpAny _ _ (call (Value.ref _) _) _ _ _); (refine wpAny_call ?_); (have hkF : ScopeKind.function = ScopeKind.function := rfl); k_dflt cell_enter))
noncomputable def mrB (n : Int) (ds : List Int) : Bool := if n < 2 then false else letsAll n ds
section
variable {w : World} {p : Program} {loose : List Str} {mean : ExcName → Option Value} {mg mb : Str → Option Value}
    {dp un : Nat} {gd : Option (List Code)} {cn : Str} {cs : Scope} {a : Addr} {ccd : Value} {ccl : List (Str × Addr)} {outer : List Env} {A₀ : Around} {base h₀ : Heap} {L : Addr} {m : Str → Option Value} {s : Shared} {Q E : Value → Shared → Prop}
    {rest : List (Addr × Obj)}
theorem mr_low {n : Int} {tn : Tok} {D : Addr}
    (B : Below A₀ base outer h₀) (F : Fr h₀ L s.heap m) (X : (hd.heap_39 w.params).In h₀) (N : News h₀ L s.heap rest) (T : Top p loose mean mg mb h₀) (hk : cs.kind = .function)
    (hd : dp + 1 < recursionLimit) (hu : un + 8 < cLine) (h2 : n < 2)
    (hret : ∀ (h' : Heap) (tk' : Nat), Fr h₀ L h' m → News h₀ L h' rest → Q (.bool false) { s with heap := h', toks := tk' }) :
    wpAny (model PySem.Challenge.rw_ys0003_05.row.prog w) (ktrTop dp un gd cn cs L a ccd ccl outer) (call (.ref 35) [.int n tn, .ref D]) Q E s := by
  w_top off
  revert X; k_fill; intro X
  have hMk := kstMark
  refine wpAny_call ?_
  k_dflt cell_enter
  k_steps
  exact hret _ _ (by k_asm) (by k_asm)
theorem mr_call {n : Int} {tn : Tok} {D : Addr} {dvs : List Value} {ds : List Int} {dn : Nat}
    (B : Below A₀ base outer h₀) (F : Fr h₀ L s.heap m) (X : (hd.heap_39 w.params).In h₀) (N : News h₀ L s.heap rest) (T : Top p loose mean mg mb h₀) (hk : cs.kind = .function)
    (hd : dp + 1 < recursionLimit) (hu : un + 8 < cLine)
    (hm : (D, listOf dvs.toArray dn) ∈ rest) (hIs : IntsAre dvs ds) (hb : n < 2 ^ 2000) (h3 : n = 3 → ds = [])
    (hret : ∀ (h' : Heap) (tk' : Nat), Fr h₀ L h' m → News h₀ L h' rest → Q (.bool (mrB n ds)) { s with heap := h', toks := tk' }) :
    wpAny (model PySem.Challenge.rw_ys0003_05.row.prog w) (ktrTop dp un gd cn cs L a ccd ccl outer) (call (.ref 35) [.int n tn, .ref D]) Q E s := by
  by_cases h2 : n < 2
  · refine mr_low B F X N T hk hd hu h2 fun h' tk' F' N' => ?_
    have := hret h' tk' F' N'
    rwa [show mrB n ds = false from if_pos h2] at this
  · refine mr_spec B F X N T hk hd hu hm hIs (by omega) hb h3 fun h' tk' F' N' => ?_
    have := hret h' tk' F' N'
    rwa [show mrB n ds = letsAll n ds from if_neg h2] at this
end
end
section
local macro_rules | `(tactic| walk_at "mine:pad11") => `(tactic| skip)
local macro_rules | `(tactic| walk_at "mine:pad12") => `(tactic| skip)
local macro_rules | `(tactic| walk_at "mine:pad13") => `(tactic| skip)
local macro_rules | `(tactic| walk_at "mine:pad14") => `(tactic| skip)
local macro_rules | `(tactic| walk_at "mine:pad15") => `(tactic| skip)
local macro_rules | `(tactic| walk_at "mine:pad16") => `(tactic| skip)
local macro_rules | `(tactic| walk_at "mine:pad17") => `(tactic| skip)
local macro_rules | `(tactic| walk_at "mine:pad18") => `(tactic| skip)
local macro_rules | `(tactic| walk_at "mine:pad19") => `(tactic| skip)
local macro_rules | `(tactic| walk_at "mine:pad20") => `(tactic| skip)
local macro_rules | `(tactic| walk_at "mine:pad21") => `(tactic| skip)
local macro_rules | `(tactic| walk_at "mine:pad22") => `(tactic| skip)
local macro_rules | `(tactic| walk_at "mine:off") => `(tactic| first | assumption | exact offNil | (refine offCons (by first | assumption | omega) (by first | assumption | omega) ?_; walk_at "mine:off"))
local macro_rules | `(tactic| walk_at "mine:led") => `(tactic| first | k_asm | (refine' nl1 ?kl; (case kl => k_asm)) | (refine' nl2 ?kl; (case kl => k_asm)) | (refine' nl3 ?kl; (case kl => k_asm)) | (refine' nl4 ?kl; (case kl => k_asm)) | (refine' nl5 ?kl; (case kl => k_asm)))
local macro_rules | `(tactic| walk_at "mine:back") => `(tactic| first | k_asm | (refine' nd1 ?kl; (case kl => k_asm)) | (refine' nd2 ?kl; (case kl => k_asm)) | (refine' nd3 ?kl; (case kl => k_asm)) | (refine' nd4 ?kl; (case kl => k_asm)) | (refine' nd5 ?kl; (case kl => k_asm)) | (refine' nd6 ?kl; (case kl => k_asm)))
local macro_rules | `(tactic| walk_at "mine:lt") => `(tactic| first | exact allLt_ne (by assumption) | exact allLt_ne (And.right (by assumption)) | exact allLt_ne (And.right (And.right (by assumption))) | exact allLt_ne (And.right (And.right (And.right (by assumption)))) | exact allLt_ne (And.right (And.right (And.right (And.right (by assumption))))) | assumption)
local macro_rules | `(tactic| walk_at "mine:sub") => `(tactic| (intro p9 hp9; first | exact hp9 | (simp only [List.mem_append, List.mem_cons, List.nil_append, List.cons_append] at hp9 ⊢; grind)))
local macro_rules | `(tactic| walk_at "mine:news") => `(tactic| first | k_asm | exact newsL (by k_asm) | exact newsR (by k_asm) | exact newsL (newsR (by k_asm)) | exact newsL (newsR (newsR (by k_asm))))
local macro_rules | `(tactic| walk_at "mine:enterC") => `(tactic| (refine' code_defC ?k1 ?k2 ?k3 ?k4 ?k5 ?kA ?kF ?kK ?k6 ?k7 ?k8 ?k9 ?kB ?kD ?_ ?c2 ?c3 ?c4; (case kA => exact rfl); (case kF => exact rfl); (case kK => first | assumption | exact rfl); (case k1 => k_asm); (case k2 => k_asm); (case k3 => k_asm); (case k4 => k_asm); (case k5 => k_asm); (case k6 => k_is); (case k7 => k_is); (case k8 => ktr_room); (case k9 => exact BindsTo.of_eq rfl); (case kB => exact rfl); (case kD => decide +kernel); (case c2 => exact rfl); (case c3 => exact rfl); (case c4 => exact rfl); k_whole; intro g' L' h' tk' cells' FG' F' N' Y' B' X' T' l1; (try k_lt l1); k_cells Y'; (try simp only [List.cons_append, List.nil_append] at N'); (try dsimp only); (try k_lift B'); (try k_fold)))
local macro_rules | `(tactic| walk_at "mine:rest") => `(tactic| first | k_asm | exact newsL (by k_asm) | exact newsT (by walk_at "mine:rest1") | exact newsR (by k_asm))
local macro_rules | `(tactic| walk_at "mine:rest1") => `(tactic| first | exact newsL (by k_asm) | exact newsT (newsL (by k_asm)) | exact newsT (newsT (newsL (by k_asm))) | exact newsT (newsT (newsT (newsL (by k_asm)))))
local macro_rules | `(tactic| walk_at "mine:home") => `(tactic| first | k_asm | exact newsT (by k_asm) | exact newsT (newsT (by k_asm)) | exact nApp (by k_asm) | exact nApp (newsT (by k_asm)) | exact nApp (newsT (newsT (by k_asm))) | exact nApp (newsT (newsT (newsT (by k_asm)))) | walk_at "mine:back")
local macro_rules | `(tactic| walk_at "call ref") => `(tactic| (k_here; (with_reducible show wpAny _ _ (call (Value.ref _) _) _ _ _); (refine wpAny_call ?_); (have hkF : ScopeKind.function = ScopeKind.function := rfl); k_dflt cell_enter))
/-- the rounds by the number's bits -/
def rounds (x : Int) : Int := if 1536 ≤ Builtin.Int.intBits x then 3 else if 1024 ≤ Builtin.Int.intBits x then 4 else if 512 ≤ Builtin.Int.intBits x then 7 else 10
section
variable {w : World} {p : Program} {loose : List Str} {mean : ExcName → Option Value} {mg mb : Str → Option Value}
    {dp un : Nat} {gd : Option (List Code)} {cn : Str} {cs : Scope} {a : Addr} {ccd : Value} {ccl : List (Str × Addr)} {outer : List Env} {A₀ : Around} {base h₀ : Heap} {L : Addr} {m : Str → Option Value} {s : Shared} {Q E : Value → Shared → Prop}
    {rest : List (Addr × Obj)}
theorem rounds_spec {x : Int} {t : Tok}
    (B : Below A₀ base outer h₀) (F : Fr h₀ L s.heap m) (X : (hd.heap_39 w.params).In h₀) (N : News h₀ L s.heap rest) (T : Top p loose mean mg mb h₀) (hk : cs.kind = .function)
    (hd : dp + 2 < recursionLimit) (hu : un + 16 < cLine)
    (hret : ∀ (t' : Tok) (h' : Heap) (tk' : Nat), Fr h₀ L h' m → News h₀ L h' rest → Q (.int (rounds x) t') { s with heap := h', toks := tk' }) :
    wpAny (model PySem.Challenge.rw_ys0003_05.row.prog w) (ktrTop dp un gd cn cs L a ccd ccl outer) (call (.ref 28) [.int x t]) Q E s := by
  w_top off
  revert X; k_fill; intro X
  have hMk := kstMark
  refine wpAny_call ?_
  k_dflt cell_enter
  k_steps
  all_goals exact cb_retI (Q := Q) (s := s) hret (by unfold rounds; (repeat' split) <;> first | rfl | omega) (by k_asm) (by k_asm)
end
end
section
local macro_rules | `(tactic| walk_at "mine:pad15") => `(tactic| skip)
local macro_rules | `(tactic| walk_at "mine:pad16") => `(tactic| skip)
local macro_rules | `(tactic| walk_at "mine:pad17") => `(tactic| skip)
local macro_rules | `(tactic| walk_at "mine:pad18") => `(tactic| skip)
local macro_rules | `(tactic| walk_at "mine:pad19") => `(tactic| skip)
local macro_rules | `(tactic| walk_at "mine:pad20") => `(tactic| skip)
local macro_rules | `(tactic| walk_at "mine:pad21") => `(tactic| skip)
local macro_rules | `(tactic| walk_at "mine:pad22") => `(tactic| skip)
local macro_rules | `(tactic| walk_at "mine:pad23") => `(tactic| skip)
local macro_rules | `(tactic| walk_at "mine:off") => `(tactic| first | assumption | exact offNil | (refine offCons (by first | assumption | omega) (by first | assumption | omega) ?_; walk_at "mine:off"))
local macro_rules | `(tactic| walk_at "mine:led") => `(tactic| first | k_asm | (refine' nl1 ?kl; (case kl => k_asm)) | (refine' nl2 ?kl; (case kl => k_asm)) | (refine' nl3 ?kl; (case kl => k_asm)) | (refine' nl4 ?kl; (case kl => k_asm)) | (refine' nl5 ?kl; (case kl => k_asm)))
local macro_rules | `(tactic| walk_at "mine:back") => `(tactic| first | k_asm | (refine' nd1 ?kl; (case kl => k_asm)) | (refine' nd2 ?kl; (case kl => k_asm)) | (refine' nd3 ?kl; (case kl => k_asm)) | (refine' nd4 ?kl; (case kl => k_asm)) | (refine' nd5 ?kl; (case kl => k_asm)) | (refine' nd6 ?kl; (case kl => k_asm)))
local macro_rules | `(tactic| walk_at "mine:lt") => `(tactic| first | exact allLt_ne (by assumption) | exact allLt_ne (And.right (by assumption)) | exact allLt_ne (And.right (And.right (by assumption))) | exact allLt_ne (And.right (And.right (And.right (by assumption)))) | exact allLt_ne (And.right (And.right (And.right (And.right (by assumption))))) | assumption)
local macro_rules | `(tactic| walk_at "mine:sub") => `(tactic| (intro p9 hp9; first | exact hp9 | (simp only [List.mem_append, List.mem_cons, List.nil_append, List.cons_append] at hp9 ⊢; grind)))
local macro_rules | `(tactic| walk_at "mine:news") => `(tactic| first | k_asm | exact newsL (by k_asm) | exact newsR (by k_asm) | exact newsL (newsR (by k_asm)) | exact newsL (newsR (newsR (by k_asm))))
local macro_rules | `(tactic| walk_at "mine:enterC") => `(tactic| (refine' code_defC ?k1 ?k2 ?k3 ?k4 ?k5 ?kA ?kF ?kK ?k6 ?k7 ?k8 ?k9 ?kB ?kD ?_ ?c2 ?c3 ?c4; (case kA => exact rfl); (case kF => exact rfl); (case kK => first | assumption | exact rfl); (case k1 => k_asm); (case k2 => k_asm); (case k3 => k_asm); (case k4 => k_asm); (case k5 => k_asm); (case k6 => k_is); (case k7 => k_is); (case k8 => ktr_room); (case k9 => exact BindsTo.of_eq rfl); (case kB => exact rfl); (case kD => decide +kernel); (case c2 => exact rfl); (case c3 => exact rfl); (case c4 => exact rfl); k_whole; intro g' L' h' tk' cells' FG' F' N' Y' B' X' T' l1; (try k_lt l1); k_cells Y'; (try simp only [List.cons_append, List.nil_append] at N'); (try dsimp only); (try k_lift B'); (try k_fold)))
local macro_rules | `(tactic| walk_at "mine:rest") => `(tactic| first | k_asm | exact newsL (by k_asm) | exact newsT (by walk_at "mine:rest1") | exact newsR (by k_asm))
local macro_rules | `(tactic| walk_at "mine:rest1") => `(tactic| first | exact newsL (by k_asm) | exact newsT (newsL (by k_asm)) | exact newsT (newsT (newsL (by k_asm))) | exact newsT (newsT (newsT (newsL (by k_asm)))))
local macro_rules | `(tactic| walk_at "mine:home") => `(tactic| first | k_asm | exact newsT (by k_asm) | exact newsT (newsT (by k_asm)) | exact nApp (by k_asm) | exact nApp (newsT (by k_asm)) | exact nApp (newsT (newsT (by k_asm))) | exact nApp (newsT (newsT (newsT (by k_asm)))) | walk_at "mine:back")
local macro_rules | `(tactic| walk_at "call ref") => `(tactic| (k_here; (with_reducible show wpAny _ _ (call (Value.ref 28) [Value.int _ _]) _ _ _); k_dflt (refine' rounds_spec ?k1 ?k2 ?k3 ?k4 ?k5 ?kK ?kd ?ku ?_; (case k1 => k_asm); (case k2 => k_asm); (case k3 => k_asm); (case k4 => k_asm); (case k5 => k_asm); (case kK => first | exact rfl | assumption); (case kd => ktr_room); (case ku => ktr_units); k_whole); intro t9 h9 tk9 F9 N9; (try dsimp only); (try k_sweep); (try k_fold)))
local macro_rules | `(tactic| walk_at "call ref") => `(tactic| (k_here; (with_reducible show wpAny _ _ (call (Value.ref 35) [Value.int _ _, Value.ref _]) _ _ _); k_dflt (refine' mr_call ?k1 ?k2 ?k3 ?k4 ?k5 ?kK ?kd ?ku ?km ?ki ?kb ?k3' ?_; (case k1 => k_asm); (case k2 => k_asm); (case k3 => k_asm); (case k4 => k_asm); (case k5 => k_asm); (case kK => first | exact rfl | assumption); (case kd => ktr_room); (case ku => ktr_units); (case km => first | assumption | k_mem | (simp only [List.mem_cons, List.mem_append]; grind)); (case ki => walk_at "mine:ints"); (case kb => walk_at "mine:small"); (case k3' => first | assumption | (intro h9; exfalso; omega)); k_whole); intro h9 tk9 F9 N9; (try dsimp only); (try k_sweep); (try k_fold)))
local macro_rules | `(tactic| walk_at "mine:ints") => `(tactic| first | assumption | (repeat' constructor))
local macro_rules | `(tactic| walk_at "mine:small") => `(tactic| first | assumption | decide +kernel)
local macro_rules | `(tactic| walk_at "subscriptTail Name Slice ref ref") => `(tactic| (k_here; (with_reducible show wpAny _ _ (subscriptTail _ (PySem.Expr.Slice none (some _) none _) (Value.ref _) (Value.ref _)) _ _ _); k_dflt (refine' kmk_slice_ints ?F ?N ?l ?p ?q ?i ?m ?c ?_ ?s ?t ?z; (case F => k_asm); (case N => k_asm); (case l => exact News.isList (by k_asm) (by first | assumption | k_mem)); (case p => kmk_part); (case q => kmk_part); (case i => assumption); (case m => exact kmk_upto (by assumption) (by first | assumption | omega)); (case c => exact rfl); (case s => with_unfolding_all rfl); (case t => kmk_pure); (case z => exact kmk_sz (by assumption) (by rw [sizeLine_eq]; omega))); intro D' ws' h' F' N' l1 hI' hC' hL'; (try k_lt l1); (try k_sweep)))
noncomputable def ipB (x : Int) (ds : List Int) : Bool := if x < 10 then [2, 3, 5, 7].any (fun y => y == x) else if Builtin.bitAnd x 1 = 0 then false else mrB x (ds.take (rounds x + 1).toNat)
theorem rounds_pos (x : Int) : 0 ≤ rounds x + 1 ∧ rounds x + 1 ≤ 11 := by
  unfold rounds
  repeat' split
  all_goals omega
section
variable {w : World} {p : Program} {loose : List Str} {mean : ExcName → Option Value} {mg mb : Str → Option Value}
    {dp un : Nat} {gd : Option (List Code)} {cn : Str} {cs : Scope} {a : Addr} {ccd : Value} {ccl : List (Str × Addr)} {outer : List Env} {A₀ : Around} {base h₀ : Heap} {L : Addr} {m : Str → Option Value} {s : Shared} {Q E : Value → Shared → Prop}
    {rest : List (Addr × Obj)}
theorem isp_spec {n : Int} {tn : Tok} {D : Addr} {dvs : List Value} {ds : List Int} {dn : Nat}
    (B : Below A₀ base outer h₀) (F : Fr h₀ L s.heap m) (X : (hd.heap_39 w.params).In h₀) (N : News h₀ L s.heap rest) (T : Top p loose mean mg mb h₀) (hk : cs.kind = .function)
    (hd : dp + 3 < recursionLimit) (hu : un + 24 < cLine)
    (hm : (D, listOf dvs.toArray dn) ∈ rest) (hIs : IntsAre dvs ds) (hlen : ds.length ≤ 64) (hb : n < 2 ^ 2000)
    (hret : ∀ (h' : Heap) (tk' : Nat), Fr h₀ L h' m → News h₀ L h' rest → Q (.bool (ipB n ds)) { s with heap := h', toks := tk' }) :
    wpAny (model PySem.Challenge.rw_ys0003_05.row.prog w) (ktrTop dp un gd cn cs L a ccd ccl outer) (call (.ref 42) [.int n tn, .ref D]) Q E s := by
  w_top off
  revert X; k_fill; intro X
  have hMk := kstMark
  have hr := (rounds_pos n).1
  refine wpAny_call ?_
  k_dflt cell_enter
  k_steps
  · exact retB (Q := Q) (s := s) hret (by unfold ipB; rw [if_pos (by assumption)]) (by k_asm) (by first | k_asm | exact newsT (by k_asm))
  · exact retB (Q := Q) (s := s) hret (by unfold ipB; rw [if_neg (by assumption), if_neg (by assumption)]) (by k_asm) (by first | k_asm | exact newsT (by k_asm))
  · exact retB (Q := Q) (s := s) hret (by unfold ipB; rw [if_neg (by assumption), if_pos (by assumption)]) (by k_asm) (by first | k_asm | exact newsT (by k_asm))
end
end
section
local macro_rules | `(tactic| walk_at "mine:pad18") => `(tactic| skip)
local macro_rules | `(tactic| walk_at "mine:pad19") => `(tactic| skip)
local macro_rules | `(tactic| walk_at "mine:pad20") => `(tactic| skip)
local macro_rules | `(tactic| walk_at "mine:pad21") => `(tactic| skip)
local macro_rules | `(tactic| walk_at "mine:pad22") => `(tactic| skip)
local macro_rules | `(tactic| walk_at "mine:pad23") => `(tactic| skip)
local macro_rules | `(tactic| walk_at "mine:pad24") => `(tactic| skip)
local macro_rules | `(tactic| walk_at "mine:off") => `(tactic| first | assumption | exact offNil | (refine offCons (by first | assumption | omega) (by first | assumption | omega) ?_; walk_at "mine:off"))
local macro_rules | `(tactic| walk_at "mine:led") => `(tactic| first | k_asm | (refine' nl1 ?kl; (case kl => k_asm)) | (refine' nl2 ?kl; (case kl => k_asm)) | (refine' nl3 ?kl; (case kl => k_asm)) | (refine' nl4 ?kl; (case kl => k_asm)) | (refine' nl5 ?kl; (case kl => k_asm)))
local macro_rules | `(tactic| walk_at "mine:back") => `(tactic| first | k_asm | (refine' nd1 ?kl; (case kl => k_asm)) | (refine' nd2 ?kl; (case kl => k_asm)) | (refine' nd3 ?kl; (case kl => k_asm)) | (refine' nd4 ?kl; (case kl => k_asm)) | (refine' nd5 ?kl; (case kl => k_asm)) | (refine' nd6 ?kl; (case kl => k_asm)))
local macro_rules | `(tactic| walk_at "mine:lt") => `(tactic| first | exact allLt_ne (by assumption) | exact allLt_ne (And.right (by assumption)) | exact allLt_ne (And.right (And.right (by assumption))) | exact allLt_ne (And.right (And.right (And.right (by assumption)))) | exact allLt_ne (And.right (And.right (And.right (And.right (by assumption))))) | assumption)
local macro_rules | `(tactic| walk_at "mine:sub") => `(tactic| (intro p9 hp9; first | exact hp9 | (simp only [List.mem_append, List.mem_cons, List.nil_append, List.cons_append] at hp9 ⊢; grind)))
local macro_rules | `(tactic| walk_at "mine:news") => `(tactic| first | k_asm | exact newsL (by k_asm) | exact newsR (by k_asm) | exact newsL (newsR (by k_asm)) | exact newsL (newsR (newsR (by k_asm))))
local macro_rules | `(tactic| walk_at "mine:enterC") => `(tactic| (refine' code_defC ?k1 ?k2 ?k3 ?k4 ?k5 ?kA ?kF ?kK ?k6 ?k7 ?k8 ?k9 ?kB ?kD ?_ ?c2 ?c3 ?c4; (case kA => exact rfl); (case kF => exact rfl); (case kK => first | assumption | exact rfl); (case k1 => k_asm); (case k2 => k_asm); (case k3 => k_asm); (case k4 => k_asm); (case k5 => k_asm); (case k6 => k_is); (case k7 => k_is); (case k8 => ktr_room); (case k9 => exact BindsTo.of_eq rfl); (case kB => exact rfl); (case kD => decide +kernel); (case c2 => exact rfl); (case c3 => exact rfl); (case c4 => exact rfl); k_whole; intro g' L' h' tk' cells' FG' F' N' Y' B' X' T' l1; (try k_lt l1); k_cells Y'; (try simp only [List.cons_append, List.nil_append] at N'); (try dsimp only); (try k_lift B'); (try k_fold)))
local macro_rules | `(tactic| walk_at "mine:rest") => `(tactic| first | k_asm | exact newsL (by k_asm) | exact newsT (by walk_at "mine:rest1") | exact newsR (by k_asm))
local macro_rules | `(tactic| walk_at "mine:rest1") => `(tactic| first | exact newsL (by k_asm) | exact newsT (newsL (by k_asm)) | exact newsT (newsT (newsL (by k_asm))) | exact newsT (newsT (newsT (newsL (by k_asm)))))
local macro_rules | `(tactic| walk_at "mine:home") => `(tactic| first | k_asm | exact newsT (by k_asm) | exact newsT (newsT (by k_asm)) | exact nApp (by k_asm) | exact nApp (newsT (by k_asm)) | exact nApp (newsT (newsT (by k_asm))) | exact nApp (newsT (newsT (newsT (by k_asm)))) | walk_at "mine:back")
local macro_rules | `(tactic| walk_at "exec Assign cons ListComp") => `(tactic| (k_here; refine Halt.out ?_))
local macro_rules | `(tactic| walk_at "eval ListComp") => `(tactic| (k_here; refine Halt.out ?_))
local macro_rules | `(tactic| walk_at "CompSrc") => `(tactic| (k_here; refine Halt.out ?_))
local macro_rules | `(tactic| walk_at "CompEnd") => `(tactic| (k_here; refine Halt.out ?_))
local macro_rules | `(tactic| walk_at "exec For Name Call cons nil") => `(tactic| (k_here; (with_unfolding_all refine wpAny_For ?_)))
local macro_rules | `(tactic| walk_at "pyIter ref") => `(tactic| (k_here; refine Halt.out ?_))
local macro_rules | `(tactic| walk_at "CompSrcT") => `(tactic| (k_here; refine Halt.out ?_))
local macro_rules | `(tactic| walk_at "CfPost") => `(tactic| (k_here; first | ((with_reducible show CfPost _ _ _ _ _ _ _ (Flow.ret _) _); unfold CfPost; dsimp only) | refine Halt.out ?_))
local macro_rules | `(tactic| lsm_bools) => `(tactic| assumption)
/-- no number from 2 to i + 1 that is below x divides x -/
def dvL (x : Int) (i : Nat) : Bool := (List.range i).all fun j => decide (x ≤ 2 + (j : Int)) || decide (0 < x.fmod (2 + (j : Int)))
theorem dvL_succ {x : Int} {i : Nat} : dvL x (i + 1) = (dvL x i && (decide (x ≤ 2 + (i : Int)) || decide (0 < x.fmod (2 + (i : Int))))) := by
  unfold dvL
  rw [List.range_succ, List.all_append]
  simp
theorem dv_yes {i : Nat} {bs : List Bool} {x k : Int} {b : Bool} (hk : k = 2 + (i : Int)) (hR : bs.all id = dvL x i) (hlt : k < x) (hb : b = decide (0 < x.fmod k)) : (bs ++ [b]).all id = dvL x (i + 1) := by
  rw [dvL_succ, List.all_append, hR, hb, ← hk, show decide (x ≤ k) = false from decide_eq_false (by omega)]
  simp
theorem dv_no {i : Nat} {bs : List Bool} {x k : Int} (hk : k = 2 + (i : Int)) (hR : bs.all id = dvL x i) (hlt : ¬ k < x) : bs.all id = dvL x (i + 1) := by
  rw [dvL_succ, hR, ← hk, show decide (x ≤ k) = true from decide_eq_true (by omega)]
  simp
section
variable {w : World} {p : Program} {loose : List Str} {mean : ExcName → Option Value} {mg mb : Str → Option Value}
    {dp un : Nat} {gd : Option (List Code)} {cn : Str} {cs : Scope} {a : Addr} {ccd : Value} {ccl : List (Str × Addr)} {outer : List Env} {A₀ : Around} {base h₀ : Heap} {L : Addr} {m : Str → Option Value} {s : Shared} {Q E : Value → Shared → Prop}
    {rest : List (Addr × Obj)}
theorem div_spec {x : Int} {t : Tok}
    (B : Below A₀ base outer h₀) (F : Fr h₀ L s.heap m) (X : (hd.heap_39 w.params).In h₀) (N : News h₀ L s.heap rest) (T : Top p loose mean mg mb h₀) (hk : cs.kind = .function)
    (hd : dp + 2 < recursionLimit) (hu : un + 16 < cLine) (h0 : 0 ≤ x) (h1 : x < 2047)
    (hret : ∀ (h' : Heap) (tk' : Nat), Fr h₀ L h' m → News h₀ L h' rest → Q (.bool (decide (1 < x) && dvL x 44)) { s with heap := h', toks := tk' }) :
    wpAny (model PySem.Challenge.rw_ys0003_05.row.prog w) (ktrTop dp un gd cn cs L a ccd ccl outer) (call (.ref 85) [.int x t]) Q E s := by
  w_top off
  revert X; k_fill; intro X
  have hMk := kstMark
  refine wpAny_call ?_
  k_dflt walk_at "mine:enterC"
  k_steps
  · unfold Halt
    refine LCt.ListComp_T (F₀ := by k_asm) (by with_unfolding_all rfl) (by decide) (by rfl) (by decide) (by rfl) ?_
    k_steps
    unfold Halt
    rename IsRange _ _ _ _ _ _ _ _ => rgY
    refine LCt.CompSrcT.range (by rfl) (by k_asm) (by k_asm) rgY (by decide) (n := 44) (by rfl) (by decide) ?_
    intro g
    refine bt_range (fun i bs => bs.all id = dvL x i) ?_ ?_ ?_
    · intro i2 k2 t2 I2 oI2 C2 oC2 D2 m2 ys2 bs2 h2 tk2 E2 hk2 hi2 hR hC2 hx2 F2 N2 off2 ne2
      k_steps
      · unfold Halt
        rename k2 < x => hyes
        exact LCg.CompEnd.intro (by k_asm) (by k_asm) _ (fun p hp => hp) off2 trivial ⟨rfl, _, rfl, dv_yes hk2 hR hyes rfl⟩
      · unfold Halt
        rename ¬ k2 < x => hno
        exact LCg.CompEnd.intro (by k_asm) (by k_asm) _ (fun p hp => hp) off2 trivial ⟨rfl, dv_no hk2 hR hno⟩
    · intro ys bs hys hall
      unfold LCg.FinE
      intro D3 h3 tk3 F3 N3 o3
      (try dsimp only)
      k_steps
      exact retB (Q := Q) (s := s) hret (by rw [decide_eq_true (by assumption), Bool.true_and]; exact hall) (by k_asm) (by first | k_asm | walk_at "mine:home")
    · rfl
  · exact retB (Q := Q) (s := s) hret (by rw [decide_eq_false (by assumption)]; rfl) (by k_asm) (by first | k_asm | walk_at "mine:home")
end
end
section
theorem rounds_three (x : Int) : 3 ≤ rounds x := by
  unfold rounds
  repeat' split
  all_goals omega
/-- a number's odd part and how often it is halved -/
def spN : Nat → Nat → Nat × Nat
  | 0, d => (d, 0)
  | f + 1, d => if d % 2 = 1 then (d, 0) else ((spN f (d / 2)).1, (spN f (d / 2)).2 + 1)
def lpN (m d r : Nat) : Bool := pwm m 11 2 d == 1 || (List.range (max r 1)).any fun k => pwm m 11 (pwm m 11 2 d) (2 ^ k) == m - 1
def dvN (m : Nat) (i : Nat) : Bool := (List.range i).all fun j => Nat.ble m (2 + j) || !(Nat.beq (m % (2 + j)) 0)
def chkN (m : Nat) : Bool := Nat.blt m 10 || Nat.beq (m % 2) 0 ||
  (Nat.beq ((spN 11 (m - 1)).1 % 2) 1 && Nat.beq ((spN 11 (m - 1)).1 * 2 ^ (spN 11 (m - 1)).2) (m - 1) && Nat.ble (spN 11 (m - 1)).2 10 && lpN m (spN 11 (m - 1)).1 (spN 11 (m - 1)).2 == dvN m 44)
theorem chk_at {a n m : Nat} (h : (List.range' a n).all chkN = true) (h1 : a ≤ m) (h2 : m < a + n) : chkN m = true := List.all_eq_true.mp h m (List.mem_range'_1.mpr ⟨h1, h2⟩)
theorem chk0 : (List.range' 0 128).all chkN = true := by decide +kernel
theorem chk1 : (List.range' 128 128).all chkN = true := by decide +kernel
theorem chk2 : (List.range' 256 128).all chkN = true := by decide +kernel
theorem chk3 : (List.range' 384 128).all chkN = true := by decide +kernel
theorem chk4 : (List.range' 512 128).all chkN = true := by decide +kernel
theorem chk5 : (List.range' 640 128).all chkN = true := by decide +kernel
theorem chk6 : (List.range' 768 128).all chkN = true := by decide +kernel
theorem chk7 : (List.range' 896 128).all chkN = true := by decide +kernel
theorem chk8 : (List.range' 1024 128).all chkN = true := by decide +kernel
theorem chk9 : (List.range' 1152 128).all chkN = true := by decide +kernel
theorem chk10 : (List.range' 1280 128).all chkN = true := by decide +kernel
theorem chk11 : (List.range' 1408 128).all chkN = true := by decide +kernel
theorem chk12 : (List.range' 1536 128).all chkN = true := by decide +kernel
theorem chk13 : (List.range' 1664 128).all chkN = true := by decide +kernel
theorem chk14 : (List.range' 1792 128).all chkN = true := by decide +kernel
theorem chk15 : (List.range' 1920 127).all chkN = true := by decide +kernel
theorem chk_all (m : Nat) (h : m < 2047) : chkN m = true := by
  by_cases h0 : m < 128
  · exact chk_at chk0 (by omega) (by omega)
  by_cases h1 : m < 256
  · exact chk_at chk1 (by omega) (by omega)
  by_cases h2 : m < 384
  · exact chk_at chk2 (by omega) (by omega)
  by_cases h3 : m < 512
  · exact chk_at chk3 (by omega) (by omega)
  by_cases h4 : m < 640
  · exact chk_at chk4 (by omega) (by omega)
  by_cases h5 : m < 768
  · exact chk_at chk5 (by omega) (by omega)
  by_cases h6 : m < 896
  · exact chk_at chk6 (by omega) (by omega)
  by_cases h7 : m < 1024
  · exact chk_at chk7 (by omega) (by omega)
  by_cases h8 : m < 1152
  · exact chk_at chk8 (by omega) (by omega)
  by_cases h9 : m < 1280
  · exact chk_at chk9 (by omega) (by omega)
  by_cases h10 : m < 1408
  · exact chk_at chk10 (by omega) (by omega)
  by_cases h11 : m < 1536
  · exact chk_at chk11 (by omega) (by omega)
  by_cases h12 : m < 1664
  · exact chk_at chk12 (by omega) (by omega)
  by_cases h13 : m < 1792
  · exact chk_at chk13 (by omega) (by omega)
  by_cases h14 : m < 1920
  · exact chk_at chk14 (by omega) (by omega)
  exact chk_at chk15 (by omega) (by omega)
theorem dv_even : (List.range 2047).all (fun m => Nat.ble m 9 || Nat.beq (m % 2) 1 || !(dvN m 44)) = true := by decide +kernel
theorem dv_small : (List.range 10).all (fun m => (decide (1 < (m : Int)) && dvL (m : Int) 44) == [2, 3, 5, 7].any (fun y : Int => y == (m : Int))) = true := by decide +kernel
theorem dv_nat {m : Nat} {i : Nat} : dvL (m : Int) i = dvN m i := by
  unfold dvL dvN
  congr 1
  funext j
  have e : (m : Int).fmod (2 + (j : Int)) = ((m % (2 + j) : Nat) : Int) := by
    rw [Int.fmod_eq_emod_of_nonneg _ (by omega)]
    rfl
  rw [e]
  congr 1
  · rw [Bool.eq_iff_iff, decide_eq_true_iff, Nat.ble_eq]; omega
  · by_cases h : m % (2 + j) = 0
    · rw [h]
      rfl
    · have hb : Nat.beq (m % (2 + j)) 0 = false := by
        cases e : Nat.beq (m % (2 + j)) 0 with
        | false => rfl
        | true => exact absurd (Nat.eq_of_beq_eq_true e) h
      rw [hb]
      exact decide_eq_true (by omega)
theorem lp_nat {m d r : Nat} (h3 : 3 ≤ m) (h1 : d * 2 ^ r = m - 1) (ho : d % 2 = 1) (hm : m < 2047) (hr : r ≤ 10) : LetsP (m : Int) 0 ↔ lpN m d r = true := by
  have h : (m : Int) - 1 = (d : Int) * 2 ^ r := by
    have : ((d * 2 ^ r : Nat) : Int) = ((m - 1 : Nat) : Int) := by rw [h1]
    rw [Int.natCast_mul, Int.natCast_pow] at this
    rw [show ((2 : Int)) = ((2 : Nat) : Int) from rfl, this]
    omega
  have hd : d < 2 ^ 11 := by
    have hp : 0 < 2 ^ r := Nat.pow_pos (by decide)
    have : d * 1 ≤ d * 2 ^ r := Nat.mul_le_mul_left _ hp
    rw [h1] at this
    omega
  rw [lets_iff h ho]
  have e0 : (0 : Int).fmod ((m : Int) - 3) = 0 := Int.zero_fmod _
  have e1 : ((0 : Int).fmod ((m : Int) - 3) + 2) ^ d % (m : Int) = ((pwm m 11 2 d : Nat) : Int) := by
    rw [e0, pwm_eq hd, Int.natCast_emod, Int.natCast_pow]
    rfl
  rw [e1]
  generalize hy : pwm m 11 2 d = y
  unfold Passes lpN
  rw [hy, Bool.or_eq_true, List.any_eq_true]
  have e2 : ∀ k, k < max r 1 → ((y : Int) ^ (2 ^ k) % (m : Int) = (m : Int) - 1 ↔ (pwm m 11 y (2 ^ k) == m - 1) = true) := by
    intro k hk
    have hk2 : 2 ^ k < 2 ^ 11 := Nat.pow_lt_pow_right (by decide) (by omega)
    rw [pwm_eq hk2, beq_iff_eq]
    have : (y : Int) ^ (2 ^ k) % (m : Int) = ((y ^ (2 ^ k) % m : Nat) : Int) := by rw [Int.natCast_emod, Int.natCast_pow]
    rw [this]
    omega
  constructor
  · rintro (h2 | ⟨k, hk, h2⟩)
    · exact .inl (by rw [beq_iff_eq]; omega)
    · exact .inr ⟨k, List.mem_range.mpr hk, (e2 k hk).mp h2⟩
  · rintro (h2 | ⟨k, hk, h2⟩)
    · rw [beq_iff_eq] at h2
      exact .inl (by omega)
    · exact .inr ⟨k, List.mem_range.mp hk, (e2 k (List.mem_range.mp hk)).mpr h2⟩
/-- below 2047 the test with the one draw 0 tells the primes -/
theorem ip_div {x : Int} (h0 : 0 ≤ x) (h1 : x < 2047) : ipB x [0] = (decide (1 < x) && dvL x 44) := by
  obtain ⟨m, rfl⟩ := Int.eq_ofNat_of_zero_le h0
  by_cases hx : m < 10
  · have := List.all_eq_true.mp dv_small m (List.mem_range.mpr hx)
    unfold ipB
    rw [if_pos (by omega), beq_iff_eq.mp this]
  · unfold ipB
    rw [if_neg (by omega), decide_eq_true (by omega), Bool.true_and, dv_nat, bitAnd_m1]
    have hc := chk_all m (by omega)
    have he := List.all_eq_true.mp dv_even m (List.mem_range.mpr (by omega))
    by_cases hev : m % 2 = 0
    · rw [if_pos (by omega)]
      have a1 : Nat.ble m 9 = false := by
        cases e : Nat.ble m 9 with
        | false => rfl
        | true => have := Nat.le_of_ble_eq_true e; omega
      have a2 : Nat.beq (m % 2) 1 = false := by rw [hev]; rfl
      rw [a1, a2] at he
      simpa using he.symm
    · rw [if_neg (by omega)]
      have a1 : Nat.blt m 10 = false := by
        cases e : Nat.blt m 10 with
        | false => rfl
        | true => have := Nat.le_of_ble_eq_true e; omega
      have a2 : Nat.beq (m % 2) 0 = false := by rw [show m % 2 = 1 by omega]; rfl
      unfold chkN at hc
      rw [a1, a2, Bool.false_or, Bool.false_or, Bool.and_eq_true, Bool.and_eq_true, Bool.and_eq_true] at hc
      obtain ⟨⟨⟨c1, c2⟩, c3⟩, c4⟩ := hc
      have hl := lp_nat (by omega) (Nat.eq_of_beq_eq_true c2) (Nat.eq_of_beq_eq_true c1) (by omega) (Nat.le_of_ble_eq_true c3)
      rw [← beq_iff_eq.mp c4]
      have ht : ([0] : List Int).take (rounds (m : Int) + 1).toNat = [0] := List.take_of_length_le (by have := (rounds_pos (m : Int)).1; have := rounds_three (m : Int); simp; omega)
      rw [ht]
      unfold mrB
      rw [if_neg (by omega), Bool.eq_iff_iff, letsAll_true]
      simp only [List.mem_singleton, forall_eq]
      exact hl
theorem lt_2047 {x : Int} (h : x < 2047) : x < 2 ^ 2000 := Int.lt_of_lt_of_le h (by decide +kernel)
theorem lt_128 {x : Int} (h : x < 2 ^ 128) : x < 2 ^ 2000 := Int.lt_of_lt_of_le h (by decide +kernel)
end
section
local macro_rules | `(tactic| walk_at "mine:pad14") => `(tactic| skip)
local macro_rules | `(tactic| walk_at "mine:pad15") => `(tactic| skip)
local macro_rules | `(tactic| walk_at "mine:pad16") => `(tactic| skip)
local macro_rules | `(tactic| walk_at "mine:pad17") => `(tactic| skip)
local macro_rules | `(tactic| walk_at "mine:pad18") => `(tactic| skip)
local macro_rules | `(tactic| walk_at "mine:pad19") => `(tactic| skip)
local macro_rules | `(tactic| walk_at "mine:pad20") => `(tactic| skip)
local macro_rules | `(tactic| walk_at "mine:pad21") => `(tactic| skip)
local macro_rules | `(tactic| walk_at "mine:pad22") => `(tactic| skip)
local macro_rules | `(tactic| walk_at "mine:pad23") => `(tactic| skip)
local macro_rules | `(tactic| walk_at "mine:pad24") => `(tactic| skip)
local macro_rules | `(tactic| walk_at "mine:pad25") => `(tactic| skip)
local macro_rules | `(tactic| walk_at "mine:off") => `(tactic| first | assumption | exact offNil | (refine offCons (by first | assumption | omega) (by first | assumption | omega) ?_; walk_at "mine:off"))
local macro_rules | `(tactic| walk_at "mine:led") => `(tactic| first | k_asm | (refine' nl1 ?kl; (case kl => k_asm)) | (refine' nl2 ?kl; (case kl => k_asm)) | (refine' nl3 ?kl; (case kl => k_asm)) | (refine' nl4 ?kl; (case kl => k_asm)) | (refine' nl5 ?kl; (case kl => k_asm)))
local macro_rules | `(tactic| walk_at "mine:back") => `(tactic| first | k_asm | (refine' nd1 ?kl; (case kl => k_asm)) | (refine' nd2 ?kl; (case kl => k_asm)) | (refine' nd3 ?kl; (case kl => k_asm)) | (refine' nd4 ?kl; (case kl => k_asm)) | (refine' nd5 ?kl; (case kl => k_asm)) | (refine' nd6 ?kl; (case kl => k_asm)))
local macro_rules | `(tactic| walk_at "mine:lt") => `(tactic| first | exact allLt_ne (by assumption) | exact allLt_ne (And.right (by assumption)) | exact allLt_ne (And.right (And.right (by assumption))) | exact allLt_ne (And.right (And.right (And.right (by assumption)))) | exact allLt_ne (And.right (And.right (And.right (And.right (by assumption))))) | assumption)
local macro_rules | `(tactic| walk_at "mine:sub") => `(tactic| (intro p9 hp9; first | exact hp9 | (simp only [List.mem_append, List.mem_cons, List.nil_append, List.cons_append] at hp9 ⊢; grind)))
local macro_rules | `(tactic| walk_at "mine:news") => `(tactic| first | k_asm | exact newsL (by k_asm) | exact newsR (by k_asm) | exact newsL (newsR (by k_asm)) | exact newsL (newsR (newsR (by k_asm))))
local macro_rules | `(tactic| walk_at "mine:enterC") => `(tactic| (refine' code_defC ?k1 ?k2 ?k3 ?k4 ?k5 ?kA ?kF ?kK ?k6 ?k7 ?k8 ?k9 ?kB ?kD ?_ ?c2 ?c3 ?c4; (case kA => exact rfl); (case kF => exact rfl); (case kK => first | assumption | exact rfl); (case k1 => k_asm); (case k2 => k_asm); (case k3 => k_asm); (case k4 => k_asm); (case k5 => k_asm); (case k6 => k_is); (case k7 => k_is); (case k8 => ktr_room); (case k9 => exact BindsTo.of_eq rfl); (case kB => exact rfl); (case kD => decide +kernel); (case c2 => exact rfl); (case c3 => exact rfl); (case c4 => exact rfl); k_whole; intro g' L' h' tk' cells' FG' F' N' Y' B' X' T' l1; (try k_lt l1); k_cells Y'; (try simp only [List.cons_append, List.nil_append] at N'); (try dsimp only); (try k_lift B'); (try k_fold)))
local macro_rules | `(tactic| walk_at "mine:rest") => `(tactic| first | k_asm | exact newsL (by k_asm) | exact newsT (by walk_at "mine:rest1") | exact newsR (by k_asm))
local macro_rules | `(tactic| walk_at "mine:rest1") => `(tactic| first | exact newsL (by k_asm) | exact newsT (newsL (by k_asm)) | exact newsT (newsT (newsL (by k_asm))) | exact newsT (newsT (newsT (newsL (by k_asm)))))
local macro_rules | `(tactic| walk_at "mine:home") => `(tactic| first | k_asm | exact newsT (by k_asm) | exact newsT (newsT (by k_asm)) | exact nApp (by k_asm) | exact nApp (newsT (by k_asm)) | exact nApp (newsT (newsT (by k_asm))) | exact nApp (newsT (newsT (newsT (by k_asm)))) | walk_at "mine:back")
local macro_rules | `(tactic| walk_at "exec Assign cons ListComp") => `(tactic| (k_here; refine Halt.out ?_))
local macro_rules | `(tactic| walk_at "eval ListComp") => `(tactic| (k_here; refine Halt.out ?_))
local macro_rules | `(tactic| walk_at "CompSrc") => `(tactic| (k_here; refine Halt.out ?_))
local macro_rules | `(tactic| walk_at "CompEnd") => `(tactic| (k_here; refine Halt.out ?_))
section
variable {w : World} {p : Program} {loose : List Str} {mean : ExcName → Option Value} {mg mb : Str → Option Value}
    {dp un : Nat} {gd : Option (List Code)} {cn : Str} {cs : Scope} {a : Addr} {ccd : Value} {ccl : List (Str × Addr)} {outer : List Env} {A₀ : Around} {base h₀ : Heap} {L : Addr} {m : Str → Option Value} {s : Shared} {Q E : Value → Shared → Prop}
    {rest : List (Addr × Obj)}
theorem state_spec {l : Addr} {vs : List Value} {ns : List Int}
    (B : Below A₀ base outer h₀) (F : Fr h₀ L s.heap m) (X : (hd.heap_39 w.params).In h₀) (N : News h₀ L s.heap rest) (T : Top p loose mean mg mb h₀) (hk : cs.kind = .function)
    (hd : dp + 1 < recursionLimit) (hu : un + 8 < cLine)
    (hl : base.IsList l vs.toArray) (hi : IntsAre vs ns) (hlen : ns.length ≤ 63)
    (hret : ∀ (st cl : Addr) (t2 : Tok) (n n2 : Nat) (vs' : List Value) (ns' : List Int) (h' : Heap) (tk' : Nat), @Ne Nat st cl → OwnOff rest [st, cl] → StOk 0 vs' ns' → Fr h₀ L h' m → News h₀ L h' ((st, stO 0 t2 cl n) :: (cl, listOf vs'.toArray n2) :: rest) → Q (.ref st) { s with heap := h', toks := tk' }) :
    wpAny (model PySem.Challenge.rw_ys0003_05.row.prog w) (ktrTop dp un gd cn cs L a ccd ccl outer) (call (.ref 47) [.ref l]) Q E s := by
  w_top off
  revert X; k_fill; intro X
  have hMk := kstMark
  have hll : vs.length ≤ 63 := by rw [hi.length]; exact hlen
  refine wpAny_call ?_
  k_dflt cell_enter
  k_steps
  unfold Halt
  refine LCg.Assign_ListComp_U (F₀ := by k_asm) (by rfl) (by with_unfolding_all rfl) (by with_unfolding_all rfl) (by decide) (by rfl) (by decide) (by rfl) (by rfl) (by rfl) ?_
  k_steps
  unfold Halt
  rename IntsAre _ _ => hI2
  have hl2 := hI2.length
  rw [List.length_take] at hl2
  refine LCg.CompSrc.ledger (by rfl) (by k_asm) (by k_asm) (by k_mem) (by rw [PySem.sizeLine_eq, List.size_toArray]; omega) ?_
  intro g
  refine' kcf_list (fun k => (k.natAbs : Int)) hI2 (fun k' t' I' oI' C' oC' D' m' ys' h' tk' E' hk' hC' hx' F' N' off' ne' hMark' => ?_) ?_
  · k_steps
    unfold Halt
    refine LCg.CompEnd.intro (by k_asm) (by k_asm) _ (fun p hp => hp) off' (.inr ⟨_, by k_mem, rfl, _, rfl⟩) (kcf_el ?_ rfl rfl)
    omega
  · unfold KPfDone LCg.FinA
    intro ys hys D3 h3 tk3 F3 N3 o3
    have hl3 := hys.length
    rw [List.length_map] at hl3
    have o4 := o3.2
    have hh := off1_ne o4
    try dsimp only
    k_steps
    · refine' hret _ _ _ _ _ _ [0] _ _ ?h1 ?h2 ?h3 ?h4 ?h5
      (case h4 => k_asm)
      (case h5 => walk_at "mine:back")
      (case h1 => omega)
      (case h2 => exact offOf (by walk_at "mine:lt") (by walk_at "mine:lt"))
      (case h3 => exact ⟨by decide, .cons _ _ .nil, by simp, by simp, by simp⟩)
    · refine' hret _ _ _ _ _ _ ((ns.take 63).map fun k => (k.natAbs : Int)) _ _ ?h1 ?h2 ?h3 ?h4 ?h5
      (case h4 => k_asm)
      (case h5 => walk_at "mine:back")
      (case h1 => omega)
      (case h2 => exact offOf (by walk_at "mine:lt") (by walk_at "mine:lt"))
      refine ⟨by decide, hys, ?_, ?_, ?_⟩
      · intro c hc
        obtain ⟨k, _, rfl⟩ := List.mem_map.mp hc
        omega
      · omega
      · rw [List.length_map, List.length_take]
        omega
end
end
section
section
variable {prog : Program} {w : World} {A : Around} {h₀ : Heap} {L : Addr} {m : Str → Option Value} {env : Env} {elt : Expr} {x : Str} {scope : Scope} {cl' : List (Str × Addr)} {s : Shared} {Fin : List Value → List (Addr × Obj) → Prop}
    {st cl : Addr} {n n2 : Nat} {rest : List (Addr × Obj)}
/-- a comprehension over a range whose items are ints and turn the law's state -/
theorem st_comp {k : Nat} {a : Int} {at_ : Int} {t : Tok} {vs : List Value} {ns : List Int} (hS : StOk at_ vs ns)
    (turn : ∀ j tj I oI C oC D m₂ ys h tk (E' : Value → Shared → Prop) at1 t1 vs1 ns1, StOk at1 vs1 ns1 → LCg.NsObj oC m₂ → m₂ x = some (.int j tj) → Fr h₀ L h m → News h₀ L h ((I, oI) :: (C, oC) :: (D, LCg.lst ys) :: (st, stO at1 t1 cl n) :: (cl, listOf vs1.toArray n2) :: rest) →
      ((@Ne Nat st I ∧ @Ne Nat st C ∧ @Ne Nat st D) ∧ (@Ne Nat cl I ∧ @Ne Nat cl C ∧ @Ne Nat cl D)) → LCg.Off3 I C D rest → ((@Ne Nat I C) ∧ (@Ne Nat I D) ∧ (@Ne Nat C D)) →
      wpAny (model prog w) A (eval elt (compEnvC scope cl' C env)) (LCg.CompEnd h₀ L m { s with heap := h, toks := tk } I oI C oC D (LCg.lst ys) (fun _ => True) (fun y news' => ∃ at2 t2 vs2 ns2 i ti, StOk at2 vs2 ns2 ∧ y = .int i ti ∧ news' = (st, stO at2 t2 cl n) :: (cl, listOf vs2.toArray n2) :: rest)) E' { s with heap := h, toks := tk })
    (fin : ∀ ys ks at1 t1 vs1 ns1, IntsAre ys ks → ks.length = k → StOk at1 vs1 ns1 → Fin ys ((st, stO at1 t1 cl n) :: (cl, listOf vs1.toArray n2) :: rest)) :
    LCg.CompRest prog w A h₀ L m env elt x scope cl' s (fun _ => True) (fun i v => ∃ t, v = .int (a + (i : Int)) t) Fin k 0 [] ((st, stO at_ t cl n) :: (cl, listOf vs.toArray n2) :: rest) := by
  have key : ∀ (j i : Nat) (ys : List Value) (ks : List Int) at1 t1 vs1 ns1, i + j = k → IntsAre ys ks → ks.length = i → StOk at1 vs1 ns1 →
      LCg.CompRest prog w A h₀ L m env elt x scope cl' s (fun _ => True) (fun i v => ∃ t, v = .int (a + (i : Int)) t) Fin j i ys ((st, stO at1 t1 cl n) :: (cl, listOf vs1.toArray n2) :: rest) := by
    intro j
    induction j with
    | zero =>
      intro i ys ks at1 t1 vs1 ns1 hi hy hl hS1
      exact LCg.CompRest.zero (fin ys ks at1 t1 vs1 ns1 hy (by omega) hS1)
    | succ j ih =>
      intro i ys ks at1 t1 vs1 ns1 hi hy hl hS1
      refine LCg.CompRest.succ ?_
      rintro v I oI C oC D m₂ h tk E' ⟨tj, rfl⟩ hC hx F N off ne
      refine wpAny_mono (turn _ tj I oI C oC D m₂ ys h tk E' at1 t1 vs1 ns1 hS1 hC hx F N ⟨off.1, off.2.1⟩ off.2.2 ne) (fun y s₂ hq => ?_) fun _ _ e => e
      obtain ⟨h', tk', nw, e, F', N', off', hS', at2, t2, vs2, ns2, z, tz, hS2, rfl, rfl⟩ := hq
      exact ⟨h', tk', _, e, F', N', off', hS', ih (i + 1) _ (ks ++ [z]) at2 t2 vs2 ns2 (by omega) (IntsAre.append hy (.cons z tz .nil)) (by rw [List.length_append, hl]; rfl) hS2⟩
  exact key k 0 [] [] at_ t vs ns (by omega) .nil rfl hS
end
theorem off3St {I C D st cl : Addr} {o₁ o₂ : Obj} {r : List (Addr × Obj)} (h1 : (@Ne Nat st I ∧ @Ne Nat st C ∧ @Ne Nat st D) ∧ (@Ne Nat cl I ∧ @Ne Nat cl C ∧ @Ne Nat cl D)) (h2 : LCg.Off3 I C D r) : LCg.Off3 I C D ((st, o₁) :: (cl, o₂) :: r) := ⟨h1.1, h1.2, h2⟩
end
section
abbrev tupO (vs : Array Value) (nn : Nat) : Obj := { cls := .type "tuple", data := .seq vs nn }
section
variable {prog : Program} {w : World} {A : Around} {E : Value → Shared → Prop} {s : Shared} {env : Env} {h₀ : Heap} {x : Str} {body : List Stmt} {Q : Flow → Shared → Prop}
theorem iter_tupNL {l : Addr} {vs : List Value} {ns : List Int} {nn : Nat} {m₀ : Str → Option Value} {news : List (Addr × Obj)} (J : Nat → (Str → Option Value) → List (Addr × Obj) → Prop)
    (hh : A.handled = none) (hl : (l, tupO vs.toArray nn) ∈ news) (hi : IntsAre vs ns) (F : Fr h₀ env.locals s.heap m₀) (N : News h₀ env.locals s.heap news) (hj : J 0 m₀ news)
    (turn : ∀ i n t m₁ news₁ h tk own, ns[i]? = some n → news₁.map (·.1) = news.map (·.1) → OwnOff own (news.map (·.1)) → (l, tupO vs.toArray nn) ∈ news₁ → J i m₁ news₁ → Fr h₀ env.locals h (fun y => if y = x then some (.int n t) else m₁ y) → News h₀ env.locals h (news₁ ++ own) →
      wpAny (model prog w) A (execs body env) (InvPostN h₀ env.locals (fun m' nx => (l, tupO vs.toArray nn) ∈ nx ∧ J (i + 1) m' nx) own (news.map (·.1)) { s with heap := h, toks := tk } Q) E { s with heap := h, toks := tk })
    (done : ∀ m₁ news₁ h tk, (l, tupO vs.toArray nn) ∈ news₁ → J ns.length m₁ news₁ → Fr h₀ env.locals h m₁ → News h₀ env.locals h news₁ → Q .next { s with heap := h, toks := tk }) :
    wpAny (model prog w) A (pyIter (.ref l)) (fun it s₂ => LoopAtV prog w A h₀ env x body Q E it s₂) E s := by
  have hol : s.heap.get? l = some (tupO vs.toArray nn) := (N _ hl).1
  have hls : s.heap.IsTuple l vs.toArray := ⟨_, hol, rfl, nn, rfl⟩
  have hne : l ≠ s.heap.objs.size := Nat.ne_of_lt (Heap.lt_size hol)
  refine wpAny_pyIter_tuple hls ?_
  have W := Walks.tuple (prog := prog) (w := w) hh s.heap.objs.size l hne vs.toArray
  have hlen : vs.toArray.size = ns.length := by simp [hi.length]
  rw [hlen] at W
  refine ⟨_, _, _, ns.length, _, _, m₀, news, (fun i m nx => nx.map (·.1) = news.map (·.1) ∧ (l, tupO vs.toArray nn) ∈ nx ∧ J i m nx), rfl, W, ?_, ?_, ?_, ⟨⟨_, Heap.get?_push_size _ rfl, rfl, rfl⟩, hls.at fun o e => Heap.get?_push_of_some _ e⟩, F.push _, (fun p hp => ⟨Heap.get?_push_of_some _ (N p hp).1, (N p hp).2⟩), ⟨rfl, hl, hj⟩, ?_, ?_⟩
  · intro hm
    rcases List.mem_cons.mp hm with e | hm
    · exact absurd F.ns.lt (e ▸ Nat.lt_irrefl _)
    · exact (N _ hl).2.1 ((List.mem_singleton.mp hm).symm)
  · intro b hb
    rw [List.mem_singleton.mp hb]
    exact next_is_new F
  · intro p hp hI
    exact absurd (Heap.lt_size (N p hp).1) ((List.mem_singleton.mp hI) ▸ Nat.lt_irrefl _)
  · rintro i v m₁ news₁ s₁ own ⟨hh', tk', rfl⟩ hin hP ⟨hadr, hl₁, hJ⟩ hoff hown hget hfp _ F₁ N₁
    have hsep : OwnOff (own.filter fun p => decide (p.1 = s.heap.objs.size)) (news.map (·.1)) := by
      intro p hp b hb e
      obtain ⟨q, hq, rfl⟩ := List.mem_map.mp hb
      have h1 : p.1 = s.heap.objs.size := by simpa using (List.mem_filter.mp hp).2
      exact absurd (Heap.lt_size (N q hq).1) (by rw [← e, h1]; exact Nat.lt_irrefl _)
    have hlt' : i < ns.length := hin
    obtain ⟨t, hx⟩ := hi.get i ns[i] (by simp [hlt'])
    have hv : v = .int ns[i] t := by
      have hP' : vs[i]? = some v := by simpa using hP
      rw [hx] at hP'; exact (Option.some.inj hP').symm
    subst hv
    have N₂ : News h₀ env.locals hh' (news₁ ++ own.filter fun p => decide (p.1 = s.heap.objs.size)) := fun p hp => N₁ p ((List.mem_append.mp hp).elim (fun h => List.mem_append.mpr (.inr h)) fun h => List.mem_append.mpr (.inl ((List.mem_filter.mp h).1)))
    have hlo : hh'.get? l = some (tupO vs.toArray nn) := (N₁ _ (List.mem_append.mpr (.inr hl₁))).1
    refine wpAny_mono (turn i ns[i] t m₁ news₁ hh' tk' _ (by simp [hlt']) hadr hsep hl₁ hJ F₁ N₂) (fun f s₂ p => ?_) fun _ _ e => e
    have fin : InvEndN h₀ env.locals (fun m' nx => (l, tupO vs.toArray nn) ∈ nx ∧ J (i + 1) m' nx) (own.filter fun p => decide (p.1 = s.heap.objs.size)) (news.map (·.1)) { s with heap := hh', toks := tk' } s₂ →
        LoopStepU h₀ env.locals [s.heap.objs.size] own (fun m nx => nx.map (·.1) = news.map (·.1) ∧ (l, tupO vs.toArray nn) ∈ nx ∧ J (i + 1) m nx) { s with heap := hh', toks := tk' } .next s₂ := by
      rintro ⟨h', tk, m', news', nx, e, F', N', hn, ho, ha, hm⟩
      refine ⟨rfl, h', tk, m', nx, e, F', fun p hp => ?_, fun p hp => ?_, ha, hm⟩
      · rcases List.mem_append.mp hp with h | h
        · by_cases hI : p.1 = s.heap.objs.size
          · exact N' p (ho p (List.mem_filter.mpr ⟨h, by simpa using hI⟩))
          · have h1 : p.1 = l := by
              rcases List.mem_cons.mp (hown p h) with h2 | h2
              · exact absurd h2 hI
              · exact List.mem_singleton.mp h2
            have h2 : hh'.get? p.1 = some p.2 := hget p h
            rw [h1, hlo] at h2
            have h3 : p = (l, tupO vs.toArray nn) := Prod.ext h1 (Option.some.inj h2).symm
            rw [h3]
            exact N' _ (hn _ hm.1)
        · exact N' p (hn p h)
      · have h1 : p.1 ∈ nx.map (·.1) := List.mem_map.mpr ⟨p, hp, rfl⟩
        rw [ha] at h1
        obtain ⟨q, hq, e⟩ := List.mem_map.mp h1
        intro hI
        exact absurd (Heap.lt_size (N q hq).1) (by rw [e, List.mem_singleton.mp hI]; exact Nat.lt_irrefl _)
    cases f with
    | ret v => exact .ret p
    | brk => exact .brk p
    | next => exact .next (fin p)
    | cont => exact .cont (fin p)
  · rintro h' tk m' news' F' N' _ ⟨_, hl', hJ⟩
    exact done m' news' h' tk hl' hJ F' N'
theorem kst_tupL {σ : Type} {l : Addr} {vs : List Value} {ns : List Int} {nn : Nat} {m₀ : Str → Option Value} (Led : σ → List (Addr × Obj)) (ps : σ → List (Str × Value)) (Facts : σ → Prop) (stored : List Str) (P : List Int → σ → Prop) (c₀ : σ)
    (hh : A.handled = none) (hl : ∀ c : σ, (l, tupO vs.toArray nn) ∈ Led c) (hi : IntsAre vs ns) (F : Fr h₀ env.locals s.heap m₀) (N : News h₀ env.locals s.heap (Led c₀)) (hf : Facts c₀) (hk : ∀ p ∈ ps c₀, m₀ p.1 = some p.2) (hp : P [] c₀)
    (turn : ∀ (c : σ) pre post n t (u : Str → Option Value) h tk own, ns = pre ++ n :: post → n ∈ ns → OwnOff own ((Led c₀).map (·.1)) → Facts c → P pre c →
      Fr h₀ env.locals h (fun y => if y = x then some (.int n t) else kstB (fun z => if stored.contains z then u z else m₀ z) (ps c) y) → News h₀ env.locals h (Led c ++ own) →
      wpAny (model prog w) A (execs body env) (InvPostN h₀ env.locals (KstS Led ps Facts x stored m₀ P (pre ++ [n])) own ((Led c₀).map (·.1)) { s with heap := h, toks := tk } Q) E { s with heap := h, toks := tk })
    (done : ∀ (c : σ) (u : Str → Option Value) h tk, Facts c → P ns c → Fr h₀ env.locals h (fun y => if y = x then u y else kstB (fun z => if stored.contains z then u z else m₀ z) (ps c) y) → News h₀ env.locals h (Led c) → Q .next { s with heap := h, toks := tk }) :
    wpAny (model prog w) A (pyIter (.ref l)) (fun it s₂ => LoopAtV prog w A h₀ env x body Q E it s₂) E s := by
  refine iter_tupNL (fun i m nx => KstS Led ps Facts x stored m₀ P (ns.take i) m nx) hh (hl c₀) hi F N ⟨c₀, rfl, hf, hk, fun _ _ _ _ => rfl, by simpa using hp⟩ ?_ ?_
  · rintro i n t m₁ nx h tk own hn _ hoff _ ⟨c, rfl, hf', h1, h2, hp'⟩ F₁ N₁
    have hs : ns.take (i + 1) = ns.take i ++ [n] := by simp [List.take_add_one, hn]
    have e : ns = ns.take i ++ n :: ns.drop (i + 1) := by
      have ht := List.take_append_drop (i + 1) ns
      rw [hs, List.append_assoc] at ht
      exact ht.symm
    rw [hs]
    refine wpAny_mono (turn c _ _ n t m₁ h tk own e (List.mem_of_getElem? hn) hoff hf' hp' (kst_fr h1 h2 F₁) N₁) (fun f s₂ p => ?_) fun _ _ x => x
    have up : InvEndN h₀ env.locals (KstS Led ps Facts x stored m₀ P (ns.take i ++ [n])) own ((Led c₀).map (·.1)) { s with heap := h, toks := tk } s₂ →
        InvEndN h₀ env.locals (fun m' nx => (l, tupO vs.toArray nn) ∈ nx ∧ KstS Led ps Facts x stored m₀ P (ns.take i ++ [n]) m' nx) own ((Led c₀).map (·.1)) { s with heap := h, toks := tk } s₂ := by
      rintro ⟨h', tk', m', news', nx', e', F', N', hn', ho', ha, hS⟩
      refine ⟨h', tk', m', news', nx', e', F', N', hn', ho', ha, ?_, hS⟩
      obtain ⟨c', rfl, _⟩ := hS
      exact hl c'
    cases f with
    | ret v => exact p
    | brk => exact p
    | next => exact up p
    | cont => exact up p
  · rintro m₁ nx h tk _ ⟨c, rfl, hf', h1, h2, hp'⟩ F₁ N₁
    rw [List.take_length] at hp'
    exact done c m₁ h tk hf' hp' (kst_frOut h1 h2 F₁) N₁
variable {st cl : Addr} {at_ : Int} {t : Tok} {n n2 : Nat} {vs : List Value} {ns : List Int} {rest : List (Addr × Obj)}
/-- a for over a tuple of ints of the ledger whose turn changes the law's state -/
theorem st_tup {l : Addr} {us : List Value} {ks : List Int} {nn : Nat} {m₀ : Str → Option Value} (stored : List Str)
    (hh : A.handled = none) (F : Fr h₀ env.locals s.heap m₀) (N : News h₀ env.locals s.heap ((st, stO at_ t cl n) :: (cl, listOf vs.toArray n2) :: rest)) (hl : (l, tupO us.toArray nn) ∈ rest) (hi : IntsAre us ks) (hS : StOk at_ vs ns) (ho : OwnOff rest [st, cl])
    (turn : ∀ pre k t' (u : Str → Option Value) h tk own at1 t1 vs1 ns1, k ∈ ks → StOk at1 vs1 ns1 → OwnOff (rest ++ own) [st, cl] → OwnOff own (st :: cl :: rest.map (·.1)) →
      Fr h₀ env.locals h (fun y => if y = x then some (.int k t') else if stored.contains y then u y else m₀ y) → News h₀ env.locals h ((st, stO at1 t1 cl n) :: (cl, listOf vs1.toArray n2) :: (rest ++ own)) →
      wpAny (model prog w) A (execs body env) (InvPostN h₀ env.locals (KstS (stLed Unit st cl n n2 rest) (stPs fun _ => []) (stFacts Unit) x stored m₀ (stP fun _ _ => True) (pre ++ [k])) own (st :: cl :: rest.map (·.1)) { s with heap := h, toks := tk } Q) E { s with heap := h, toks := tk })
    (done : ∀ (u : Str → Option Value) h tk at1 t1 vs1 ns1, StOk at1 vs1 ns1 → Fr h₀ env.locals h (fun y => if y = x then u y else if stored.contains y then u y else m₀ y) →
      News h₀ env.locals h ((st, stO at1 t1 cl n) :: (cl, listOf vs1.toArray n2) :: rest) → Q .next { s with heap := h, toks := tk }) :
    wpAny (model prog w) A (pyIter (.ref l)) (fun it s₂ => LoopAtV prog w A h₀ env x body Q E it s₂) E s := by
  refine kst_tupL (stLed Unit st cl n n2 rest) (stPs fun _ => []) (stFacts Unit) stored (stP fun _ _ => True) ((), at_, t, vs, ns) hh (fun c => .tail _ (.tail _ hl)) hi F N hS (fun _ hp => nomatch hp) trivial ?_ ?_
  · rintro ⟨d, at1, t1, vs1, ns1⟩ pre post k t' u h tk own _ hm hoff hf _ F9 N9
    exact turn pre k t' u h tk own at1 t1 vs1 ns1 hm hf (offApp ho (offSub hoff (by simp) (by simp))) hoff F9 N9
  · rintro ⟨d, at1, t1, vs1, ns1⟩ u h tk hf _ F9 N9
    exact done u h tk at1 t1 vs1 ns1 hf F9 N9
end
theorem tup_in {x y : Int} (h1 : PrimeI x) (h2 : 3 ≤ x) (h3 : x < 2 ^ 128) (h4 : PrimeI y) (h5 : 3 ≤ y) (h6 : y < 2 ^ 128) : ∀ k ∈ [x, y], PrimeI k ∧ 3 ≤ k ∧ k < 2 ^ 128 := fun k hk => by
  rcases List.mem_cons.mp hk with rfl | hk
  · exact ⟨h1, h2, h3⟩
  · rw [List.mem_singleton.mp hk]; exact ⟨h4, h5, h6⟩
theorem nTup {h₀ h : Heap} {L : Addr} {a b c : Addr × Obj} {r : List (Addr × Obj)} (N : News h₀ L h (a :: b :: c :: r)) : News h₀ L h (b :: c :: a :: r) :=
  fun p hp => N p (by simp only [List.mem_cons] at hp ⊢; grind)
end
section
local macro_rules | `(tactic| walk_at "mine:pad25") => `(tactic| skip)
local macro_rules | `(tactic| walk_at "mine:pad26") => `(tactic| skip)
local macro_rules | `(tactic| walk_at "mine:off") => `(tactic| first | assumption | exact offNil | (refine offCons (by first | assumption | omega) (by first | assumption | omega) ?_; walk_at "mine:off"))
local macro_rules | `(tactic| walk_at "mine:led") => `(tactic| first | k_asm | (refine' nl1 ?kl; (case kl => k_asm)) | (refine' nl2 ?kl; (case kl => k_asm)) | (refine' nl3 ?kl; (case kl => k_asm)) | (refine' nl4 ?kl; (case kl => k_asm)) | (refine' nl5 ?kl; (case kl => k_asm)))
local macro_rules | `(tactic| walk_at "mine:back") => `(tactic| first | k_asm | (refine' nd1 ?kl; (case kl => k_asm)) | (refine' nd2 ?kl; (case kl => k_asm)) | (refine' nd3 ?kl; (case kl => k_asm)) | (refine' nd4 ?kl; (case kl => k_asm)) | (refine' nd5 ?kl; (case kl => k_asm)) | (refine' nd6 ?kl; (case kl => k_asm)))
local macro_rules | `(tactic| walk_at "mine:lt") => `(tactic| first | exact allLt_ne (by assumption) | exact allLt_ne (And.right (by assumption)) | exact allLt_ne (And.right (And.right (by assumption))) | exact allLt_ne (And.right (And.right (And.right (by assumption)))) | exact allLt_ne (And.right (And.right (And.right (And.right (by assumption))))) | assumption)
local macro_rules | `(tactic| walk_at "mine:sub") => `(tactic| (intro p9 hp9; first | exact hp9 | (simp only [List.mem_append, List.mem_cons, List.nil_append, List.cons_append] at hp9 ⊢; grind)))
local macro_rules | `(tactic| walk_at "mine:news") => `(tactic| first | k_asm | exact newsL (by k_asm) | exact newsR (by k_asm) | exact newsL (newsR (by k_asm)) | exact newsL (newsR (newsR (by k_asm))))
local macro_rules | `(tactic| walk_at "mine:enterC") => `(tactic| (refine' code_defC ?k1 ?k2 ?k3 ?k4 ?k5 ?kA ?kF ?kK ?k6 ?k7 ?k8 ?k9 ?kB ?kD ?_ ?c2 ?c3 ?c4; (case kA => exact rfl); (case kF => exact rfl); (case kK => first | assumption | exact rfl); (case k1 => k_asm); (case k2 => k_asm); (case k3 => k_asm); (case k4 => k_asm); (case k5 => k_asm); (case k6 => k_is); (case k7 => k_is); (case k8 => ktr_room); (case k9 => exact BindsTo.of_eq rfl); (case kB => exact rfl); (case kD => decide +kernel); (case c2 => exact rfl); (case c3 => exact rfl); (case c4 => exact rfl); k_whole; intro g' L' h' tk' cells' FG' F' N' Y' B' X' T' l1; (try k_lt l1); k_cells Y'; (try simp only [List.cons_append, List.nil_append] at N'); (try dsimp only); (try k_lift B'); (try k_fold)))
local macro_rules | `(tactic| walk_at "mine:rest") => `(tactic| first | k_asm | exact newsL (by k_asm) | exact newsT (by walk_at "mine:rest1") | exact newsR (by k_asm))
local macro_rules | `(tactic| walk_at "mine:rest1") => `(tactic| first | exact newsL (by k_asm) | exact newsT (newsL (by k_asm)) | exact newsT (newsT (newsL (by k_asm))) | exact newsT (newsT (newsT (newsL (by k_asm)))))
local macro_rules | `(tactic| walk_at "mine:home") => `(tactic| first | k_asm | exact newsT (by k_asm) | exact newsT (newsT (by k_asm)) | exact nApp (by k_asm) | exact nApp (newsT (by k_asm)) | exact nApp (newsT (newsT (by k_asm))) | exact nApp (newsT (newsT (newsT (by k_asm)))) | walk_at "mine:back")
local macro_rules | `(tactic| walk_at "call ref") => `(tactic| (k_here; (with_reducible show wpAny _ _ (call (Value.ref 54) [Value.ref _, Value.int _ _]) _ _ _); k_dflt (refine' take_spec ?k1 ?k2 ?k3 ?k4 ?k5 ?kK ?kd ?ku ?kn ?ko ?kS ?km ?km2 ?_; (case k1 => k_asm); (case k2 => k_asm); (case k3 => k_asm); (case k4 => walk_at "mine:led"); (case k5 => k_asm); (case kK => first | exact rfl | assumption); (case kd => ktr_room); (case ku => ktr_units); (case kn => first | assumption | omega); (case ko => walk_at "mine:off"); (case kS => assumption); (case km => omega); (case km2 => omega); k_whole); intro v9 t9 a9 u9 vs9 ns9 h9 tk9 hv9 hw9 hS9 F9 N9; (try dsimp only); (try k_sweep); (try k_fold)))
local macro_rules | `(tactic| walk_at "call ref") => `(tactic| (k_here; (with_reducible show wpAny _ _ (call (Value.ref 68) [Value.ref _]) _ _ _); k_dflt (refine' number_spec ?k1 ?k2 ?k3 ?k4 ?k5 ?kK ?kd ?ku ?kn ?ko ?kS ?_; (case k1 => k_asm); (case k2 => k_asm); (case k3 => k_asm); (case k4 => walk_at "mine:led"); (case k5 => k_asm); (case kK => first | exact rfl | assumption); (case kd => ktr_room); (case ku => ktr_units); (case kn => first | assumption | omega); (case ko => walk_at "mine:off"); (case kS => assumption); k_whole); intro v9 t9 a9 u9 vs9 ns9 h9 tk9 hv9 hw9 hS9 F9 N9; (try dsimp only); (try k_sweep); (try k_fold)))
local macro_rules | `(tactic| walk_at "call ref") => `(tactic| (k_here; (with_reducible show wpAny _ _ (call (Value.ref 42) [Value.int _ _, Value.ref _]) _ _ _); k_dflt (refine' isp_spec ?k1 ?k2 ?k3 ?k4 ?k5 ?kK ?kd ?ku ?km ?ki ?kl ?kb ?_; (case k1 => k_asm); (case k2 => k_asm); (case k3 => k_asm); (case k4 => k_asm); (case k5 => k_asm); (case kK => first | exact rfl | assumption); (case kd => ktr_room); (case ku => ktr_units); (case km => first | assumption | k_mem | (simp only [List.mem_cons, List.mem_append]; grind)); (case ki => walk_at "mine:ints"); (case kl => first | assumption | omega | decide); (case kb => walk_at "mine:small"); k_whole); intro h9 tk9 F9 N9; (try dsimp only); (try k_sweep); (try k_fold)))
local macro_rules | `(tactic| walk_at "mine:ints") => `(tactic| first | assumption | (repeat' constructor))
local macro_rules | `(tactic| walk_at "mine:small") => `(tactic| first | assumption | decide +kernel | exact lt_2047 (by assumption) | exact lt_128 (by assumption))
local macro_rules | `(tactic| walk_at "call ref") => `(tactic| (k_here; (with_reducible show wpAny _ _ (call (Value.ref 85) [Value.int _ _]) _ _ _); k_dflt (refine' div_spec ?k1 ?k2 ?k3 ?k4 ?k5 ?kK ?kd ?ku ?h0 ?h1 ?_; (case k1 => k_asm); (case k2 => k_asm); (case k3 => k_asm); (case k4 => k_asm); (case k5 => k_asm); (case kK => first | exact rfl | assumption); (case kd => ktr_room); (case ku => ktr_units); (case h0 => first | assumption | omega); (case h1 => first | assumption | omega); k_whole); intro h9 tk9 F9 N9; (try dsimp only); (try k_sweep); (try k_fold)))
local macro_rules | `(tactic| walk_at "call ref") => `(tactic| (k_here; (with_reducible show wpAny _ _ (call (Value.ref 80) [Value.ref _]) _ _ _); k_dflt (refine' primes_spec ?k1 ?k2 ?k3 ?k4 ?k5 ?kK ?kd ?ku ?kn ?ko ?kS ?_; (case k1 => k_asm); (case k2 => k_asm); (case k3 => k_asm); (case k4 => walk_at "mine:led"); (case k5 => k_asm); (case kK => first | exact rfl | assumption); (case kd => ktr_room); (case ku => ktr_units); (case kn => first | assumption | omega); (case ko => walk_at "mine:off"); (case kS => assumption); k_whole); intro x9 y9 t9 s9 tp9 a9 u9 vs9 ns9 h9 tk9 hpx9 hvx9 hwx9 hpy9 hvy9 hwy9 l91 l92 l93 hS9 F9 N9; (have hin9 := tup_in hpx9 hvx9 hwx9 hpy9 hvy9 hwy9); clear hpx9 hvx9 hwx9 hpy9 hvy9 hwy9; (try dsimp only); (try k_sweep); (try k_fold)))
local macro_rules | `(tactic| walk_at "call ref") => `(tactic| (k_here; (with_reducible show wpAny _ _ (call (Value.ref 47) [Value.ref _]) _ _ _); k_dflt (refine' state_spec ?k1 ?k2 ?k3 ?k4 ?k5 ?kK ?kd ?ku ?kl ?ki ?kn ?_; (case k1 => k_asm); (case k2 => k_asm); (case k3 => k_asm); (case k4 => k_asm); (case k5 => k_asm); (case kK => first | exact rfl | assumption); (case kd => ktr_room); (case ku => ktr_units); (case kl => k_asm); (case ki => k_asm); (case kn => omega); k_whole); intro st9 cl9 t9 n9 m9 vs9 ns9 h9 tk9 hne9 ho9 hS9 F9 N9; (try dsimp only); (try k_sweep); (try k_fold)))
local macro_rules | `(tactic| walk_at "pyIter ref") => `(tactic| (k_here; refine Halt.out ?_))
local macro_rules | `(tactic| walk_at "exec For Name Call cons nil") => `(tactic| (k_here; (rename Fr _ _ _ _ => lF'); (with_unfolding_all refine' For_invVF lF' ?k1 ?k2 ?_; (case k1 => exact rfl); (case k2 => exact rfl); k_whole)))
local macro_rules | `(tactic| walk_at "InvEndN") => `(tactic| (k_here; refine Halt.out ?_))
local macro_rules | `(tactic| walk_at "exec Assign cons ListComp") => `(tactic| (k_here; refine Halt.out ?_))
local macro_rules | `(tactic| walk_at "eval ListComp") => `(tactic| (k_here; refine Halt.out ?_))
local macro_rules | `(tactic| walk_at "CompSrc") => `(tactic| (k_here; refine Halt.out ?_))
local macro_rules | `(tactic| walk_at "CompEnd") => `(tactic| (k_here; refine Halt.out ?_))
theorem signs_bits (i : Nat) : Builtin.Int.intBits ([1, 1, -1].getD i 0) ≤ 64 := by
  have h := getD_in (ns := [1, 1, -1]) (lo := -1) (hi := 1) (by decide) (by decide) i
  exact PySem.intBits_le_64 (by omega) (by omega)
theorem ip_91 : ipB 91 [0] = false := by
  rw [ip_div (by decide) (by decide)]
  decide +kernel
theorem offRe {a st cl : Addr} {o o' : Obj} {r : List (Addr × Obj)} (h : OwnOff ((a, o) :: r) [st, cl]) : OwnOff ((a, o') :: r) [st, cl] := by
  intro p hp b hb
  rcases List.mem_cons.mp hp with rfl | hp
  · exact h (a, o) List.mem_cons_self b hb
  · exact h p (List.mem_cons_of_mem _ hp) b hb
theorem ncomp1 {h₀ h : Heap} {L : Addr} {s c l i d e : Addr × Obj} {r : List (Addr × Obj)} (N : News h₀ L h (s :: c :: l :: i :: d :: e :: r)) : News h₀ L h (i :: d :: e :: s :: c :: r) :=
  fun p hp => N p (by simp only [List.mem_cons] at hp ⊢; grind)
local macro_rules | `(tactic| mul_fits) => `(tactic| exact PySem.IntMulOk.of_right (signs_bits _))
theorem prime_even {x : Int} (h : PrimeI x) (h2 : 2 < x) (he : x % 2 = 0) : False := by
  rcases h.2 2 (by omega : 2 ∣ x.toNat) with h3 | h3
  · omega
  · omega
theorem ip_sure {x : Int} {ks : List Int} (h : PrimeI x) (h10 : 10 < x) : ipB x ks = true := by
  have hodd : Builtin.bitAnd x 1 ≠ 0 := by
    intro he
    rw [bitAnd_m1] at he
    exact prime_even h (by omega) he
  unfold ipB mrB
  rw [if_neg (by omega), if_neg hodd, if_neg (by omega), letsAll_true]
  exact fun dr _ => lets_prime h (by omega) dr
theorem offOfN {h₀ h : Heap} {L : Addr} {a st cl : Addr} {o o' o1 o2 : Obj} (_ : News h₀ L h ((st, o1) :: (cl, o2) :: (a, o') :: [])) (h : OwnOff [(a, o)] [st, cl]) : OwnOff [(a, o')] [st, cl] := offRe h
theorem ip_no {x : Int} {ks : List Int} (h : (ipB x ks != true) = true) (hp : PrimeI x) (h10 : 10 < x) : False := by
  rw [ip_sure hp h10] at h
  cases h
theorem ncompT {h₀ h : Heap} {L : Addr} {s c l i d e : Addr × Obj} {r : List (Addr × Obj)} (N : News h₀ L h (s :: c :: l :: i :: d :: e :: r)) : News h₀ L h (i :: d :: e :: s :: c :: r) :=
  fun p hp => N p (by simp only [List.mem_cons] at hp ⊢; grind)
theorem law_walk : PySem.Challenge.rw_ys0003_05.Holds := hd (by
  w_top off
  k_go0
  have hMk := kstMark
  (all_goals try k_fold)
  k_steps
  · exfalso
    rename (ipB 91 [0] != false) = true => h91
    rw [ip_91] at h91
    cases h91
  unfold Halt
  rename IsRange _ _ _ _ _ _ _ _ => rgX
  rename Fr _ _ _ _ => lF
  rename News _ _ _ _ => lN
  rename StOk _ _ _ => lS
  rename OwnOff _ _ => lO
  rename @Ne Nat _ _ => lne
  replace lN := newsT lN
  simp only [List.cons_append, List.nil_append] at lN
  with_unfolding_all
   refine' st_range (δ := Unit) (fun _ => []) [Str.ofString "number"] (fun _ _ => True) ()
    (by rfl) rgX (by decide) (by rfl) lF lN lS (offRe lO) (by kst_all) trivial ?_ ?_
  · intro d pre k t' u h tk own at1 t1 vs1 ns1 hk' hlt hf hP ho2 hoff F9 N9
    clear lF lN lS hk' hP hoff
    simp only [kstB] at F9
    simp only [List.cons_append, List.nil_append] at N9 ho2
    (try dsimp only)
    (try k_fold)
    k_steps
    · exfalso
      rename (_ != _) = true => hne
      rw [ip_div (by assumption) (by assumption)] at hne
      simp at hne
    · unfold Halt
      rename StOk _ _ _ => sE
      refine' st_end () ?kF ?kN sE ?kh ?kr trivial
      (case kF => k_asm)
      (case kN => exact newsT (by k_asm))
      (case kh => kst_all)
      (case kr => kst_same)
  · intro d u h tk at1 t1 vs1 ns1 hf hP F9 N9
    simp only [kstB] at F9
    have lO2 := offOfN N9 lO
    clear lF lN lS
    (try dsimp only)
    (try k_fold)
    k_steps
    unfold Halt
    rename Fr _ _ _ _ => lF
    rename News _ _ _ _ => lN
    rename StOk _ _ _ => lS
    rename ∀ k ∈ [_, _], _ => hin
    with_unfolding_all
     refine st_tup [Str.ofString "draws"] (by rfl) lF (nTup lN) List.mem_cons_self (IntsAre.cons _ _ (IntsAre.cons _ _ IntsAre.nil)) lS ?_ ?_ ?_
    · exact offCons (by omega) (by omega) (offRe lO2)
    · intro pre k t' u h tk own at1 t1 vs1 ns1 hk1 hS1 ho2 hoff F9 N9
      clear lF lN lS
      obtain ⟨hkp, hk3, hkb⟩ := hin k hk1
      clear hin hk1
      simp only [List.cons_append, List.nil_append] at N9 ho2
      (try dsimp only)
      (try k_fold)
      k_steps
      unfold Halt
      refine LCg.Assign_ListComp_U (F₀ := by k_asm) (by rfl) (by with_unfolding_all rfl) (by with_unfolding_all rfl) (by decide) (by rfl) (by decide) (by rfl) (by rfl) (by rfl) ?_
      k_steps
      unfold Halt
      rename IsRange _ _ _ _ _ _ _ _ => rgY
      rename News _ _ _ _ => lN
      rename StOk _ _ _ => lS
      rename _ < (13 : Int) => hw13
      refine LCg.CompSrc.range (by rfl) (by k_asm) lN rgY (small_one (by omega) (by omega) (by omega) (by omega)) (rangeSize_nat _ _) (by rw [PySem.sizeLine_eq]; omega) ?_
      intro g
      refine' st_comp lS ?_ ?_
      · intro j tj I oI C oC D m2 ys h2 tk2 E2 at2 t2 vs2 ns2 hS2 hC2 hx2 F2 N2 off1 off2 ne2
        have off3 := off2
        simp only [LCg.Off3, and_true] at off2
        k_steps
        unfold Halt
        exact LCg.CompEnd.intro (by k_asm) (ncompT (by k_asm)) _ (fun p hp => hp) (off3St off1 off3) trivial ⟨_, _, _, _, _, _, by assumption, rfl, rfl⟩
      · intro ys ks at2 t2 vs2 ns2 hys hks hS2
        have hks7 : ks.length ≤ 64 := by omega
        unfold LCg.FinA
        intro D h2 tk2 F2 N2 off2
        simp only [LCg.Off1, and_true] at off2
        (try dsimp only)
        k_steps
        · exfalso
          rename (ipB _ _ != true) = true => hq
          exact ip_no hq hkp (by assumption)
        all_goals
          unfold Halt
          rename StOk _ _ _ => sE
          refine' st_end () ?kF ?kN sE ?kh ?kr trivial
          (case kF => k_asm)
          (case kN => first | k_asm | exact newsT (by k_asm) | exact nd1 (by k_asm) | exact nd1 (newsT (by k_asm)) | exact newsT (newsT (by k_asm)))
          (case kh => kst_all)
          (case kr => kst_same)
    · intro u h tk at1 t1 vs1 ns1 hS1 F9 N9
      clear lF lN lS
      (try dsimp only)
      (try k_fold)
      k_steps)
end
end Mine
set_option maxRecDepth 100000 in
set_option maxHeartbeats 8000000 in
theorem PySem.Challenge.cw_ys0003_05_holds : PySem.Challenge.rw_ys0003_05.Holds := by
  exact Mine.law_walk
