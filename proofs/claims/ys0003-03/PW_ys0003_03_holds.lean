import PyProof.Rows.All
import Wide.All
import OpenK.AllK
import Wide.FinOn
import PySem.Challenge.RW_ys0003_03
open PySem PySem.W PySem.Calls PyProof.Rows
set_option Elab.async false
set_option maxRecDepth 100000
set_option maxHeartbeats 8000000
namespace Mine

open_top hd for PySem.Challenge.rw_ys0003_03
section
/-- a mark at which the walk halts, so that the next step is taken by hand -/
def Halt (P : Prop) : Prop := P
theorem Halt.out {P : Prop} (h : Halt P) : P := h

abbrev stO (at_ : Int) (t : Tok) (cl : Addr) (n : Nat) : Obj := listOf [Value.int at_ t, Value.ref cl].toArray n

structure StOk (at_ : Int) (vs : List Value) (ns : List Int) : Prop where
  at0 : 0 ≤ at_
  isI : IntsAre vs ns
  pos : ∀ c ∈ ns, 0 ≤ c
  len0 : 0 < ns.length
  len63 : ns.length ≤ 63

theorem nl1 {h₀ h : Heap} {L : Addr} {a b c : Addr × Obj} {r : List (Addr × Obj)} (N : News h₀ L h (a :: b :: c :: r)) : News h₀ L h (b :: c :: a :: r) :=
  fun p hp => N p (by simp only [List.mem_cons] at hp ⊢; grind)
theorem nl2 {h₀ h : Heap} {L : Addr} {a a2 b c : Addr × Obj} {r : List (Addr × Obj)} (N : News h₀ L h (a :: a2 :: b :: c :: r)) : News h₀ L h (b :: c :: a :: a2 :: r) :=
  fun p hp => N p (by simp only [List.mem_cons] at hp ⊢; grind)
theorem nl3 {h₀ h : Heap} {L : Addr} {a a2 a3 b c : Addr × Obj} {r : List (Addr × Obj)} (N : News h₀ L h (a :: a2 :: a3 :: b :: c :: r)) : News h₀ L h (b :: c :: a :: a2 :: a3 :: r) :=
  fun p hp => N p (by simp only [List.mem_cons] at hp ⊢; grind)
theorem nl4 {h₀ h : Heap} {L : Addr} {a a2 a3 a4 b c : Addr × Obj} {r : List (Addr × Obj)} (N : News h₀ L h (a :: a2 :: a3 :: a4 :: b :: c :: r)) : News h₀ L h (b :: c :: a :: a2 :: a3 :: a4 :: r) :=
  fun p hp => N p (by simp only [List.mem_cons] at hp ⊢; grind)
theorem nl5 {h₀ h : Heap} {L : Addr} {a a2 a3 a4 a5 b c : Addr × Obj} {r : List (Addr × Obj)} (N : News h₀ L h (a :: a2 :: a3 :: a4 :: a5 :: b :: c :: r)) : News h₀ L h (b :: c :: a :: a2 :: a3 :: a4 :: a5 :: r) :=
  fun p hp => N p (by simp only [List.mem_cons] at hp ⊢; grind)

theorem offNil {st cl : Addr} : OwnOff [] [st, cl] := fun _ hp => nomatch hp
theorem offCons {a st cl : Addr} {o : Obj} {r : List (Addr × Obj)} (h1 : @Ne Nat a st) (h2 : @Ne Nat a cl) (h : OwnOff r [st, cl]) : OwnOff ((a, o) :: r) [st, cl] := by
  intro p hp b hb
  rcases List.mem_cons.mp hp with rfl | hp
  · rcases List.mem_cons.mp hb with rfl | hb
    · exact h1
    · rw [List.mem_singleton.mp hb]; exact h2
  · exact h p hp b hb


theorem getD_pos {ns : List Int} (h : ∀ c ∈ ns, 0 ≤ c) (i : Nat) : 0 ≤ ns.getD i 0 := by
  rw [List.getD_eq_getElem?_getD]
  cases e : ns[i]? with
  | none => exact Int.le_refl _
  | some v => exact h v (List.mem_of_getElem? e)

theorem StOk.setc {at_ : Int} {vs : List Value} {ns : List Int} (S : StOk at_ vs ns) {i : Nat} {vs' : List Value} {most : Int} (hm : 0 < most)
    (hi : IntsAre vs' (ns.set i ((ns.getD i 0).fdiv most))) : StOk at_ vs' (ns.set i ((ns.getD i 0).fdiv most)) where
  at0 := S.at0
  isI := hi
  pos := fun c hc => by
    rcases List.mem_or_eq_of_mem_set hc with h | h
    · exact S.pos c h
    · rw [h, Int.fdiv_eq_ediv_of_nonneg _ (by omega)]
      exact Int.ediv_nonneg (getD_pos S.pos i) (by omega)
  len0 := by rw [List.length_set]; exact S.len0
  len63 := by rw [List.length_set]; exact S.len63

theorem StOk.inc {at_ : Int} {vs : List Value} {ns : List Int} (S : StOk at_ vs ns) : StOk (at_ + 1) vs ns :=
  ⟨by have := S.at0; omega, S.isI, S.pos, S.len0, S.len63⟩

theorem offApp {st cl : Addr} {r r' : List (Addr × Obj)} (h : OwnOff r [st, cl]) (h' : OwnOff r' [st, cl]) : OwnOff (r ++ r') [st, cl] := by
  intro p hp
  rcases List.mem_append.mp hp with hp | hp
  · exact h p hp
  · exact h' p hp
theorem offSub {st cl : Addr} {r : List (Addr × Obj)} {l : List Addr} (h : OwnOff r l) (h1 : st ∈ l) (h2 : cl ∈ l) : OwnOff r [st, cl] := by
  intro p hp b hb
  rcases List.mem_cons.mp hb with rfl | hb
  · exact h p hp _ h1
  · rw [List.mem_singleton.mp hb]; exact h p hp _ h2
theorem getD_in {ns : List Int} {lo hi : Int} (h : ∀ c ∈ ns, lo ≤ c ∧ c ≤ hi) (h0 : lo ≤ 0 ∧ 0 ≤ hi) (i : Nat) : lo ≤ ns.getD i 0 ∧ ns.getD i 0 ≤ hi := by
  rw [List.getD_eq_getElem?_getD]
  cases e : ns[i]? with
  | none => exact h0
  | some v => exact h v (List.mem_of_getElem? e)
theorem nd1 {h₀ h : Heap} {L : Addr} {a b c : Addr × Obj} {r : List (Addr × Obj)} (N : News h₀ L h (a :: b :: c :: r)) : News h₀ L h (a :: b :: r) :=
  fun p hp => N p (by simp only [List.mem_cons] at hp ⊢; grind)
theorem nd2 {h₀ h : Heap} {L : Addr} {a b c c2 : Addr × Obj} {r : List (Addr × Obj)} (N : News h₀ L h (a :: b :: c :: c2 :: r)) : News h₀ L h (a :: b :: r) :=
  fun p hp => N p (by simp only [List.mem_cons] at hp ⊢; grind)
theorem nd3 {h₀ h : Heap} {L : Addr} {a b c c2 c3 : Addr × Obj} {r : List (Addr × Obj)} (N : News h₀ L h (a :: b :: c :: c2 :: c3 :: r)) : News h₀ L h (a :: b :: r) :=
  fun p hp => N p (by simp only [List.mem_cons] at hp ⊢; grind)
theorem nd4 {h₀ h : Heap} {L : Addr} {a b c c2 c3 c4 : Addr × Obj} {r : List (Addr × Obj)} (N : News h₀ L h (a :: b :: c :: c2 :: c3 :: c4 :: r)) : News h₀ L h (a :: b :: r) :=
  fun p hp => N p (by simp only [List.mem_cons] at hp ⊢; grind)
theorem allLt_ne {d : Addr} : ∀ {l : List (Addr × Obj)}, AllLt d l → ∀ p ∈ l, p.1 ≠ d
  | [], _, _, hp => nomatch hp
  | q :: r, h, p, hp => by
    rcases List.mem_cons.mp hp with rfl | hp
    · exact Nat.ne_of_lt h.1
    · exact allLt_ne h.2 p hp
theorem off1_ne {d : Addr} : ∀ {l : List (Addr × Obj)}, LCg.Off1 d l → ∀ p ∈ l, p.1 ≠ d
  | [], _, _, hp => nomatch hp
  | q :: r, h, p, hp => by
    rcases List.mem_cons.mp hp with rfl | hp
    · exact h.1
    · exact off1_ne h.2 p hp
theorem offOf {st cl : Addr} {r : List (Addr × Obj)} (h1 : ∀ p ∈ r, p.1 ≠ st) (h2 : ∀ p ∈ r, p.1 ≠ cl) : OwnOff r [st, cl] := by
  intro p hp b hb
  rcases List.mem_cons.mp hb with rfl | hb
  · exact h1 p hp
  · rw [List.mem_singleton.mp hb]; exact h2 p hp
end
section
local macro_rules | `(tactic| walk_at "mine:off") => `(tactic| first | assumption | exact offNil | (refine offCons (by first | assumption | omega) (by first | assumption | omega) ?_; walk_at "mine:off"))
local macro_rules | `(tactic| walk_at "mine:led") => `(tactic| first | k_asm | (refine' nl1 ?kl; (case kl => k_asm)) | (refine' nl2 ?kl; (case kl => k_asm)) | (refine' nl3 ?kl; (case kl => k_asm)) | (refine' nl4 ?kl; (case kl => k_asm)) | (refine' nl5 ?kl; (case kl => k_asm)))
local macro_rules | `(tactic| walk_at "mine:back") => `(tactic| first | k_asm | (refine' nd1 ?kl; (case kl => k_asm)) | (refine' nd2 ?kl; (case kl => k_asm)) | (refine' nd3 ?kl; (case kl => k_asm)) | (refine' nd4 ?kl; (case kl => k_asm)))
local macro_rules | `(tactic| walk_at "mine:lt") => `(tactic| first | exact allLt_ne (by assumption) | exact allLt_ne (And.right (by assumption)) | exact allLt_ne (And.right (And.right (by assumption))) | exact allLt_ne (And.right (And.right (And.right (by assumption)))) | exact allLt_ne (And.right (And.right (And.right (And.right (by assumption))))) | assumption)
section
variable {w : World} {p : Program} {loose : List Str} {mean : ExcName → Option Value} {mg mb : Str → Option Value}
    {dp un : Nat} {gd : Option (List Code)} {cn : Str} {cs : Scope} {a : Addr} {ccd : Value} {ccl : List (Str × Addr)} {outer : List Env} {A₀ : Around} {base h₀ : Heap} {L : Addr} {m : Str → Option Value} {s : Shared} {Q E : Value → Shared → Prop}
    {st cl : Addr} {at_ : Int} {t : Tok} {n n2 : Nat} {vs : List Value} {ns : List Int} {rest : List (Addr × Obj)}

theorem take_spec {most : Int} {tm : Tok}
    (B : Below A₀ base outer h₀) (F : Fr h₀ L s.heap m) (X : (hd.heap_39 w.params).In h₀) (N : News h₀ L s.heap ((st, stO at_ t cl n) :: (cl, listOf vs.toArray n2) :: rest)) (T : Top p loose mean mg mb h₀) (hk : cs.kind = .function)
    (hd : dp + 1 < recursionLimit) (hu : un + 8 < cLine)
    (hne : @Ne Nat st cl) (ho : OwnOff rest [st, cl]) (hS : StOk at_ vs ns) (hm : 0 < most) (hm2 : most ≤ 1000003)
    (hret : ∀ (v : Int) (t' : Tok) (at' : Int) (t2 : Tok) (vs' : List Value) (ns' : List Int) (h' : Heap) (tk' : Nat), 0 ≤ v → v < most → StOk at' vs' ns' → Fr h₀ L h' m → News h₀ L h' ((st, stO at' t2 cl n) :: (cl, listOf vs'.toArray n2) :: rest) → Q (.int v t') { s with heap := h', toks := tk' }) :
    wpAny (model PySem.Challenge.rw_ys0003_03.row.prog w) (ktrTop dp un gd cn cs L a ccd ccl outer) (call (.ref 40) [.ref st, .int most tm]) Q E s := by
  revert X; k_fill; intro X
  have hMk := kstMark
  obtain ⟨hat, hi, hpos, hlen, hlen2⟩ := id hS
  refine wpAny_call ?_
  k_dflt cell_enter
  k_steps
  · exact hret _ _ _ _ _ _ _ _ (Int.fmod_nonneg_of_pos _ hm) (Int.fmod_lt_of_pos _ hm) (hS.setc hm (by assumption)) (by k_asm) (by k_asm)
  · exact hret _ _ _ _ _ _ _ _ (Int.fmod_nonneg_of_pos _ hm) (Int.fmod_lt_of_pos _ hm) hS.inc (by k_asm) (by k_asm)
end
end
section
local macro_rules | `(tactic| walk_at "mine:off") => `(tactic| first | assumption | exact offNil | (refine offCons (by first | assumption | omega) (by first | assumption | omega) ?_; walk_at "mine:off"))
local macro_rules | `(tactic| walk_at "mine:led") => `(tactic| first | k_asm | (refine' nl1 ?kl; (case kl => k_asm)) | (refine' nl2 ?kl; (case kl => k_asm)) | (refine' nl3 ?kl; (case kl => k_asm)) | (refine' nl4 ?kl; (case kl => k_asm)) | (refine' nl5 ?kl; (case kl => k_asm)))
local macro_rules | `(tactic| walk_at "mine:back") => `(tactic| first | k_asm | (refine' nd1 ?kl; (case kl => k_asm)) | (refine' nd2 ?kl; (case kl => k_asm)) | (refine' nd3 ?kl; (case kl => k_asm)) | (refine' nd4 ?kl; (case kl => k_asm)))
local macro_rules | `(tactic| walk_at "mine:lt") => `(tactic| first | exact allLt_ne (by assumption) | exact allLt_ne (And.right (by assumption)) | exact allLt_ne (And.right (And.right (by assumption))) | exact allLt_ne (And.right (And.right (And.right (by assumption)))) | exact allLt_ne (And.right (And.right (And.right (And.right (by assumption))))) | assumption)
local macro_rules | `(tactic| walk_at "call ref") => `(tactic| (k_here; (with_reducible show wpAny _ _ (call (Value.ref 40) [Value.ref _, Value.int _ _]) _ _ _); k_dflt (refine' take_spec ?k1 ?k2 ?k3 ?k4 ?k5 ?kK ?kd ?ku ?kn ?ko ?kS ?km ?km2 ?_; (case k1 => k_asm); (case k2 => k_asm); (case k3 => k_asm); (case k4 => walk_at "mine:led"); (case k5 => k_asm); (case kK => first | exact rfl | assumption); (case kd => ktr_room); (case ku => ktr_units); (case kn => first | assumption | omega); (case ko => walk_at "mine:off"); (case kS => assumption); (case km => omega); (case km2 => omega); k_whole); intro v9 t9 a9 u9 vs9 ns9 h9 tk9 hv9 hw9 hS9 F9 N9; (try dsimp only); (try k_sweep); (try k_fold)))
local macro_rules | `(tactic| walk_at "pyIter ref") => `(tactic| (k_here; refine Halt.out ?_))
local macro_rules | `(tactic| walk_at "exec For Name Call cons nil") => `(tactic| (k_here; (rename Fr _ _ _ _ => lF'); (with_unfolding_all refine' For_invVF lF' ?k1 ?k2 ?_; (case k1 => exact rfl); (case k2 => exact rfl); k_whole)))
local macro_rules | `(tactic| walk_at "InvEndN") => `(tactic| (k_here; refine Halt.out ?_))
theorem great_step {num v : Int} {l : Nat} (h0 : 0 ≤ num) (h1 : num < 2 ^ (20 * l)) (h2 : 0 ≤ v) (h3 : v < 1000003) : 0 ≤ 1000003 * num + v ∧ 1000003 * num + v < 2 ^ (20 * (l + 1)) := by
  have e : (2 : Int) ^ (20 * (l + 1)) = 2 ^ (20 * l) * 1048576 := by
    rw [Nat.mul_add, Int.pow_add]
    rfl
  rw [e]
  generalize (2 : Int) ^ (20 * l) = X at h1 ⊢
  omega
section
variable {w : World} {p : Program} {loose : List Str} {mean : ExcName → Option Value} {mg mb : Str → Option Value}
    {dp un : Nat} {gd : Option (List Code)} {cn : Str} {cs : Scope} {a : Addr} {ccd : Value} {ccl : List (Str × Addr)} {outer : List Env} {A₀ : Around} {base h₀ : Heap} {L : Addr} {m : Str → Option Value} {s : Shared} {Q E : Value → Shared → Prop}
    {st cl : Addr} {at_ : Int} {t : Tok} {n n2 : Nat} {vs : List Value} {ns : List Int} {rest : List (Addr × Obj)}

theorem great_spec {words : Nat} {tm : Tok}
    (B : Below A₀ base outer h₀) (F : Fr h₀ L s.heap m) (X : (hd.heap_39 w.params).In h₀) (N : News h₀ L s.heap ((st, stO at_ t cl n) :: (cl, listOf vs.toArray n2) :: rest)) (T : Top p loose mean mg mb h₀) (hk : cs.kind = .function)
    (hd : dp + 2 < recursionLimit) (hu : un + 16 < cLine)
    (hne : @Ne Nat st cl) (ho : OwnOff rest [st, cl]) (hS : StOk at_ vs ns) (hm2 : words ≤ 20)
    (hret : ∀ (v : Int) (t' : Tok) (at' : Int) (t2 : Tok) (vs' : List Value) (ns' : List Int) (h' : Heap) (tk' : Nat), 0 ≤ v → v < 2 ^ (20 * words) → StOk at' vs' ns' → Fr h₀ L h' m → News h₀ L h' ((st, stO at' t2 cl n) :: (cl, listOf vs'.toArray n2) :: rest) → Q (.int v t') { s with heap := h', toks := tk' }) :
    wpAny (model PySem.Challenge.rw_ys0003_03.row.prog w) (ktrTop dp un gd cn cs L a ccd ccl outer) (call (.ref 47) [.ref st, .int (words : Int) tm]) Q E s := by
  revert X; k_fill; intro X
  have hMk := kstMark
  refine wpAny_call ?_
  k_dflt cell_enter
  k_steps
  unfold Halt
  rename IsRange _ _ _ _ _ _ _ _ => rgX
  rename Fr _ _ _ _ => lF
  rename News _ _ _ _ => lN
  with_unfolding_all
   refine' kst_range (σ := Int × Tok × Int × Tok × List Value × List Int)
    (fun c => (st, stO c.2.2.1 c.2.2.2.1 cl n) :: (cl, listOf c.2.2.2.2.1.toArray n2) :: rest)
    (fun c => [(Str.ofString "number", Value.int c.1 c.2.1)])
    (fun c => StOk c.2.2.1 c.2.2.2.2.1 c.2.2.2.2.2) []
    (fun pre c => 0 ≤ c.1 ∧ c.1 < 2 ^ (20 * pre.length)) (0, _, at_, t, vs, ns)
    (by rfl) rgX (small_one (by omega) (by omega) (by omega) (by omega)) (rangeSize_nat _ _) lF lN hS (by kst_all) (by constructor <;> simp) ?_ ?_
  · intro c pre k tk' u h tk own hk' hlt hoff hf hP F9 N9
    obtain ⟨num, tn, at1, t2, vs1, ns1⟩ := c
    have ho2 : OwnOff (rest ++ own) [st, cl] := offApp ho (offSub hoff (by simp) (by simp))
    have N9' : News _ _ h ((st, stO at1 t2 cl n) :: (cl, listOf vs1.toArray n2) :: (rest ++ own)) := N9
    clear N9
    dsimp only at hf hP F9
    simp only [kstB, List.contains_nil, Bool.false_eq_true, if_false] at F9
    (try dsimp only)
    (try k_fold)
    k_steps
    unfold Halt
    rename News _ _ _ _ => nE
    rename StOk _ _ _ => sE
    refine kst_end ⟨_, _, _, _, _, _⟩ (by assumption) nE (by kst_in) (by intro p hp; kst_mem) (by rfl) sE (by kst_all) (by kst_same) ?_
    rw [List.length_append]
    exact great_step hP.1 hP.2 (by assumption) (by assumption)
  · intro c u h tk hf hP F9 N9
    obtain ⟨num, tn, at1, t2, vs1, ns1⟩ := c
    dsimp only at hf hP F9 N9
    k_steps
    have e : (rangeKs 0 ((words : Int) - 0).toNat).length = words := by rw [rangeKs_length]; omega
    rw [e] at hP
    exact hret _ _ _ _ _ _ _ _ hP.1 hP.2 hf (by k_asm) (by k_asm)
end
section
variable {w : World} {p : Program} {loose : List Str} {mean : ExcName → Option Value} {mg mb : Str → Option Value}
    {dp un : Nat} {gd : Option (List Code)} {cn : Str} {cs : Scope} {a : Addr} {ccd : Value} {ccl : List (Str × Addr)} {outer : List Env} {A₀ : Around} {base h₀ : Heap} {L : Addr} {m : Str → Option Value} {s : Shared} {Q E : Value → Shared → Prop}
    {st cl : Addr} {at_ : Int} {t : Tok} {n n2 : Nat} {vs : List Value} {ns : List Int} {rest : List (Addr × Obj)}
theorem great_call {words : Int} {tm : Tok}
    (B : Below A₀ base outer h₀) (F : Fr h₀ L s.heap m) (X : (hd.heap_39 w.params).In h₀) (N : News h₀ L s.heap ((st, stO at_ t cl n) :: (cl, listOf vs.toArray n2) :: rest)) (T : Top p loose mean mg mb h₀) (hk : cs.kind = .function)
    (hd : dp + 2 < recursionLimit) (hu : un + 16 < cLine)
    (hne : @Ne Nat st cl) (ho : OwnOff rest [st, cl]) (hS : StOk at_ vs ns) (hm : 0 ≤ words) (hm2 : words ≤ 20)
    (hret : ∀ (v : Int) (t' : Tok) (at' : Int) (t2 : Tok) (vs' : List Value) (ns' : List Int) (h' : Heap) (tk' : Nat), 0 ≤ v → v < 2 ^ 400 → StOk at' vs' ns' → Fr h₀ L h' m → News h₀ L h' ((st, stO at' t2 cl n) :: (cl, listOf vs'.toArray n2) :: rest) → Q (.int v t') { s with heap := h', toks := tk' }) :
    wpAny (model PySem.Challenge.rw_ys0003_03.row.prog w) (ktrTop dp un gd cn cs L a ccd ccl outer) (call (.ref 47) [.ref st, .int words tm]) Q E s := by
  obtain ⟨k, rfl⟩ : ∃ k : Nat, words = (k : Int) := ⟨words.toNat, by omega⟩
  refine great_spec B F X N T hk hd hu hne ho hS (by omega) fun v t' at' t2 vs' ns' h' tk' h0 h1 => hret v t' at' t2 vs' ns' h' tk' h0 (Int.lt_of_lt_of_le h1 ?_)
  exact Int.ofNat_le.mpr (Nat.pow_le_pow_right (n := 2) (by decide) (by omega : 20 * k ≤ 400))
end
end
section
local macro_rules | `(tactic| walk_at "mine:off") => `(tactic| first | assumption | exact offNil | (refine offCons (by first | assumption | omega) (by first | assumption | omega) ?_; walk_at "mine:off"))
local macro_rules | `(tactic| walk_at "mine:led") => `(tactic| first | k_asm | (refine' nl1 ?kl; (case kl => k_asm)) | (refine' nl2 ?kl; (case kl => k_asm)) | (refine' nl3 ?kl; (case kl => k_asm)) | (refine' nl4 ?kl; (case kl => k_asm)) | (refine' nl5 ?kl; (case kl => k_asm)))
local macro_rules | `(tactic| walk_at "mine:back") => `(tactic| first | k_asm | (refine' nd1 ?kl; (case kl => k_asm)) | (refine' nd2 ?kl; (case kl => k_asm)) | (refine' nd3 ?kl; (case kl => k_asm)) | (refine' nd4 ?kl; (case kl => k_asm)))
local macro_rules | `(tactic| walk_at "mine:lt") => `(tactic| first | exact allLt_ne (by assumption) | exact allLt_ne (And.right (by assumption)) | exact allLt_ne (And.right (And.right (by assumption))) | exact allLt_ne (And.right (And.right (And.right (by assumption)))) | exact allLt_ne (And.right (And.right (And.right (And.right (by assumption))))) | assumption)
local macro_rules | `(tactic| walk_at "call ref") => `(tactic| (k_here; (with_reducible show wpAny _ _ (call (Value.ref 40) [Value.ref _, Value.int _ _]) _ _ _); k_dflt (refine' take_spec ?k1 ?k2 ?k3 ?k4 ?k5 ?kK ?kd ?ku ?kn ?ko ?kS ?km ?km2 ?_; (case k1 => k_asm); (case k2 => k_asm); (case k3 => k_asm); (case k4 => walk_at "mine:led"); (case k5 => k_asm); (case kK => first | exact rfl | assumption); (case kd => ktr_room); (case ku => ktr_units); (case kn => first | assumption | omega); (case ko => walk_at "mine:off"); (case kS => assumption); (case km => omega); (case km2 => omega); k_whole); intro v9 t9 a9 u9 vs9 ns9 h9 tk9 hv9 hw9 hS9 F9 N9; (try dsimp only); (try k_sweep); (try k_fold)))
local macro_rules | `(tactic| walk_at "call ref") => `(tactic| (k_here; (with_reducible show wpAny _ _ (call (Value.ref 47) [Value.ref _, Value.int _ _]) _ _ _); k_dflt (refine' great_call ?k1 ?k2 ?k3 ?k4 ?k5 ?kK ?kd ?ku ?kn ?ko ?kS ?km ?km2 ?_; (case k1 => k_asm); (case k2 => k_asm); (case k3 => k_asm); (case k4 => walk_at "mine:led"); (case k5 => k_asm); (case kK => first | exact rfl | assumption); (case kd => ktr_room); (case ku => ktr_units); (case kn => first | assumption | omega); (case ko => walk_at "mine:off"); (case kS => assumption); (case km => omega); (case km2 => omega); k_whole); intro v9 t9 a9 u9 vs9 ns9 h9 tk9 hv9 hw9 hS9 F9 N9; (try dsimp only); (try k_sweep); (try k_fold)))
theorem number_pow {v x : Int} (h0 : 0 ≤ v) (h1 : v < 300) (h2 : 0 ≤ x) (h3 : x < 3) : 0 ≤ 2 ^ v.toNat + x - 1 ∧ (2 : Int) ^ v.toNat + x - 1 < 2 ^ 400 := by
  have h4 : (2 : Int) ^ v.toNat ≤ 2 ^ 300 := Int.ofNat_le.mpr (Nat.pow_le_pow_right (n := 2) (by decide) (by omega : v.toNat ≤ 300))
  have h5 : 0 < (2 : Int) ^ v.toNat := Int.pow_pos (by decide)
  have h6 : (2 : Int) ^ 400 = 2 ^ 300 * 2 ^ 100 := by rw [← Int.pow_add]
  have h7 : (2 : Int) ^ 100 = 1267650600228229401496703205376 := by decide
  rw [h6, h7]
  generalize (2 : Int) ^ 300 = X at h4 ⊢
  omega
section
variable {w : World} {p : Program} {loose : List Str} {mean : ExcName → Option Value} {mg mb : Str → Option Value}
    {dp un : Nat} {gd : Option (List Code)} {cn : Str} {cs : Scope} {a : Addr} {ccd : Value} {ccl : List (Str × Addr)} {outer : List Env} {A₀ : Around} {base h₀ : Heap} {L : Addr} {m : Str → Option Value} {s : Shared} {Q E : Value → Shared → Prop}
    {st cl : Addr} {at_ : Int} {t : Tok} {n n2 : Nat} {vs : List Value} {ns : List Int} {rest : List (Addr × Obj)}
theorem number_spec
    (B : Below A₀ base outer h₀) (F : Fr h₀ L s.heap m) (X : (hd.heap_39 w.params).In h₀) (N : News h₀ L s.heap ((st, stO at_ t cl n) :: (cl, listOf vs.toArray n2) :: rest)) (T : Top p loose mean mg mb h₀) (hk : cs.kind = .function)
    (hd : dp + 3 < recursionLimit) (hu : un + 24 < cLine)
    (hne : @Ne Nat st cl) (ho : OwnOff rest [st, cl]) (hS : StOk at_ vs ns)
    (hret : ∀ (v : Int) (t' : Tok) (at' : Int) (t2 : Tok) (vs' : List Value) (ns' : List Int) (h' : Heap) (tk' : Nat), 0 ≤ v → v < 2 ^ 400 → StOk at' vs' ns' → Fr h₀ L h' m → News h₀ L h' ((st, stO at' t2 cl n) :: (cl, listOf vs'.toArray n2) :: rest) → Q (.int v t') { s with heap := h', toks := tk' }) :
    wpAny (model PySem.Challenge.rw_ys0003_03.row.prog w) (ktrTop dp un gd cn cs L a ccd ccl outer) (call (.ref 54) [.ref st]) Q E s := by
  revert X; k_fill; intro X
  have hMk := kstMark
  refine wpAny_call ?_
  k_dflt cell_enter
  k_steps
  · exact hret _ _ _ _ _ _ _ _ (getD_in (lo := 0) (hi := 65536) (by decide) (by decide) _).1 (Int.lt_of_le_of_lt (getD_in (lo := 0) (hi := 65536) (by decide) (by decide) _).2 (by decide)) (by assumption) (by k_asm) (by walk_at "mine:back")
  · exact hret _ _ _ _ _ _ _ _ (number_pow (by assumption) (by assumption) (by assumption) (by assumption)).1 (number_pow (by assumption) (by assumption) (by assumption) (by assumption)).2 (by assumption) (by k_asm) (by k_asm)
  · exact hret _ _ _ _ _ _ _ _ (by assumption) (by assumption) (by assumption) (by k_asm) (by k_asm)
end
end
section
local macro_rules | `(tactic| walk_at "mine:off") => `(tactic| first | assumption | exact offNil | (refine offCons (by first | assumption | omega) (by first | assumption | omega) ?_; walk_at "mine:off"))
local macro_rules | `(tactic| walk_at "mine:led") => `(tactic| first | k_asm | (refine' nl1 ?kl; (case kl => k_asm)) | (refine' nl2 ?kl; (case kl => k_asm)) | (refine' nl3 ?kl; (case kl => k_asm)) | (refine' nl4 ?kl; (case kl => k_asm)) | (refine' nl5 ?kl; (case kl => k_asm)))
local macro_rules | `(tactic| walk_at "mine:back") => `(tactic| first | k_asm | (refine' nd1 ?kl; (case kl => k_asm)) | (refine' nd2 ?kl; (case kl => k_asm)) | (refine' nd3 ?kl; (case kl => k_asm)) | (refine' nd4 ?kl; (case kl => k_asm)))
local macro_rules | `(tactic| walk_at "mine:lt") => `(tactic| first | exact allLt_ne (by assumption) | exact allLt_ne (And.right (by assumption)) | exact allLt_ne (And.right (And.right (by assumption))) | exact allLt_ne (And.right (And.right (And.right (by assumption)))) | exact allLt_ne (And.right (And.right (And.right (And.right (by assumption))))) | assumption)
local macro_rules | `(tactic| walk_at "exec Assign cons ListComp") => `(tactic| (k_here; refine Halt.out ?_))
local macro_rules | `(tactic| walk_at "eval ListComp") => `(tactic| (k_here; refine Halt.out ?_))
local macro_rules | `(tactic| walk_at "CompSrc") => `(tactic| (k_here; refine Halt.out ?_))
local macro_rules | `(tactic| walk_at "CompEnd") => `(tactic| (k_here; refine Halt.out ?_))
section
variable {w : World} {p : Program} {loose : List Str} {mean : ExcName → Option Value} {mg mb : Str → Option Value}
    {dp un : Nat} {gd : Option (List Code)} {cn : Str} {cs : Scope} {a : Addr} {ccd : Value} {ccl : List (Str × Addr)} {outer : List Env} {A₀ : Around} {base h₀ : Heap} {L : Addr} {m : Str → Option Value} {s : Shared} {Q E : Value → Shared → Prop}
    {rest : List (Addr × Obj)}
theorem state_spec {l : Addr} {vs : List Value} {ns : List Int}
    (B : Below A₀ base outer h₀) (F : Fr h₀ L s.heap m) (X : (hd.heap_39 w.params).In h₀) (N : News h₀ L s.heap rest) (T : Top p loose mean mg mb h₀) (hk : cs.kind = .function)
    (hd : dp + 1 < recursionLimit) (hu : un + 8 < cLine)
    (hl : base.IsList l vs.toArray) (hi : IntsAre vs ns) (hlen : ns.length ≤ 63)
    (hret : ∀ (st cl : Addr) (t2 : Tok) (n n2 : Nat) (vs' : List Value) (ns' : List Int) (h' : Heap) (tk' : Nat), @Ne Nat st cl → OwnOff rest [st, cl] → StOk 0 vs' ns' → Fr h₀ L h' m → News h₀ L h' ((st, stO 0 t2 cl n) :: (cl, listOf vs'.toArray n2) :: rest) → Q (.ref st) { s with heap := h', toks := tk' }) :
    wpAny (model PySem.Challenge.rw_ys0003_03.row.prog w) (ktrTop dp un gd cn cs L a ccd ccl outer) (call (.ref 33) [.ref l]) Q E s := by
  revert X; k_fill; intro X
  have hMk := kstMark
  have hll : vs.length ≤ 63 := by rw [hi.length]; exact hlen
  refine wpAny_call ?_
  k_dflt cell_enter
  k_steps
  unfold Halt
  refine LCg.Assign_ListComp_U (F₀ := by k_asm) (by rfl) (by with_unfolding_all rfl) (by with_unfolding_all rfl) (by decide) (by rfl) (by decide) (by rfl) (by rfl) (by rfl) ?_
  k_steps
  unfold Halt
  rename IntsAre _ _ => hI2
  have hl2 := hI2.length
  rw [List.length_take] at hl2
  refine LCg.CompSrc.ledger (by rfl) (by k_asm) (by k_asm) (by k_mem) (by rw [PySem.sizeLine_eq, List.size_toArray]; omega) ?_
  intro g
  refine' kcf_list (fun k => (k.natAbs : Int)) hI2 (fun k' t' I' oI' C' oC' D' m' ys' h' tk' E' hk' hC' hx' F' N' off' ne' hMark' => ?_) ?_
  · k_steps
    unfold Halt
    refine LCg.CompEnd.intro (by k_asm) (by k_asm) _ (fun p hp => hp) off' (.inr ⟨_, by k_mem, rfl, _, rfl⟩) (kcf_el ?_ rfl rfl)
    omega
  · unfold KPfDone LCg.FinA
    intro ys hys D3 h3 tk3 F3 N3 o3
    have hl3 := hys.length
    rw [List.length_map] at hl3
    have o4 := o3.2
    have hh := off1_ne o4
    try dsimp only
    k_steps
    · refine' hret _ _ _ _ _ _ [0] _ _ ?h1 ?h2 ?h3 ?h4 ?h5
      (case h4 => k_asm)
      (case h5 => walk_at "mine:back")
      (case h1 => omega)
      (case h2 => exact offOf (by walk_at "mine:lt") (by walk_at "mine:lt"))
      (case h3 => exact ⟨by decide, .cons _ _ .nil, by simp, by simp, by simp⟩)
    · refine' hret _ _ _ _ _ _ ((ns.take 63).map fun k => (k.natAbs : Int)) _ _ ?h1 ?h2 ?h3 ?h4 ?h5
      (case h4 => k_asm)
      (case h5 => walk_at "mine:back")
      (case h1 => omega)
      (case h2 => exact offOf (by walk_at "mine:lt") (by walk_at "mine:lt"))
      refine ⟨by decide, hys, ?_, ?_, ?_⟩
      · intro c hc
        obtain ⟨k, _, rfl⟩ := List.mem_map.mp hc
        omega
      · omega
      · rw [List.length_map, List.length_take]
        omega
end
end
section
local macro_rules | `(tactic| walk_at "mine:off") => `(tactic| first | assumption | exact offNil | (refine offCons (by first | assumption | omega) (by first | assumption | omega) ?_; walk_at "mine:off"))
local macro_rules | `(tactic| walk_at "mine:led") => `(tactic| first | k_asm | (refine' nl1 ?kl; (case kl => k_asm)) | (refine' nl2 ?kl; (case kl => k_asm)) | (refine' nl3 ?kl; (case kl => k_asm)) | (refine' nl4 ?kl; (case kl => k_asm)) | (refine' nl5 ?kl; (case kl => k_asm)))
local macro_rules | `(tactic| walk_at "mine:back") => `(tactic| first | k_asm | (refine' nd1 ?kl; (case kl => k_asm)) | (refine' nd2 ?kl; (case kl => k_asm)) | (refine' nd3 ?kl; (case kl => k_asm)) | (refine' nd4 ?kl; (case kl => k_asm)))
local macro_rules | `(tactic| walk_at "mine:lt") => `(tactic| first | exact allLt_ne (by assumption) | exact allLt_ne (And.right (by assumption)) | exact allLt_ne (And.right (And.right (by assumption))) | exact allLt_ne (And.right (And.right (And.right (by assumption)))) | exact allLt_ne (And.right (And.right (And.right (And.right (by assumption))))) | assumption)
local macro_rules | `(tactic| walk_at "call ref") => `(tactic| (k_here; (with_reducible show wpAny _ _ (call (Value.ref _) _) _ _ _); (refine wpAny_call ?_); (have hkF : ScopeKind.function = ScopeKind.function := rfl); k_dflt cell_enter))
/-- the rounds by the number's bits -/
def rounds (x : Int) : Int := if 1536 ≤ Builtin.Int.intBits x then 3 else if 1024 ≤ Builtin.Int.intBits x then 4 else if 512 ≤ Builtin.Int.intBits x then 7 else 10
section
variable {w : World} {p : Program} {loose : List Str} {mean : ExcName → Option Value} {mg mb : Str → Option Value}
    {dp un : Nat} {gd : Option (List Code)} {cn : Str} {cs : Scope} {a : Addr} {ccd : Value} {ccl : List (Str × Addr)} {outer : List Env} {A₀ : Around} {base h₀ : Heap} {L : Addr} {m : Str → Option Value} {s : Shared} {Q E : Value → Shared → Prop}
    {rest : List (Addr × Obj)}
theorem rounds_spec {x : Int} {t : Tok}
    (B : Below A₀ base outer h₀) (F : Fr h₀ L s.heap m) (X : (hd.heap_39 w.params).In h₀) (N : News h₀ L s.heap rest) (T : Top p loose mean mg mb h₀) (hk : cs.kind = .function)
    (hd : dp + 2 < recursionLimit) (hu : un + 16 < cLine)
    (hret : ∀ (t' : Tok) (h' : Heap) (tk' : Nat), Fr h₀ L h' m → News h₀ L h' rest → Q (.int (rounds x) t') { s with heap := h', toks := tk' }) :
    wpAny (model PySem.Challenge.rw_ys0003_03.row.prog w) (ktrTop dp un gd cn cs L a ccd ccl outer) (call (.ref 28) [.int x t]) Q E s := by
  revert X; k_fill; intro X
  have hMk := kstMark
  refine wpAny_call ?_
  k_dflt cell_enter
  k_steps
  all_goals exact cb_retI (Q := Q) (s := s) hret (by unfold rounds; (repeat' split) <;> first | rfl | omega) (by k_asm) (by k_asm)
end
end
section
local macro_rules | `(tactic| walk_at "mine:off") => `(tactic| first | assumption | exact offNil | (refine offCons (by first | assumption | omega) (by first | assumption | omega) ?_; walk_at "mine:off"))
local macro_rules | `(tactic| walk_at "mine:led") => `(tactic| first | k_asm | (refine' nl1 ?kl; (case kl => k_asm)) | (refine' nl2 ?kl; (case kl => k_asm)) | (refine' nl3 ?kl; (case kl => k_asm)) | (refine' nl4 ?kl; (case kl => k_asm)) | (refine' nl5 ?kl; (case kl => k_asm)))
local macro_rules | `(tactic| walk_at "mine:back") => `(tactic| first | k_asm | (refine' nd1 ?kl; (case kl => k_asm)) | (refine' nd2 ?kl; (case kl => k_asm)) | (refine' nd3 ?kl; (case kl => k_asm)) | (refine' nd4 ?kl; (case kl => k_asm)))
local macro_rules | `(tactic| walk_at "mine:lt") => `(tactic| first | exact allLt_ne (by assumption) | exact allLt_ne (And.right (by assumption)) | exact allLt_ne (And.right (And.right (by assumption))) | exact allLt_ne (And.right (And.right (And.right (by assumption)))) | exact allLt_ne (And.right (And.right (And.right (And.right (by assumption))))) | assumption)
local macro_rules | `(tactic| walk_at "call ref") => `(tactic| (k_here; (with_reducible show wpAny _ _ (call (Value.ref _) _) _ _ _); (refine wpAny_call ?_); (have hkF : ScopeKind.function = ScopeKind.function := rfl); k_dflt cell_enter))
theorem bits_ge {x e : Int} : (2 : Int) ^ e.toNat ≤ (if x < 0 then -x else x) ↔ e.toNat + 1 ≤ Builtin.Int.intBits x := by
  have h := @intBits_le_iff e.toNat x
  have e2 : (2 : Int) ^ e.toNat = ((2 ^ e.toNat : Nat) : Int) := by simp
  rw [e2]
  generalize 2 ^ e.toNat = X at h ⊢
  split <;> omega
section
variable {w : World} {p : Program} {loose : List Str} {mean : ExcName → Option Value} {mg mb : Str → Option Value}
    {dp un : Nat} {gd : Option (List Code)} {cn : Str} {cs : Scope} {a : Addr} {ccd : Value} {ccl : List (Str × Addr)} {outer : List Env} {A₀ : Around} {base h₀ : Heap} {L : Addr} {m : Str → Option Value} {s : Shared} {Q E : Value → Shared → Prop}
    {rest : List (Addr × Obj)}
theorem due_spec {x : Int} {t : Tok}
    (B : Below A₀ base outer h₀) (F : Fr h₀ L s.heap m) (X : (hd.heap_39 w.params).In h₀) (N : News h₀ L s.heap rest) (T : Top p loose mean mg mb h₀) (hk : cs.kind = .function)
    (hd : dp + 2 < recursionLimit) (hu : un + 16 < cLine)
    (hret : ∀ (t' : Tok) (h' : Heap) (tk' : Nat), Fr h₀ L h' m → News h₀ L h' rest → Q (.int (rounds x) t') { s with heap := h', toks := tk' }) :
    wpAny (model PySem.Challenge.rw_ys0003_03.row.prog w) (ktrTop dp un gd cn cs L a ccd ccl outer) (call (.ref 61) [.int x t]) Q E s := by
  revert X; k_fill; intro X
  have hMk := kstMark
  refine wpAny_call ?_
  k_dflt cell_enter
  k_steps
  all_goals exact cb_retI (Q := Q) (s := s) hret (by simp only [bits_ge] at *; unfold rounds; (repeat' split) <;> first | rfl | omega) (by k_asm) (by k_asm)
end
end
section
section
variable {prog : Program} {w : World} {A : Around} {E : Value → Shared → Prop} {s : Shared} {env : Env} {h₀ : Heap} {x : Str} {body : List Stmt} {Q : Flow → Shared → Prop}
    {st cl : Addr} {at_ : Int} {t : Tok} {n n2 : Nat} {vs : List Value} {ns : List Int} {rest : List (Addr × Obj)} {δ : Type}
abbrev stLed (δ : Type) (st cl : Addr) (n n2 : Nat) (rest : List (Addr × Obj)) (c : δ × Int × Tok × List Value × List Int) : List (Addr × Obj) :=
  (st, stO c.2.1 c.2.2.1 cl n) :: (cl, listOf c.2.2.2.1.toArray n2) :: rest
abbrev stPs (ps : δ → List (Str × Value)) (c : δ × Int × Tok × List Value × List Int) : List (Str × Value) := ps c.1
abbrev stFacts (δ : Type) (c : δ × Int × Tok × List Value × List Int) : Prop := StOk c.2.1 c.2.2.2.1 c.2.2.2.2
abbrev stP (P : List Int → δ → Prop) (pre : List Int) (c : δ × Int × Tok × List Value × List Int) : Prop := P pre c.1

theorem st_range {r : Addr} {a₀ b₀ : Int} {t₀ u₀ v₀ : Tok} {nn : Nat} {m₀ : Str → Option Value} (ps : δ → List (Str × Value)) (stored : List Str) (P : List Int → δ → Prop) (d₀ : δ)
    (hh : A.handled = none) (hr : IsRange s.heap r a₀ b₀ 1 t₀ u₀ v₀) (hsmall : Builtin.Range.small a₀ b₀ 1 = true) (hn : Builtin.Range.rangeSize a₀ b₀ 1 = (nn : Int)) (F : Fr h₀ env.locals s.heap m₀)
    (N : News h₀ env.locals s.heap ((st, stO at_ t cl n) :: (cl, listOf vs.toArray n2) :: rest)) (hS : StOk at_ vs ns) (ho : OwnOff rest [st, cl]) (hk : ∀ p ∈ ps d₀, m₀ p.1 = some p.2) (hp : P [] d₀)
    (turn : ∀ (d : δ) (pre : List Int) (k : Int) t' (u : Str → Option Value) h tk own at1 t1 vs1 ns1, k = a₀ + (pre.length : Int) → pre.length < nn → StOk at1 vs1 ns1 → P pre d → OwnOff (rest ++ own) [st, cl] → OwnOff own (st :: cl :: rest.map (·.1)) →
      Fr h₀ env.locals h (fun y => if y = x then some (.int k t') else kstB (fun z => if stored.contains z then u z else m₀ z) (ps d) y) → News h₀ env.locals h ((st, stO at1 t1 cl n) :: (cl, listOf vs1.toArray n2) :: (rest ++ own)) →
      wpAny (model prog w) A (execs body env) (InvPostN h₀ env.locals (KstS (stLed δ st cl n n2 rest) (stPs ps) (stFacts δ) x stored m₀ (stP P) (pre ++ [k])) own (st :: cl :: rest.map (·.1)) { s with heap := h, toks := tk } Q) E { s with heap := h, toks := tk })
    (done : ∀ (d : δ) (u : Str → Option Value) h tk at1 t1 vs1 ns1, StOk at1 vs1 ns1 → P (rangeKs a₀ nn) d → Fr h₀ env.locals h (fun y => if y = x then u y else kstB (fun z => if stored.contains z then u z else m₀ z) (ps d) y) →
      News h₀ env.locals h ((st, stO at1 t1 cl n) :: (cl, listOf vs1.toArray n2) :: rest) → Q .next { s with heap := h, toks := tk }) :
    wpAny (model prog w) A (pyIter (.ref r)) (fun it s₂ => LoopAtV prog w A h₀ env x body Q E it s₂) E s := by
  refine kst_range (stLed δ st cl n n2 rest) (stPs ps) (stFacts δ) stored (stP P) (d₀, at_, t, vs, ns) hh hr hsmall hn F N hS hk hp ?_ ?_
  · rintro ⟨d, at1, t1, vs1, ns1⟩ pre k t' u h tk own hk' hlt hoff hf hP F9 N9
    exact turn d pre k t' u h tk own at1 t1 vs1 ns1 hk' hlt hf hP (offApp ho (offSub hoff (by simp) (by simp))) hoff F9 N9
  · rintro ⟨d, at1, t1, vs1, ns1⟩ u h tk hf hP F9 N9
    exact done d u h tk at1 t1 vs1 ns1 hf hP F9 N9

theorem st_end {ps : δ → List (Str × Value)} {stored : List Str} {P : List Int → δ → Prop} {m₀ m' : Str → Option Value} {L : Addr} {pre : List Int} {own : List (Addr × Obj)} {s₁ : Shared} {h' : Heap} {tk : Nat} {at1 : Int} {t1 : Tok} {vs1 : List Value} {ns1 : List Int} (d : δ)
    (F : Fr h₀ L h' m') (N : News h₀ L h' ((st, stO at1 t1 cl n) :: (cl, listOf vs1.toArray n2) :: (rest ++ own))) (hS : StOk at1 vs1 ns1) (hk : ∀ p ∈ ps d, m' p.1 = some p.2)
    (hr : ∀ z, z ≠ x → (∀ p ∈ ps d, z ≠ p.1) → stored.contains z = false → m' z = m₀ z) (hp : P pre d) :
    InvEndN h₀ L (KstS (stLed δ st cl n n2 rest) (stPs ps) (stFacts δ) x stored m₀ (stP P) pre) own (st :: cl :: rest.map (·.1)) s₁ { s₁ with heap := h', toks := tk } := by
  refine kst_end (d, at1, t1, vs1, ns1) F N (fun p hp => ?_) (fun p hp => ?_) rfl hS hk hr hp
  · simp only [List.mem_cons, List.mem_append] at hp ⊢
    rcases hp with h | h | h
    · exact .inl h
    · exact .inr (.inl h)
    · exact .inr (.inr (.inl h))
  · exact List.mem_cons_of_mem _ (List.mem_cons_of_mem _ (List.mem_append.mpr (.inr hp)))
end
end
section
local macro_rules | `(tactic| walk_at "mine:off") => `(tactic| first | assumption | exact offNil | (refine offCons (by first | assumption | omega) (by first | assumption | omega) ?_; walk_at "mine:off"))
local macro_rules | `(tactic| walk_at "mine:led") => `(tactic| first | k_asm | (refine' nl1 ?kl; (case kl => k_asm)) | (refine' nl2 ?kl; (case kl => k_asm)) | (refine' nl3 ?kl; (case kl => k_asm)) | (refine' nl4 ?kl; (case kl => k_asm)) | (refine' nl5 ?kl; (case kl => k_asm)))
local macro_rules | `(tactic| walk_at "mine:back") => `(tactic| first | k_asm | (refine' nd1 ?kl; (case kl => k_asm)) | (refine' nd2 ?kl; (case kl => k_asm)) | (refine' nd3 ?kl; (case kl => k_asm)) | (refine' nd4 ?kl; (case kl => k_asm)))
local macro_rules | `(tactic| walk_at "mine:lt") => `(tactic| first | exact allLt_ne (by assumption) | exact allLt_ne (And.right (by assumption)) | exact allLt_ne (And.right (And.right (by assumption))) | exact allLt_ne (And.right (And.right (And.right (by assumption)))) | exact allLt_ne (And.right (And.right (And.right (And.right (by assumption))))) | assumption)
local macro_rules | `(tactic| walk_at "call ref") => `(tactic| (k_here; (with_reducible show wpAny _ _ (call (Value.ref 40) [Value.ref _, Value.int _ _]) _ _ _); k_dflt (refine' take_spec ?k1 ?k2 ?k3 ?k4 ?k5 ?kK ?kd ?ku ?kn ?ko ?kS ?km ?km2 ?_; (case k1 => k_asm); (case k2 => k_asm); (case k3 => k_asm); (case k4 => walk_at "mine:led"); (case k5 => k_asm); (case kK => first | exact rfl | assumption); (case kd => ktr_room); (case ku => ktr_units); (case kn => first | assumption | omega); (case ko => walk_at "mine:off"); (case kS => assumption); (case km => omega); (case km2 => omega); k_whole); intro v9 t9 a9 u9 vs9 ns9 h9 tk9 hv9 hw9 hS9 F9 N9; (try dsimp only); (try k_sweep); (try k_fold)))
local macro_rules | `(tactic| walk_at "call ref") => `(tactic| (k_here; (with_reducible show wpAny _ _ (call (Value.ref 54) [Value.ref _]) _ _ _); k_dflt (refine' number_spec ?k1 ?k2 ?k3 ?k4 ?k5 ?kK ?kd ?ku ?kn ?ko ?kS ?_; (case k1 => k_asm); (case k2 => k_asm); (case k3 => k_asm); (case k4 => walk_at "mine:led"); (case k5 => k_asm); (case kK => first | exact rfl | assumption); (case kd => ktr_room); (case ku => ktr_units); (case kn => first | assumption | omega); (case ko => walk_at "mine:off"); (case kS => assumption); k_whole); intro v9 t9 a9 u9 vs9 ns9 h9 tk9 hv9 hw9 hS9 F9 N9; (try dsimp only); (try k_sweep); (try k_fold)))
local macro_rules | `(tactic| walk_at "call ref") => `(tactic| (k_here; (with_reducible show wpAny _ _ (call (Value.ref 28) [Value.int _ _]) _ _ _); k_dflt (refine' rounds_spec ?k1 ?k2 ?k3 ?k4 ?k5 ?kK ?kd ?ku ?_; (case k1 => k_asm); (case k2 => k_asm); (case k3 => k_asm); (case k4 => k_asm); (case k5 => k_asm); (case kK => first | exact rfl | assumption); (case kd => ktr_room); (case ku => ktr_units); k_whole); intro t9 h9 tk9 F9 N9; (try dsimp only); (try k_sweep); (try k_fold)))
local macro_rules | `(tactic| walk_at "call ref") => `(tactic| (k_here; (with_reducible show wpAny _ _ (call (Value.ref 61) [Value.int _ _]) _ _ _); k_dflt (refine' due_spec ?k1 ?k2 ?k3 ?k4 ?k5 ?kK ?kd ?ku ?_; (case k1 => k_asm); (case k2 => k_asm); (case k3 => k_asm); (case k4 => k_asm); (case k5 => k_asm); (case kK => first | exact rfl | assumption); (case kd => ktr_room); (case ku => ktr_units); k_whole); intro t9 h9 tk9 F9 N9; (try dsimp only); (try k_sweep); (try k_fold)))
local macro_rules | `(tactic| walk_at "call ref") => `(tactic| (k_here; (with_reducible show wpAny _ _ (call (Value.ref 33) [Value.ref _]) _ _ _); k_dflt (refine' state_spec ?k1 ?k2 ?k3 ?k4 ?k5 ?kK ?kd ?ku ?kl ?ki ?kn ?_; (case k1 => k_asm); (case k2 => k_asm); (case k3 => k_asm); (case k4 => k_asm); (case k5 => k_asm); (case kK => first | exact rfl | assumption); (case kd => ktr_room); (case ku => ktr_units); (case kl => k_asm); (case ki => k_asm); (case kn => omega); k_whole); intro st9 cl9 t9 n9 m9 vs9 ns9 h9 tk9 hne9 ho9 hS9 F9 N9; (try dsimp only); (try k_sweep); (try k_fold)))
local macro_rules | `(tactic| walk_at "pyIter ref") => `(tactic| (k_here; refine Halt.out ?_))
local macro_rules | `(tactic| walk_at "exec For Name Call cons nil") => `(tactic| (k_here; (rename Fr _ _ _ _ => lF'); (with_unfolding_all refine' For_invVF lF' ?k1 ?k2 ?_; (case k1 => exact rfl); (case k2 => exact rfl); k_whole)))
local macro_rules | `(tactic| walk_at "InvEndN") => `(tactic| (k_here; refine Halt.out ?_))
theorem exps_in {v : Int} (h0 : 0 ≤ v) (h1 : v < 1100) (i : Nat) : 0 ≤ [511, 1023, 1535, 500 + v].getD i 0 ∧ [511, 1023, 1535, 500 + v].getD i 0 ≤ 1000000 := by
  refine getD_in (fun c hc => ?_) (by decide) i
  simp only [List.mem_cons, List.not_mem_nil, or_false] at hc
  omega
theorem signs_bits (i : Nat) : Builtin.Int.intBits ([1, 1, -1].getD i 0) ≤ 64 := by
  have h := getD_in (ns := [1, 1, -1]) (lo := -1) (hi := 1) (by decide) (by decide) i
  exact PySem.intBits_le_64 (by omega) (by omega)
local macro_rules | `(tactic| mul_fits) => `(tactic| exact PySem.IntMulOk.of_right (signs_bits _))
local macro_rules | `(tactic| walk_at "binaryOp Pow int int") => `(tactic| (k_here; (refine pow_int_small (exps_in (by assumption) (by assumption) _).1 (exps_in (by assumption) (by assumption) _).2 (by decide) ?_)))
theorem law_walk : PySem.Challenge.rw_ys0003_03.Holds := hd (by
  k_go0
  have hMk := kstMark
  (all_goals try k_fold)
  k_steps
  unfold Halt
  rename IsRange _ _ _ _ _ _ _ _ => rgX
  rename Fr _ _ _ _ => lF
  rename News _ _ _ _ => lN
  rename StOk _ _ _ => lS
  rename OwnOff _ _ => lO
  rename @Ne Nat _ _ => lne
  with_unfolding_all
   refine' st_range (δ := Unit) (fun _ => []) [Str.ofString "number"] (fun _ _ => True) ()
    (by rfl) rgX (by decide) (by rfl) lF lN lS lO (by kst_all) trivial ?_ ?_
  · intro d pre k t' u h tk own at1 t1 vs1 ns1 hk' hlt hf hP ho2 hoff F9 N9
    clear lF lN lS hk' hP hoff
    simp only [kstB] at F9
    (try dsimp only)
    (try k_fold)
    k_steps
    unfold Halt
    rename StOk _ _ _ => sE
    refine' st_end () ?kF ?kN sE ?kh ?kr trivial
    (case kF => k_asm)
    (case kN => walk_at "mine:back")
    (case kh => kst_all)
    (case kr => kst_same)
  · intro d u h tk at1 t1 vs1 ns1 hf hP F9 N9
    simp only [kstB] at F9
    clear lF lN lS
    (try dsimp only)
    (try k_fold)
    k_steps)
end
end Mine
set_option maxRecDepth 100000 in
set_option maxHeartbeats 8000000 in
theorem PySem.Challenge.cw_ys0003_03_holds : PySem.Challenge.rw_ys0003_03.Holds := by
  exact Mine.law_walk
