import PyProof.Rows.All
import Wide.All
import OpenK.AllK
import Wide.FinOn
import PySem.Challenge.RW_ys0003_01
open PySem PySem.W PySem.Calls PyProof.Rows
set_option Elab.async false
set_option maxRecDepth 100000
set_option maxHeartbeats 8000000
namespace Mine

open_top hd for PySem.Challenge.rw_ys0003_01
section
/-- a mark at which the walk halts, so that the next step is taken by hand -/
def Halt (P : Prop) : Prop := P
theorem Halt.out {P : Prop} (h : Halt P) : P := h

abbrev stO (at_ : Int) (t : Tok) (cl : Addr) (n : Nat) : Obj := listOf [Value.int at_ t, Value.ref cl].toArray n

structure StOk (at_ : Int) (vs : List Value) (ns : List Int) : Prop where
  at0 : 0 ≤ at_
  isI : IntsAre vs ns
  pos : ∀ c ∈ ns, 0 ≤ c
  len0 : 0 < ns.length
  len63 : ns.length ≤ 63

theorem nl1 {h₀ h : Heap} {L : Addr} {a b c : Addr × Obj} {r : List (Addr × Obj)} (N : News h₀ L h (a :: b :: c :: r)) : News h₀ L h (b :: c :: a :: r) :=
  fun p hp => N p (by simp only [List.mem_cons] at hp ⊢; grind)
theorem nl2 {h₀ h : Heap} {L : Addr} {a a2 b c : Addr × Obj} {r : List (Addr × Obj)} (N : News h₀ L h (a :: a2 :: b :: c :: r)) : News h₀ L h (b :: c :: a :: a2 :: r) :=
  fun p hp => N p (by simp only [List.mem_cons] at hp ⊢; grind)
theorem nl3 {h₀ h : Heap} {L : Addr} {a a2 a3 b c : Addr × Obj} {r : List (Addr × Obj)} (N : News h₀ L h (a :: a2 :: a3 :: b :: c :: r)) : News h₀ L h (b :: c :: a :: a2 :: a3 :: r) :=
  fun p hp => N p (by simp only [List.mem_cons] at hp ⊢; grind)
theorem nl4 {h₀ h : Heap} {L : Addr} {a a2 a3 a4 b c : Addr × Obj} {r : List (Addr × Obj)} (N : News h₀ L h (a :: a2 :: a3 :: a4 :: b :: c :: r)) : News h₀ L h (b :: c :: a :: a2 :: a3 :: a4 :: r) :=
  fun p hp => N p (by simp only [List.mem_cons] at hp ⊢; grind)
theorem nl5 {h₀ h : Heap} {L : Addr} {a a2 a3 a4 a5 b c : Addr × Obj} {r : List (Addr × Obj)} (N : News h₀ L h (a :: a2 :: a3 :: a4 :: a5 :: b :: c :: r)) : News h₀ L h (b :: c :: a :: a2 :: a3 :: a4 :: a5 :: r) :=
  fun p hp => N p (by simp only [List.mem_cons] at hp ⊢; grind)

theorem offNil {st cl : Addr} : OwnOff [] [st, cl] := fun _ hp => nomatch hp
theorem offCons {a st cl : Addr} {o : Obj} {r : List (Addr × Obj)} (h1 : @Ne Nat a st) (h2 : @Ne Nat a cl) (h : OwnOff r [st, cl]) : OwnOff ((a, o) :: r) [st, cl] := by
  intro p hp b hb
  rcases List.mem_cons.mp hp with rfl | hp
  · rcases List.mem_cons.mp hb with rfl | hb
    · exact h1
    · rw [List.mem_singleton.mp hb]; exact h2
  · exact h p hp b hb


theorem getD_pos {ns : List Int} (h : ∀ c ∈ ns, 0 ≤ c) (i : Nat) : 0 ≤ ns.getD i 0 := by
  rw [List.getD_eq_getElem?_getD]
  cases e : ns[i]? with
  | none => exact Int.le_refl _
  | some v => exact h v (List.mem_of_getElem? e)

theorem StOk.setc {at_ : Int} {vs : List Value} {ns : List Int} (S : StOk at_ vs ns) {i : Nat} {vs' : List Value} {most : Int} (hm : 0 < most)
    (hi : IntsAre vs' (ns.set i ((ns.getD i 0).fdiv most))) : StOk at_ vs' (ns.set i ((ns.getD i 0).fdiv most)) where
  at0 := S.at0
  isI := hi
  pos := fun c hc => by
    rcases List.mem_or_eq_of_mem_set hc with h | h
    · exact S.pos c h
    · rw [h, Int.fdiv_eq_ediv_of_nonneg _ (by omega)]
      exact Int.ediv_nonneg (getD_pos S.pos i) (by omega)
  len0 := by rw [List.length_set]; exact S.len0
  len63 := by rw [List.length_set]; exact S.len63

theorem StOk.inc {at_ : Int} {vs : List Value} {ns : List Int} (S : StOk at_ vs ns) : StOk (at_ + 1) vs ns :=
  ⟨by have := S.at0; omega, S.isI, S.pos, S.len0, S.len63⟩

theorem offApp {st cl : Addr} {r r' : List (Addr × Obj)} (h : OwnOff r [st, cl]) (h' : OwnOff r' [st, cl]) : OwnOff (r ++ r') [st, cl] := by
  intro p hp
  rcases List.mem_append.mp hp with hp | hp
  · exact h p hp
  · exact h' p hp
theorem offSub {st cl : Addr} {r : List (Addr × Obj)} {l : List Addr} (h : OwnOff r l) (h1 : st ∈ l) (h2 : cl ∈ l) : OwnOff r [st, cl] := by
  intro p hp b hb
  rcases List.mem_cons.mp hb with rfl | hb
  · exact h p hp _ h1
  · rw [List.mem_singleton.mp hb]; exact h p hp _ h2
theorem getD_in {ns : List Int} {lo hi : Int} (h : ∀ c ∈ ns, lo ≤ c ∧ c ≤ hi) (h0 : lo ≤ 0 ∧ 0 ≤ hi) (i : Nat) : lo ≤ ns.getD i 0 ∧ ns.getD i 0 ≤ hi := by
  rw [List.getD_eq_getElem?_getD]
  cases e : ns[i]? with
  | none => exact h0
  | some v => exact h v (List.mem_of_getElem? e)
theorem nd1 {h₀ h : Heap} {L : Addr} {a b c : Addr × Obj} {r : List (Addr × Obj)} (N : News h₀ L h (a :: b :: c :: r)) : News h₀ L h (a :: b :: r) :=
  fun p hp => N p (by simp only [List.mem_cons] at hp ⊢; grind)
theorem nd2 {h₀ h : Heap} {L : Addr} {a b c c2 : Addr × Obj} {r : List (Addr × Obj)} (N : News h₀ L h (a :: b :: c :: c2 :: r)) : News h₀ L h (a :: b :: r) :=
  fun p hp => N p (by simp only [List.mem_cons] at hp ⊢; grind)
theorem nd3 {h₀ h : Heap} {L : Addr} {a b c c2 c3 : Addr × Obj} {r : List (Addr × Obj)} (N : News h₀ L h (a :: b :: c :: c2 :: c3 :: r)) : News h₀ L h (a :: b :: r) :=
  fun p hp => N p (by simp only [List.mem_cons] at hp ⊢; grind)
theorem nd4 {h₀ h : Heap} {L : Addr} {a b c c2 c3 c4 : Addr × Obj} {r : List (Addr × Obj)} (N : News h₀ L h (a :: b :: c :: c2 :: c3 :: c4 :: r)) : News h₀ L h (a :: b :: r) :=
  fun p hp => N p (by simp only [List.mem_cons] at hp ⊢; grind)
theorem allLt_ne {d : Addr} : ∀ {l : List (Addr × Obj)}, AllLt d l → ∀ p ∈ l, p.1 ≠ d
  | [], _, _, hp => nomatch hp
  | q :: r, h, p, hp => by
    rcases List.mem_cons.mp hp with rfl | hp
    · exact Nat.ne_of_lt h.1
    · exact allLt_ne h.2 p hp
theorem off1_ne {d : Addr} : ∀ {l : List (Addr × Obj)}, LCg.Off1 d l → ∀ p ∈ l, p.1 ≠ d
  | [], _, _, hp => nomatch hp
  | q :: r, h, p, hp => by
    rcases List.mem_cons.mp hp with rfl | hp
    · exact h.1
    · exact off1_ne h.2 p hp
theorem offOf {st cl : Addr} {r : List (Addr × Obj)} (h1 : ∀ p ∈ r, p.1 ≠ st) (h2 : ∀ p ∈ r, p.1 ≠ cl) : OwnOff r [st, cl] := by
  intro p hp b hb
  rcases List.mem_cons.mp hb with rfl | hb
  · exact h1 p hp
  · rw [List.mem_singleton.mp hb]; exact h2 p hp
theorem nd5 {h₀ h : Heap} {L : Addr} {a b c c2 c3 c4 c5 : Addr × Obj} {r : List (Addr × Obj)} (N : News h₀ L h (a :: b :: c :: c2 :: c3 :: c4 :: c5 :: r)) : News h₀ L h (a :: b :: r) :=
  fun p hp => N p (by simp only [List.mem_cons] at hp ⊢; grind)
theorem nd6 {h₀ h : Heap} {L : Addr} {a b c c2 c3 c4 c5 c6 : Addr × Obj} {r : List (Addr × Obj)} (N : News h₀ L h (a :: b :: c :: c2 :: c3 :: c4 :: c5 :: c6 :: r)) : News h₀ L h (a :: b :: r) :=
  fun p hp => N p (by simp only [List.mem_cons] at hp ⊢; grind)
end
section
local macro_rules | `(tactic| walk_at "mine:off") => `(tactic| first | assumption | exact offNil | (refine offCons (by first | assumption | omega) (by first | assumption | omega) ?_; walk_at "mine:off"))
local macro_rules | `(tactic| walk_at "mine:led") => `(tactic| first | k_asm | (refine' nl1 ?kl; (case kl => k_asm)) | (refine' nl2 ?kl; (case kl => k_asm)) | (refine' nl3 ?kl; (case kl => k_asm)) | (refine' nl4 ?kl; (case kl => k_asm)) | (refine' nl5 ?kl; (case kl => k_asm)))
local macro_rules | `(tactic| walk_at "mine:back") => `(tactic| first | k_asm | (refine' nd1 ?kl; (case kl => k_asm)) | (refine' nd2 ?kl; (case kl => k_asm)) | (refine' nd3 ?kl; (case kl => k_asm)) | (refine' nd4 ?kl; (case kl => k_asm)) | (refine' nd5 ?kl; (case kl => k_asm)) | (refine' nd6 ?kl; (case kl => k_asm)))
local macro_rules | `(tactic| walk_at "mine:lt") => `(tactic| first | exact allLt_ne (by assumption) | exact allLt_ne (And.right (by assumption)) | exact allLt_ne (And.right (And.right (by assumption))) | exact allLt_ne (And.right (And.right (And.right (by assumption)))) | exact allLt_ne (And.right (And.right (And.right (And.right (by assumption))))) | assumption)
local macro_rules | `(tactic| walk_at "mine:sub") => `(tactic| (intro p9 hp9; first | exact hp9 | (simp only [List.mem_append, List.mem_cons, List.nil_append, List.cons_append] at hp9 ⊢; grind)))
local macro_rules | `(tactic| walk_at "mine:news") => `(tactic| first | k_asm | exact newsL (by k_asm) | exact newsR (by k_asm) | exact newsL (newsR (by k_asm)) | exact newsL (newsR (newsR (by k_asm))))
local macro_rules | `(tactic| walk_at "mine:enterC") => `(tactic| (refine' code_defC ?k1 ?k2 ?k3 ?k4 ?k5 ?kA ?kF ?kK ?k6 ?k7 ?k8 ?k9 ?kB ?kD ?_ ?c2 ?c3 ?c4; (case kA => exact rfl); (case kF => exact rfl); (case kK => first | assumption | exact rfl); (case k1 => k_asm); (case k2 => k_asm); (case k3 => k_asm); (case k4 => k_asm); (case k5 => k_asm); (case k6 => k_is); (case k7 => k_is); (case k8 => ktr_room); (case k9 => exact BindsTo.of_eq rfl); (case kB => exact rfl); (case kD => decide +kernel); (case c2 => exact rfl); (case c3 => exact rfl); (case c4 => exact rfl); k_whole; intro g' L' h' tk' cells' FG' F' N' Y' B' X' T' l1; (try k_lt l1); k_cells Y'; (try simp only [List.cons_append, List.nil_append] at N'); (try dsimp only); (try k_lift B'); (try k_fold)))
local macro_rules | `(tactic| walk_at "mine:rest") => `(tactic| first | k_asm | exact newsL (by k_asm) | exact newsT (by walk_at "mine:rest1") | exact newsR (by k_asm))
local macro_rules | `(tactic| walk_at "mine:rest1") => `(tactic| first | exact newsL (by k_asm) | exact newsT (newsL (by k_asm)) | exact newsT (newsT (newsL (by k_asm))) | exact newsT (newsT (newsT (newsL (by k_asm)))))
local macro_rules | `(tactic| walk_at "mine:home") => `(tactic| first | k_asm | exact newsT (by k_asm) | exact newsT (newsT (by k_asm)) | exact nApp (by k_asm) | exact nApp (newsT (by k_asm)) | exact nApp (newsT (newsT (by k_asm))) | exact nApp (newsT (newsT (newsT (by k_asm)))) | walk_at "mine:back")
section
variable {w : World} {p : Program} {loose : List Str} {mean : ExcName → Option Value} {mg mb : Str → Option Value}
    {dp un : Nat} {gd : Option (List Code)} {cn : Str} {cs : Scope} {a : Addr} {ccd : Value} {ccl : List (Str × Addr)} {outer : List Env} {A₀ : Around} {base h₀ : Heap} {L : Addr} {m : Str → Option Value} {s : Shared} {Q E : Value → Shared → Prop}
    {rest : List (Addr × Obj)}
theorem cell_spec {l : Addr} {vs : List Value} {ns : List Int} {k : Int} {tm : Tok}
    (B : Below A₀ base outer h₀) (F : Fr h₀ L s.heap m) (X : (hd.heap_39 w.params).In h₀) (N : News h₀ L s.heap rest) (T : Top p loose mean mg mb h₀) (hk : cs.kind = .function)
    (hd : dp + 1 < recursionLimit) (hu : un + 8 < cLine)
    (hl : base.IsList l vs.toArray) (hi : IntsAre vs ns) (hlen : ns.length ≤ 63) (h0 : 0 ≤ k) (h1 : k < 1000)
    (hret : ∀ (v : Int) (t' : Tok) (h' : Heap) (tk' : Nat), 0 ≤ v → Fr h₀ L h' m → News h₀ L h' rest → Q (.int v t') { s with heap := h', toks := tk' }) :
    wpAny (model PySem.Challenge.rw_ys0003_01.row.prog w) (ktrTop dp un gd cn cs L a ccd ccl outer) (call (.ref 26) [.ref l, .int k tm]) Q E s := by
  w_top off
  revert X; k_fill; intro X
  have hMk := kstMark
  have hll : vs.length ≤ 63 := by rw [hi.length]; exact hlen
  refine wpAny_call ?_
  k_dflt cell_enter
  k_steps
  · refine hret _ _ _ _ ?_ (by k_asm) (by k_asm)
    split <;> omega
  · exact hret _ _ _ _ (by omega) (by k_asm) (by k_asm)
end
end
section
local macro_rules | `(tactic| walk_at "mine:off") => `(tactic| first | assumption | exact offNil | (refine offCons (by first | assumption | omega) (by first | assumption | omega) ?_; walk_at "mine:off"))
local macro_rules | `(tactic| walk_at "mine:led") => `(tactic| first | k_asm | (refine' nl1 ?kl; (case kl => k_asm)) | (refine' nl2 ?kl; (case kl => k_asm)) | (refine' nl3 ?kl; (case kl => k_asm)) | (refine' nl4 ?kl; (case kl => k_asm)) | (refine' nl5 ?kl; (case kl => k_asm)))
local macro_rules | `(tactic| walk_at "mine:back") => `(tactic| first | k_asm | (refine' nd1 ?kl; (case kl => k_asm)) | (refine' nd2 ?kl; (case kl => k_asm)) | (refine' nd3 ?kl; (case kl => k_asm)) | (refine' nd4 ?kl; (case kl => k_asm)) | (refine' nd5 ?kl; (case kl => k_asm)) | (refine' nd6 ?kl; (case kl => k_asm)))
local macro_rules | `(tactic| walk_at "mine:lt") => `(tactic| first | exact allLt_ne (by assumption) | exact allLt_ne (And.right (by assumption)) | exact allLt_ne (And.right (And.right (by assumption))) | exact allLt_ne (And.right (And.right (And.right (by assumption)))) | exact allLt_ne (And.right (And.right (And.right (And.right (by assumption))))) | assumption)
local macro_rules | `(tactic| walk_at "mine:sub") => `(tactic| (intro p9 hp9; first | exact hp9 | (simp only [List.mem_append, List.mem_cons, List.nil_append, List.cons_append] at hp9 ⊢; grind)))
local macro_rules | `(tactic| walk_at "mine:news") => `(tactic| first | k_asm | exact newsL (by k_asm) | exact newsR (by k_asm) | exact newsL (newsR (by k_asm)) | exact newsL (newsR (newsR (by k_asm))))
local macro_rules | `(tactic| walk_at "mine:enterC") => `(tactic| (refine' code_defC ?k1 ?k2 ?k3 ?k4 ?k5 ?kA ?kF ?kK ?k6 ?k7 ?k8 ?k9 ?kB ?kD ?_ ?c2 ?c3 ?c4; (case kA => exact rfl); (case kF => exact rfl); (case kK => first | assumption | exact rfl); (case k1 => k_asm); (case k2 => k_asm); (case k3 => k_asm); (case k4 => k_asm); (case k5 => k_asm); (case k6 => k_is); (case k7 => k_is); (case k8 => ktr_room); (case k9 => exact BindsTo.of_eq rfl); (case kB => exact rfl); (case kD => decide +kernel); (case c2 => exact rfl); (case c3 => exact rfl); (case c4 => exact rfl); k_whole; intro g' L' h' tk' cells' FG' F' N' Y' B' X' T' l1; (try k_lt l1); k_cells Y'; (try simp only [List.cons_append, List.nil_append] at N'); (try dsimp only); (try k_lift B'); (try k_fold)))
local macro_rules | `(tactic| walk_at "mine:rest") => `(tactic| first | k_asm | exact newsL (by k_asm) | exact newsT (by walk_at "mine:rest1") | exact newsR (by k_asm))
local macro_rules | `(tactic| walk_at "mine:rest1") => `(tactic| first | exact newsL (by k_asm) | exact newsT (newsL (by k_asm)) | exact newsT (newsT (newsL (by k_asm))) | exact newsT (newsT (newsT (newsL (by k_asm)))))
local macro_rules | `(tactic| walk_at "mine:home") => `(tactic| first | k_asm | exact newsT (by k_asm) | exact newsT (newsT (by k_asm)) | exact nApp (by k_asm) | exact nApp (newsT (by k_asm)) | exact nApp (newsT (newsT (by k_asm))) | exact nApp (newsT (newsT (newsT (by k_asm)))) | walk_at "mine:back")
local macro_rules | `(tactic| walk_at "pyIter ref") => `(tactic| (k_here; refine Halt.out ?_))
local macro_rules | `(tactic| walk_at "exec For Name Call cons nil") => `(tactic| (k_here; (rename Fr _ _ _ _ => lF'); (with_unfolding_all refine' For_invVF lF' ?k1 ?k2 ?_; (case k1 => exact rfl); (case k2 => exact rfl); k_whole)))
local macro_rules | `(tactic| walk_at "InvEndN") => `(tactic| (k_here; refine Halt.out ?_))
local macro_rules | `(tactic| walk_at "call ref") => `(tactic| (k_here; (with_reducible show wpAny _ _ (call (Value.ref 26) [Value.ref _, Value.int _ _]) _ _ _); k_dflt (refine' cell_spec ?k1 ?k2 ?k3 ?k4 ?k5 ?kK ?kd ?ku ?kl ?ki ?kn ?k6 ?k7 ?_; (case k1 => k_asm); (case k2 => k_asm); (case k3 => k_asm); (case k4 => k_asm); (case k5 => k_asm); (case kK => first | exact rfl | assumption); (case kd => ktr_room); (case ku => ktr_units); (case kl => k_asm); (case ki => k_asm); (case kn => omega); (case k6 => omega); (case k7 => omega); k_whole); intro v9 t9 h9 tk9 hv9 F9 N9; (try dsimp only); (try k_sweep); (try k_fold)))
local macro_rules | `(tactic| walk_at "eval Call") => `(tactic| (k_here; (with_reducible show wpAny _ _ (eval (Expr.Call (Expr.Name ("_law_cell" : Str) _) _ _ _) _) _ _ _); with_unfolding_all refine Call_ ?_))
theorem off_both {rest own : List (Addr × Obj)} {d : Addr} {o : Obj} (h : ∀ p ∈ rest, p.1 < d) (hoff : OwnOff own (((d, o) :: rest).map (·.1))) : ∀ p ∈ rest ++ own, p.1 ≠ d := fun p hp => by
  rcases List.mem_append.mp hp with hp | hp
  · exact Nat.ne_of_lt (h p hp)
  · exact hoff p hp _ (.head _)
theorem nT {h₀ h : Heap} {L : Addr} {a : Addr × Obj} {r : List (Addr × Obj)} (N : News h₀ L h (a :: r)) : News h₀ L h r := fun p hp => N p (List.mem_cons_of_mem _ hp)
theorem oct_pair {h₀ h : Heap} {L l : Addr} {ys : List Value} {ks : List Int} {x : Int} {t : Tok} {n : Nat} {r : List (Addr × Obj)} (hf : IntsAre ys ks) (N : News h₀ L h ((l, listOf (ys ++ [Value.int x t]).toArray n) :: r)) :
    News h₀ L h ((l, listOf (ys ++ [Value.int x t]).toArray n) :: r) ∧ IntsAre (ys ++ [Value.int x t]) (ks ++ [x]) := ⟨N, IntsAre.append hf (.cons _ _ .nil)⟩
theorem led_in {α : Type} {a : α} {r o : List α} : ∀ p ∈ a :: r, p ∈ a :: (r ++ o) := fun p hp => by
  rcases List.mem_cons.mp hp with rfl | hp
  · exact .head _
  · exact .tail _ (List.mem_append.mpr (.inl hp))
theorem led_own {α : Type} {a : α} {r o : List α} : ∀ p ∈ o, p ∈ a :: (r ++ o) := fun _ hp => .tail _ (List.mem_append.mpr (.inr hp))
theorem off1_of {d : Addr} : ∀ {l : List (Addr × Obj)}, (∀ p ∈ l, p.1 ≠ d) → LCg.Off1 d l
  | [], _ => trivial
  | q :: _, h => ⟨h q (.head _), off1_of fun p hp => h p (.tail _ hp)⟩
theorem fmod_in {x : Int} {m : Int} (h : 0 < m) : 0 ≤ x.fmod m ∧ x.fmod m < m := ⟨Int.fmod_nonneg_of_pos _ h, Int.fmod_lt_of_pos _ h⟩
theorem in_append {ks : List Int} {x : Int} (h : ∀ b ∈ ks, 0 ≤ b ∧ b < 256) (hx : 0 ≤ x ∧ x < 256) : ∀ b ∈ ks ++ [x], 0 ≤ b ∧ b < 256 := by
  intro b hb
  rcases List.mem_append.mp hb with hb | hb
  · exact h b hb
  · rw [List.mem_singleton.mp hb]; exact hx
local macro_rules | `(tactic| walk_at "call builtin:list.append") => `(tactic| (k_here; (with_reducible show wpAny _ _ (call (Value.builtin _) [Value.ref _, _]) _ _ _); (refine' append_K ?k1 ?k2 (Upd.head ?k3) ?_ ?z; (case k1 => k_asm); (case k2 => k_asm); (case k3 => assumption); (case z => simp only [List.size_toArray, PySem.sizeLine_eq]; omega); k_whole); intro h' F' N'; (try k_sweep)))
section
variable {w : World} {p : Program} {loose : List Str} {mean : ExcName → Option Value} {mg mb : Str → Option Value}
    {dp un : Nat} {gd : Option (List Code)} {cn : Str} {cs : Scope} {a : Addr} {ccd : Value} {ccl : List (Str × Addr)} {outer : List Env} {A₀ : Around} {base h₀ : Heap} {L : Addr} {m : Str → Option Value} {s : Shared} {Q E : Value → Shared → Prop}
    {rest : List (Addr × Obj)}
theorem octets_spec {l : Addr} {vs : List Value} {ns : List Int} {st : Int} {size : Nat} {ts tm : Tok}
    (B : Below A₀ base outer h₀) (F : Fr h₀ L s.heap m) (X : (hd.heap_39 w.params).In h₀) (N : News h₀ L s.heap rest) (T : Top p loose mean mg mb h₀) (hk : cs.kind = .function)
    (hd : dp + 2 < recursionLimit) (hu : un + 16 < cLine)
    (hl : base.IsList l vs.toArray) (hi : IntsAre vs ns) (hlen : ns.length ≤ 63) (h0 : 0 ≤ st) (h1 : st < 500) (hz : size ≤ 400)
    (hret : ∀ (D : Addr) (ys : List Value) (ks : List Int) (n : Nat) (h' : Heap) (tk' : Nat), IntsAre ys ks → ks.length = size → (∀ c ∈ ks, 0 ≤ c ∧ c < 256) → LCg.Off1 D rest → Fr h₀ L h' m → News h₀ L h' ((D, listOf ys.toArray n) :: rest) → Q (.ref D) { s with heap := h', toks := tk' }) :
    wpAny (model PySem.Challenge.rw_ys0003_01.row.prog w) (ktrTop dp un gd cn cs L a ccd ccl outer) (call (.ref 33) [.ref l, .int st ts, .int (size : Int) tm]) Q E s := by
  w_top off
  revert X; k_fill; intro X
  have hMk := kstMark
  refine wpAny_call ?_
  k_dflt cell_enter
  k_steps
  unfold Halt
  rename IsRange _ _ _ _ _ _ _ _ => rgX
  rename Fr _ _ _ _ => lF
  rename News _ _ _ _ => lN
  rename ∀ p ∈ rest, _ => hlt9
  with_unfolding_all
   refine' kst_range (σ := Int × Tok × List Value × List Int × Nat)
    (fun c => (_, listOf c.2.2.1.toArray c.2.2.2.2) :: rest)
    (fun c => [(Str.ofString "number", Value.int c.1 c.2.1)])
    (fun c => IntsAre c.2.2.1 c.2.2.2.1) []
    (fun pre c => 0 ≤ c.1 ∧ c.2.2.2.1.length = pre.length ∧ ∀ b ∈ c.2.2.2.1, 0 ≤ b ∧ b < 256) (_, _, [], [], 0)
    (by rfl) rgX (small_one (by omega) (by omega) (by omega) (by omega)) (rangeSize_nat _ _) lF lN .nil (by kst_all) ⟨by omega, rfl, fun _ hb => nomatch hb⟩ ?_ ?_
  · intro c pre k tk' u h tk own hk' hlt hoff hf hP F9 N9
    obtain ⟨num, tn, ys, ks, cap⟩ := c
    clear lF lN
    have hi2 := hf.length
    dsimp only at hf hP F9 N9 hi2
    obtain ⟨h01, h02, h03⟩ := hP
    have h04 : ys.length ≤ 400 := by omega
    have h05 := off_both hlt9 hoff
    simp only [kstB, List.contains_nil, Bool.false_eq_true, if_false] at F9
    (try dsimp only)
    (try k_fold)
    simp only [List.cons_append] at N9
    k_steps
    all_goals
      unfold Halt
      rename News _ _ _ _ => nE
      simp only [List.push_toArray] at nE
      obtain ⟨nE, hI⟩ := oct_pair hf nE
      refine kst_end (_, _, _, _, _) (by assumption) nE (by exact led_in) (by exact led_own) (by rfl) hI (by kst_all) (by kst_same) ?_
      exact ⟨(fmod_in (by decide)).1, by rw [List.length_append, List.length_append]; exact congrArg (· + 1) h02, in_append h03 (fmod_in (by decide))⟩
  · intro c u h tk hf hP F9 N9
    obtain ⟨num, tn, ys, ks, cap⟩ := c
    dsimp only at hf hP F9 N9
    k_steps
    have e : (rangeKs 0 ((size : Int) - 0).toNat).length = size := by rw [rangeKs_length]; omega
    rw [e] at hP
    exact hret _ _ _ _ _ _ hf hP.2.1 hP.2.2 (off1_of fun p hp => Nat.ne_of_lt (hlt9 p hp)) (by k_asm) (by k_asm)
theorem octets_call {l : Addr} {vs : List Value} {ns : List Int} {st size : Int} {ts tm : Tok}
    (B : Below A₀ base outer h₀) (F : Fr h₀ L s.heap m) (X : (hd.heap_39 w.params).In h₀) (N : News h₀ L s.heap rest) (T : Top p loose mean mg mb h₀) (hk : cs.kind = .function)
    (hd : dp + 2 < recursionLimit) (hu : un + 16 < cLine)
    (hl : base.IsList l vs.toArray) (hi : IntsAre vs ns) (hlen : ns.length ≤ 63) (h0 : 0 ≤ st) (h1 : st < 500) (hz0 : 0 ≤ size) (hz : size ≤ 400)
    (hret : ∀ (D : Addr) (ys : List Value) (ks : List Int) (n : Nat) (h' : Heap) (tk' : Nat), IntsAre ys ks → (ks.length : Int) = size → ks.length ≤ 400 → (∀ c ∈ ks, 0 ≤ c ∧ c < 256) → LCg.Off1 D rest → Fr h₀ L h' m → News h₀ L h' ((D, listOf ys.toArray n) :: rest) → Q (.ref D) { s with heap := h', toks := tk' }) :
    wpAny (model PySem.Challenge.rw_ys0003_01.row.prog w) (ktrTop dp un gd cn cs L a ccd ccl outer) (call (.ref 33) [.ref l, .int st ts, .int size tm]) Q E s := by
  obtain ⟨k, rfl⟩ : ∃ k : Nat, size = (k : Int) := ⟨size.toNat, by omega⟩
  exact octets_spec B F X N T hk hd hu hl hi hlen h0 h1 (by omega) fun D ys ks n h' tk' a b c d e f => hret D ys ks n h' tk' a (by rw [b]) (by omega) c d e f
end
end
section
namespace JB
open Builtin Builtin.Bytes
theorem slot_join : Slot "bytes" "join" "bytes.join" :=
  .of (owner := "bytes") (n := "join") (by rw [typeLookup_type, builtinLookup_eq_fast]; kernel_rfl) (by decide +kernel) (by decide +kernel) (by decide +kernel)
    (by first | exact .inl (by decide +kernel) | exact .inr (by decide +kernel)) (by rw [isSubtype_type]; kernel_rfl)
theorem type_join : typeOf (.builtin "bytes.join") = pure (.type "method_descriptor") := by show builtinType _ = _; rw [builtinType_eq_fast]; kernel_rfl
theorem entry_join : entryFor table "bytes.join" = some Builtin.«bytes.join» := by first | exact entryFor_of_fast (by kernel_rfl) | exact entryFor_of_tree (by kernel_rfl)
theorem args_join (a b : Value) : argsOk "bytes.join" ⟨[a, b], []⟩ := by unfold argsOk; kernel_rfl
theorem take_eq {id : String} {b : Array UInt8} {t : Tok} : takeBuffer? id (.bytes b t) 0 = pure (some (b, none)) := by
  unfold takeBuffer?
  rw [show ((0 : Int) == fullReadOnly) = false from by decide +kernel, KBy.special_eq KBy.look_buffer, KBy.own_buffer, KBy.buffer_eq]
  kernel_rfl
theorem quiet_eq {id : String} {b : Array UInt8} {t : Tok} : takeBufferQuiet? id (.bytes b t) 0 = pure (some (b, none)) := by
  unfold takeBufferQuiet?
  rw [take_eq]
  rfl
theorem letGo_none {M : Model} {A : Around} {E : Value → Shared → Prop} {s : Shared} {keep : List Value} {Q : Unit → Shared → Prop} :
    ∀ {taken : List (Value × Option Value)}, (∀ p ∈ taken, p.2 = none) → Q () s → wpAny M A (joinLetGo taken keep) Q E s
  | [], _, h => wpAny_pure h
  | (x, w) :: rest, hn, h => by
    have e : w = none := hn (x, w) (.head _)
    subst e
    unfold joinLetGo
    exact wpAny_bind (wpAny_letGo (letGo_none (fun p hp => hn p (.tail _ hp)) h))
theorem meets_join {a : Addr} {n : Nat} {b0 b1 b2 b3 : Array UInt8} {t t0 t1 t2 t3 : Tok} :
    Meets («bytes.join» ⟨[.bytes #[] t, .ref a], []⟩) (fun _ R s => s.heap.get? a = some (listOf #[.bytes b0 t0, .bytes b1 t1, .bytes b2 t2, .bytes b3 t3] n) ∧ b0.size + b1.size + b2.size + b3.size ≤ 16777216 ∧
      ∀ t' k, R (.ok (.ret (.bytes (b0 ++ b1 ++ b2 ++ b3) t'))) { s with toks := k }) := by
  refine .of_wp fun prog w A R s hS => ?_
  obtain ⟨ho, hsz, h⟩ := hS
  unfold Builtin.«bytes.join» Bytes.joinM
  refine wpAny_bind (wpAny_of_eq (a := (Value.bytes #[] t, Value.ref a)) rfl ?_)
  have hT : s.TypeIs (.ref a) "list" := ⟨_, ho, rfl⟩
  refine wpAny_ite_split (fun _ => ?_) (fun hab => absurd rfl hab)
  unfold joinItems
  refine wpAny_bind (wpAny_bind (wpAny_typeOf hT ?_))
  refine wpAny_ite_split (fun _ => wpAny_pure ?_) (fun hab => absurd (by decide) hab)
  refine wpAny_bind (wpAny_seqItems ho rfl ?_)
  dsimp only
  refine wpAny_ite_split (fun _ => ?_) (fun hab => absurd rfl hab)
  show wpAny _ _ (forIn (β := Array (Array UInt8) × List (Value × Option Value)) [:4] (#[], []) _ >>= _) _ _ _
  refine wpAny_bind ?_
  rw [KPc.range_list, show List.range' 0 4 1 = [0, 1, 2, 3] from rfl]
  refine KPc.turn ?_
  refine wpAny_bind (wpAny_seqItems ho rfl ?_)
  refine wpAny_ite_split (fun hab => absurd hab (by simp [Value.onHeap])) (fun _ => ?_)
  refine wpAny_bind (wpAny_holding (wpAny_of_eq (quiet_eq (b := b0) (t := t0)) ?_))
  refine wpAny_bind (wpAny_seqItems ho rfl ?_)
  refine wpAny_ite_split (fun hab => absurd hab (by simp)) (fun _ => wpAny_pure ?_)
  dsimp only
  refine KPc.turn ?_
  refine wpAny_bind (wpAny_seqItems ho rfl ?_)
  refine wpAny_ite_split (fun hab => absurd hab (by simp [Value.onHeap])) (fun _ => ?_)
  refine wpAny_bind (wpAny_holding (wpAny_of_eq (quiet_eq (b := b1) (t := t1)) ?_))
  refine wpAny_bind (wpAny_seqItems ho rfl ?_)
  refine wpAny_ite_split (fun hab => absurd hab (by simp)) (fun _ => wpAny_pure ?_)
  dsimp only
  refine KPc.turn ?_
  refine wpAny_bind (wpAny_seqItems ho rfl ?_)
  refine wpAny_ite_split (fun hab => absurd hab (by simp [Value.onHeap])) (fun _ => ?_)
  refine wpAny_bind (wpAny_holding (wpAny_of_eq (quiet_eq (b := b2) (t := t2)) ?_))
  refine wpAny_bind (wpAny_seqItems ho rfl ?_)
  refine wpAny_ite_split (fun hab => absurd hab (by simp)) (fun _ => wpAny_pure ?_)
  dsimp only
  refine KPc.turn ?_
  refine wpAny_bind (wpAny_seqItems ho rfl ?_)
  refine wpAny_ite_split (fun hab => absurd hab (by simp [Value.onHeap])) (fun _ => ?_)
  refine wpAny_bind (wpAny_holding (wpAny_of_eq (quiet_eq (b := b3) (t := t3)) ?_))
  refine wpAny_bind (wpAny_seqItems ho rfl ?_)
  refine wpAny_ite_split (fun hab => absurd hab (by simp)) (fun _ => wpAny_pure ?_)
  refine wpAny_pure ?_
  refine wpAny_bind (wpAny_of_eq (a := (#[] : Array UInt8)) rfl ?_)
  refine wpAny_ite_split (fun hab => absurd hab ?_) (fun _ => ?_)
  · show ¬ tooLong (Array.foldl (fun x1 x2 => x1 + x2.size) (0 * 3) #[b0, b1, b2, b3]) = true
    rw [KBy.tooLong_not (by simp; omega)]
    exact Bool.false_ne_true
  have e : joined #[] [b0, b1, b2, b3] = b0 ++ b1 ++ b2 ++ b3 := by simp [joined, List.zipIdx]
  show wpAny _ _ (mkBytes (joined #[] [b0, b1, b2, b3]) >>= _) _ _ _
  rw [e]
  refine wpAny_bind (wpAny_mkBytes ?_ (by simp only [Array.size_append, sizeLine_eq]; omega))
  refine wpAny_bind (wpAny_holding (wpAny_point ?_))
  refine wpAny_bind (letGo_none (fun p hp => ?_) ?_)
  · simp at hp
    rcases hp with rfl | rfl | rfl | rfl <;> rfl
  · exact wpAny_pure ⟨_, rfl, h _ _⟩
theorem join_call {prog : Program} {w : World} {A : Around} {E : Value → Shared → Prop} {s : Shared} {h₀ : Heap} {L : Addr} {a : Addr} {n : Nat} {b0 b1 b2 b3 : Array UInt8} {t t0 t1 t2 t3 : Tok} {news : List (Addr × Obj)} {Q : Value → Shared → Prop}
    (N : News h₀ L s.heap news) (hm : (a, listOf [Value.bytes b0 t0, .bytes b1 t1, .bytes b2 t2, .bytes b3 t3].toArray n) ∈ news) (hsz : b0.size + b1.size + b2.size + b3.size ≤ 16777216)
    (h : ∀ t' k, Q (.bytes (b0 ++ b1 ++ b2 ++ b3) t') { s with toks := k }) : wpAny (model prog w) A (call (.builtin "bytes.join") [.bytes #[] t, .ref a]) Q E s :=
  call_meets slot_join (typeIs_bytes _ _ _) entry_join (args_join _ _) meets_join ⟨(N _ hm).1, hsz, h⟩
theorem join_method {M : Model} {A : Around} {E : Value → Shared → Prop} {s : Shared} {b : Array UInt8} {t : Tok} {pl : Sem Bool} {Q : Value × List Value → Shared → Prop} (h : Q (.builtin "bytes.join", [.bytes b t]) s) : wpAny M A (getMethod (.bytes b t) "join" pl) Q E s := by
  with_reducible exact KBd.method_of (.bytes b t) (typeIs_bytes _ _ _) slot_join type_join KBd.noRef h
end JB
end
section
namespace LB
open Builtin
section
variable {prog : Program} {w : World} {A : Around} {E : Value → Shared → Prop} {s : Shared} {b : Array UInt8} {t : Tok}
theorem hint_bytes {Q : Bool → Shared → Prop} (h : Q false s) : wpAny (model prog w) A (Builtin.List.listLengthHint (.bytes b t)) Q E s := by
  unfold Builtin.List.listLengthHint
  refine wpAny_bind (wpAny_specialOf (typeIs_bytes s b t) FB.slot_bytes_len.lookup ?_)
  generalize hid : ("bytes.__len__" : String) = id0
  wp_delta
  rw [show splitId id0 = some ("bytes", "__len__") from by subst hid; decide +kernel]
  subst hid
  refine wpAny_bind (wpAny_isInstance (T := "bytes") (b := true) (typeIs_bytes s b t) F.sub_bytes_bytes ?_)
  refine wpAny_ite_split (fun hab => absurd hab (by decide)) (fun _ => ?_)
  refine wpAny_ite_split (fun _ => ?_) (fun hab => absurd (by decide +kernel) hab)
  refine wpAny_bind (wpAny_typeOf (typeIs_bytes s b t) ?_)
  exact wpAny_pure h

theorem extend_bytes {R : Result → Shared → Prop} (hh : A.handled = none) (hlen : b.size ≤ 2 ^ 24) (S : Addr) (res : Value) (c₀ : Nat) (hS : s.heap.get? S = some { cls := .type "list", data := .seq #[] c₀ })
    (hR : ∀ h' tk acc' c', (∀ b o, b ≠ S → s.heap.get? b = some o → h'.get? b = some o) → h'.get? S = some { cls := .type "list", dict := none, data := .seq acc' c', slots := #[] } →
      ItemsOf (fun i v => ∃ c u, b[i]? = some c ∧ v = .int (c.toNat : Int) u) acc' b.size → R (.ok (.ret res)) { s with heap := h', toks := tk }) :
    wpAny (model prog w) A.in1 (Builtin.List.listExtendWith (.ref S) (.bytes b t) res)
      (fun fin s' => match fin with | .done f => R (.ok f) s' | .again c' => c'.quiet = true ∧ codeAny (model prog w) A c' R s') (fun e s' => R (.error e) s') s := by
  have hSlt : S < s.heap.objs.size := Heap.lt_size hS
  have hSI : S ≠ s.heap.objs.size := Nat.ne_of_lt hSlt
  have hSf : S ∉ [s.heap.objs.size] := fun hm => hSI (List.mem_singleton.mp hm)
  have W := (KBw.walks (prog := prog) (w := w) (A := A.in1) hh s.heap.objs.size b t).toS
  have key : ∀ (h : Heap) (c₁ tk : Nat), KBw.IsBytesIter h s.heap.objs.size b t 0 → (∀ b o, b ≠ S → s.heap.get? b = some o → h.get? b = some o) →
      h.get? S = some { cls := .type "list", data := .seq #[] c₁ } → codeAny (model prog w) A (.builtin "list.extend.loop" ⟨[.ref S, .ref s.heap.objs.size, res], []⟩) R { s with heap := h, toks := tk } := by
    intro h c₁ tk hit hk hS₁
    refine codeAny_extend_loopS W (by rw [sizeLine_eq]; omega) S hSf res b.size 0 _ #[] c₁ rfl (Nat.zero_le _) hit hS₁ (ItemsOf.nil _) fun s' acc' c' hm hS' hacc => ?_
    rw [Moved.eq_with hm]
    refine hR s'.heap s'.toks acc' c' (fun b o hb e => hm.heap b o (fun hmem => ?_) (hk b o hb e)) hS' hacc
    rcases List.mem_cons.mp hmem with e' | hmem
    · exact hb e'
    · exact absurd (Heap.lt_size e) (by rw [List.mem_singleton.mp hmem]; exact Nat.lt_irrefl _)
  unfold Builtin.List.listExtendWith
  refine wpAny_bind (wpAny_typeOf (T := "bytes") (typeIs_bytes s b t) ?_)
  have h1 : Builtin.List.listSameRef (.ref S) (.bytes b t) = false := rfl
  have h2 : (Value.type "bytes" == Value.type "list") = false := by decide
  have h3 : (Value.type "bytes" == Value.type "tuple") = false := by decide
  simp only [h1, h2, h3, Bool.or_false, Bool.false_eq_true, if_false]
  refine wpAny_bind (KBw.pyIter_bytes ?_)
  refine wpAny_bind (wpAny_holding (hint_bytes ?_))
  have hit₁ : KBw.IsBytesIter (s.heap.push { cls := .type "bytes_iterator", data := .fields #[.bytes b t, .int 0 0] }) s.heap.objs.size b t 0 := ⟨_, Heap.get?_push_size _ rfl, rfl, rfl⟩
  have hS₁ := Heap.get?_push_of_some { cls := .type "bytes_iterator", data := .fields #[.bytes b t, .int 0 0] } hS
  refine wpAny_ite_split (fun hab => absurd hab (by decide +kernel)) (fun _ => ?_)
  exact wpAny_pure ⟨plainId_quiet F.plain_extend_loop _, key _ c₀ _ hit₁ (fun b o _ e => Heap.get?_push_of_some _ e) hS₁⟩

theorem init_bytes {R : Result → Shared → Prop} (hh : A.handled = none) (hlen : b.size ≤ 2 ^ 24) (S : Addr) (hS : s.heap.get? S = some { cls := .type "list", data := .seq #[] })
    (hR : ∀ h' tk acc' c', (∀ b o, b ≠ S → s.heap.get? b = some o → h'.get? b = some o) → h'.get? S = some { cls := .type "list", dict := none, data := .seq acc' c', slots := #[] } →
      ItemsOf (fun i v => ∃ c u, b[i]? = some c ∧ v = .int (c.toNat : Int) u) acc' b.size → R (.ok (.ret .none)) { s with heap := h', toks := tk }) :
    wpAny (model prog w) A.in1 (Builtin.«list.__init__» ⟨[.ref S, .bytes b t], []⟩)
      (fun fin s' => match fin with | .done f => R (.ok f) s' | .again c' => c'.quiet = true ∧ codeAny (model prog w) A c' R s') (fun e s' => R (.error e) s') s := by
  show wpAny _ _ (do let old ← Builtin.List.listItems (.ref S); Builtin.List.listUpdate (.ref S) (fun _ => #[]); letGo old.toList.reverse; Builtin.List.listExtendWith (.ref S) (.bytes b t) .none) _ _ s
  refine wpAny_bind ?_
  unfold Builtin.List.listItems
  refine wpAny_bind (wpAny_seqItems hS rfl (wpAny_pure ?_))
  show wpAny _ _ (updateSeq S (fun _ => #[]) >>= fun _ => letGo (#[] : Array Value).toList.reverse >>= fun _ => Builtin.List.listExtendWith (.ref S) (.bytes b t) .none) _ _ s
  refine wpAny_bind (wpAny_updateSeq hS rfl ?_)
  have hS₂ := Heap.get?_update_self (Obj.mapSeq (fun _ => (#[] : Array Value))) hS rfl
  have oth : ∀ b o, b ≠ S → s.heap.get? b = some o → (s.heap.update S (Obj.mapSeq (fun _ => (#[] : Array Value)))).get? b = some o :=
    fun b o hb e => (Heap.get?_update_other _ _ (Ne.symm hb)).trans e
  refine wpAny_bind (wpAny_letGo ?_)
  refine extend_bytes hh hlen S .none _ hS₂ fun h' tk acc' c' hk hS' hacc => ?_
  exact hR h' tk acc' c' (fun b o hb e => hk b o hb (oth b o hb e)) hS' hacc

theorem call_list_bytes {Q : Value → Shared → Prop} (hh : A.handled = none) (hlen : b.size ≤ 2 ^ 24)
    (hQ : ∀ h' tk acc' c', (∀ b o, s.heap.get? b = some o → h'.get? b = some o) →
      h'.get? s.heap.objs.size = some { cls := .type "list", dict := none, data := .seq acc' c', slots := #[] } → ItemsOf (fun i v => ∃ c u, b[i]? = some c ∧ v = .int (c.toNat : Int) u) acc' b.size → Q (.ref s.heap.objs.size) { s with heap := h', toks := tk }) :
    wpAny (model prog w) A (call (.type "list") [.bytes b t]) Q E s := by
  refine callType_codes (Q₁ := fun obj s₁ => obj = .ref s.heap.objs.size ∧ s₁ = { s with heap := s.heap.push { cls := .type "list", data := .seq #[] } }) F.called_list (F.typeCall_list_1 _) F.entry_list_init
    (code_list_new _ ⟨rfl, rfl⟩) fun obj s₁ h₁ => ?_
  obtain ⟨rfl, rfl⟩ := h₁
  have hS : (s.heap.push { cls := .type "list", data := .seq #[] }).get? s.heap.objs.size = some { cls := .type "list", data := .seq #[] } := Heap.get?_push_size _ rfl
  refine ⟨⟨_, hS, rfl⟩, F.args_list_init_2 _ _, init_bytes (A := A.in1) hh hlen _ hS fun h' tk acc' c' hk hS' hacc => ?_⟩
  exact ⟨rfl, hQ h' tk acc' c' (fun b o e => hk b o (Nat.ne_of_lt (Heap.lt_size e)) (Heap.get?_push_of_some _ e)) hS' hacc⟩
end
theorem intsOf : ∀ (l : List UInt8) (vs : List Value), vs.length = l.length → (∀ (j : Nat) (v : Value), vs[j]? = some v → ∃ c u, l[j]? = some c ∧ v = .int (c.toNat : Int) u) → IntsAre vs (l.map fun c => (c.toNat : Int))
  | [], vs, e, _ => by
    rw [List.length_eq_zero_iff.mp e]
    exact .nil
  | c :: l, vs, e, h => by
    match vs, e, h with
    | v :: r, e, h =>
      obtain ⟨c', u, hc, rfl⟩ := h 0 v rfl
      cases hc
      exact .cons _ _ (intsOf l r (by simpa using e) fun j v hj => h (j + 1) v hj)
theorem list_bytes_K {prog : Program} {w : World} {A : Around} {E : Value → Shared → Prop} {s : Shared} {b : Array UInt8} {t : Tok} {h₀ : Heap} {L : Addr} {m : PySem.Str → Option Value} {news : List (Addr × Obj)} {ks : List Int} {Q : Value → Shared → Prop}
    (hh : A.handled = none) (F : Fr h₀ L s.heap m) (N : News h₀ L s.heap news) (hk : KBw.bInts b = ks) (hz : ks.length ≤ 2 ^ 24)
    (h : ∀ D us c h' tk, Fr h₀ L h' m → News h₀ L h' ((D, listOf (List.toArray us) c) :: news) → (∀ p ∈ news, p.1 < D) → IntsAre us ks → Q (.ref D) { s with heap := h', toks := tk }) :
    wpAny (model prog w) A (call (.type "list") [.bytes b t]) Q E s := by
  subst hk
  refine call_list_bytes hh (by rw [← KBw.ints_length]; exact hz) fun h' tk acc c hk hD hI => ?_
  have hD' : h'.get? s.heap.objs.size = some (listOf (List.toArray acc.toList) c) := by
    rw [Array.toArray_toList]
    exact hD
  exact h _ acc.toList c h' tk (F.keeps hk) (news_pushed F N hk hD' rfl) (fun p hp => Heap.lt_size (N p hp).1) (intsOf b.toList acc.toList (by rw [Array.length_toList, Array.length_toList]; exact hI.1) fun j v hj => by
    obtain ⟨c, u, h1, h2⟩ := hI.2 j v (by rw [← hj, Array.getElem?_toList])
    exact ⟨c, u, by rw [Array.getElem?_toList]; exact h1, h2⟩)
end LB
end
section
namespace MB
open Builtin
theorem int_declines_l (a : Int) (t : Tok) (b : Array UInt8) (u : Tok) : Gives (Builtin.«int.__mul__» ⟨[.int a t, .bytes b u], []⟩) (.val (Value.notImplemented)) :=
  .of_wp fun M A E s Q h => by obtain ⟨hp, g, d, tk, os⟩ := s; wp_walk; exact ⟨_, rfl, h⟩
section
variable {prog : Program} {w : World} {A : Around} {E : Value → Shared → Prop} {s : Shared}
theorem mul_r {b : List UInt8} {n : Int} {t u : Tok} {Q : Value → Shared → Prop} (hb : b ≠ []) (hlo : -1048576 ≤ n) (hn : n ≤ 1048576) (hs : b.length ≤ 16) (h : ∀ t' k, Q (.bytes ((List.replicate n.toNat b).flatten).toArray t') { s with toks := k }) :
    wpAny (model prog w) A (binaryOp .Mult (.int n u) (.bytes b.toArray t)) Q E s := by
  have e3 : b.toArray.size = b.length := by simp
  have hle : b.length * n.toNat ≤ 16777216 := by
    have e2 : b.length * n.toNat ≤ 16 * n.toNat := Nat.mul_le_mul_right _ hs
    omega
  by_cases h1 : n = 1
  · subst h1
    refine lm_binaryOp_repeat_right (T := "bytes") (U := "int") (by decide) (fun s' => typeIs_int s' 1 u) (typeIs_bytes s _ t) F.fills_int_mul BMul.noFill F.slot_int_mul lm_noRepeat_int BMul.repeats F.slot_int_index.lookup
      (call_gives F.slot_int_mul (typeIs_int s 1 u) F.entry_int_mul (F.args_int_mul_2 _ _) (int_declines_l 1 u _ t)
        ⟨rfl, typeIs_bytes s _ t, call_gives BMul.slot_mul (typeIs_bytes s _ t) BMul.entry_mul (BMul.args_mul _ _) (BMul.gives_mul1 (by rw [e3]; omega)) ?_⟩)
    have h' := h t s.toks
    have e : (List.replicate (1 : Int).toNat b).flatten = b := by simp
    rw [e] at h'
    exact h'
  · have hpos : 0 < b.length := List.length_pos_iff.mpr hb
    have hf : Builtin.Bytes.fitsIndex n = true := by
      simp only [Builtin.Bytes.fitsIndex, Bool.and_eq_true, decide_eq_true_eq]
      omega
    have h63 : ¬ b.toArray.size * n.toNat ≥ 2 ^ 63 := by rw [e3]; omega
    have hne : (b.toArray.size * n.toNat == b.toArray.size) = false := by
      rw [e3]
      refine beq_false_of_ne fun e => ?_
      rcases Nat.lt_or_ge n.toNat 2 with h2 | h2
      · have h0 : n.toNat = 0 := by omega
        rw [h0] at e
        omega
      · have e2 : b.length * 2 ≤ b.length * n.toNat := Nat.mul_le_mul_left _ h2
        omega
    have hl : Builtin.Bytes.tooLong (b.toArray.size * n.toNat) = false := by rw [e3]; exact KBy.tooLong_not hle
    refine lm_binaryOp_repeat_right (T := "bytes") (U := "int") (by decide) (fun s' => typeIs_int s' n u) (typeIs_bytes s _ t) F.fills_int_mul BMul.noFill F.slot_int_mul lm_noRepeat_int BMul.repeats F.slot_int_index.lookup
      (call_gives F.slot_int_mul (typeIs_int s n u) F.entry_int_mul (F.args_int_mul_2 _ _) (int_declines_l n u _ t)
        ⟨rfl, typeIs_bytes s _ t, call_gives BMul.slot_mul (typeIs_bytes s _ t) BMul.entry_mul (BMul.args_mul _ _) (BMul.gives_mul hf h63 hne hl) ?_⟩)
    rw [BMul.repeated_list hb]
    refine ⟨?_, h _ _⟩
    rw [sizeLine_eq]
    have e4 : ((List.replicate n.toNat b).flatten.toArray).size = n.toNat * b.length := by simp
    rw [e4, Nat.mul_comm]
    exact hle
theorem mul_one {c : UInt8} {n : Int} {t u : Tok} {Q : Value → Shared → Prop} (hlo : -1048576 ≤ n) (hn : n ≤ 1048576) (h : ∀ t' k, Q (.bytes (List.replicate n.toNat c).toArray t') { s with toks := k }) :
    wpAny (model prog w) A (binaryOp .Mult (.int n u) (.bytes (List.toArray [c]) t)) Q E s := by
  refine mul_r (List.cons_ne_nil _ _) hlo hn (by simp) fun t' k => ?_
  have e : (List.replicate n.toNat [c]).flatten = List.replicate n.toNat c := by
    induction n.toNat with
    | zero => rfl
    | succ j ih => rw [List.replicate_succ, List.flatten_cons, ih]; rfl
  rw [e]
  exact h t' k
end
theorem ints_rep (n : Nat) (c : UInt8) : KBw.bInts (List.replicate n c).toArray = List.replicate n (c.toNat : Int) := by
  rw [KBw.ints_list, List.map_replicate]
theorem ints_4 {b0 b1 b2 b3 : Array UInt8} {k0 k1 k2 k3 : List Int} (h0 : KBw.bInts b0 = k0) (h1 : KBw.bInts b1 = k1) (h2 : KBw.bInts b2 = k2) (h3 : KBw.bInts b3 = k3) :
    KBw.bInts (b0 ++ b1 ++ b2 ++ b3) = k0 ++ k1 ++ k2 ++ k3 := KBw.ints_app (KBw.ints_app (KBw.ints_app h0 h1) h2) h3
theorem size_of {b : Array UInt8} {ks : List Int} (h : KBw.bInts b = ks) : b.size = ks.length := by rw [← h, KBw.ints_length]
end MB
end
section
section
variable {prog : Program} {w : World} {A : Around} {E : Value → Shared → Prop} {s : Shared} {h₀ : Heap} {L : Addr} {m : Str → Option Value} {env : Env}
def SrcBT (prog : Program) (w : World) (A : Around) (h₀ : Heap) (L : Addr) (m : Str → Option Value) (env : Env) (ct elt : Expr) (x : Str) (scope : Scope) (cl : List (Str × Addr)) (Fin : Shared → List Value → List (Addr × Obj) → Prop) (xv : Value) (s₁ : Shared) : Prop :=
  ∃ b t news, xv = .bytes b t ∧ A.handled = none ∧ Fr h₀ L s₁.heap m ∧ News h₀ L s₁.heap news ∧ b.size ≤ sizeLine ∧
    ∀ s₂ : Shared, (∃ h, s₂ = { s₁ with heap := h }) → LCt.CompRestT prog w A h₀ L m env ct elt x scope cl s₂ (fun _ => True) (fun (i : Nat) v => ∃ (c : UInt8) (u : Tok), b[i]? = some c ∧ v = .int (c.toNat : Int) u) (Fin s₂) b.size 0 [] news
theorem SrcBT.intro {ct elt : Expr} {x : Str} {scope : Scope} {cl : List (Str × Addr)} {Fin : Shared → List Value → List (Addr × Obj) → Prop} {b : Array UInt8} {t : Tok} {news : List (Addr × Obj)} {s₁ : Shared}
    (hh : A.handled = none) (F : Fr h₀ L s₁.heap m) (N : News h₀ L s₁.heap news) (hsz : b.size ≤ 16777216)
    (h : ∀ g, LCt.CompRestT prog w A h₀ L m env ct elt x scope cl { s₁ with heap := g } (fun _ => True) (fun (i : Nat) v => ∃ (c : UInt8) (u : Tok), b[i]? = some c ∧ v = .int (c.toNat : Int) u) (Fin { s₁ with heap := g }) b.size 0 [] news) :
    SrcBT prog w A h₀ L m env ct elt x scope cl Fin (.bytes b t) s₁ := ⟨b, t, news, rfl, hh, F, N, by rw [sizeLine_eq]; exact hsz, fun _ ⟨g, e⟩ => e ▸ h g⟩
theorem ListComp_TB {ct elt iter : Expr} {x : Str} {px : Pos} {scope : Scope} {cl : List (Str × Addr)} {pos : Pos} {Q : Value → Shared → Prop} (F₀ : Fr h₀ L s.heap m)
    (hclos : closureFor scope env = pure cl) (hcell : ∀ y ∈ scope.names, y.2 ≠ .cell) (hkind : scope.kind = .function)
    (hnames : ∀ y ∈ scope.names, y.2 = .local → scope.names.lookup y.1 = some .local) (hx : scope.names.lookup x = some .local)
    (h : wpAny (model prog w) A (eval iter env) (SrcBT prog w A h₀ L m env ct elt x scope cl (fun s₂ => LCg.FinE h₀ L m s₂ Q)) E s)
    (hs : ∀ x, foldedSetIterable iter env x = pure x := by intro _; rfl) :
    wpAny (model prog w) A (eval (.ListComp elt [⟨.Name x px, iter, [ct], 0⟩] scope pos) env) Q E s := by
  rw [eval_ListComp]
  refine wpAny_comprehension_free (use := none) rfl hs hclos hkind hnames (wpAny_mono h (fun xv s₁ h₁ => ?_) fun _ _ e => e)
  obtain ⟨b, t, news, rfl, hh, F, N, hsz, R⟩ := h₁
  refine KBw.pyIter_bytes ?_
  refine LCt.block_T (KBw.walks hh s₁.heap.objs.size b t) hsz (fun i h st => by obtain ⟨o, e, _⟩ := st; exact ⟨o, e⟩) (fun i h h' o nw st e1 e2 _ _ _ => by
      obtain ⟨o', e', r⟩ := st
      rw [e1] at e'
      cases e'
      exact ⟨_, e2, r⟩) hcell hkind hx ⟨_, Heap.get?_push_size _ rfl, rfl, rfl⟩ (fun b hb => ?_)
    (F.keeps fun _ _ e => Heap.get?_push_of_some _ e) (N.grown fun _ _ e => Heap.get?_push_of_some _ e) (Nat.ne_of_lt F.ns.lt) (next_is_new F) (fun p hp => Nat.ne_of_lt (Heap.lt_size (N p hp).1)) trivial (R _ ⟨_, rfl⟩) ?_
  · rw [List.mem_singleton.mp hb]
    show s₁.heap.objs.size < (s₁.heap.push _).objs.size
    rw [Heap.size_push]; exact Nat.lt_succ_self _
  · intro D C h tk m' ys news' F' N' o1 hn hC₀ hD₀ hCL hDL hCD offC fin
    refine ⟨m', hn, fun h'' hs'' => fin D h'' tk (F'.change hs'' hCL hC₀) (fun p hp => ?_) o1⟩
    refine ⟨hs''.extBut _ _ ?_ (N' p hp).1, (N' p hp).2⟩
    rcases List.mem_cons.mp hp with rfl | hp
    · exact Ne.symm hCD
    · exact offC p hp
theorem SrcBT.of {ct elt : Expr} {x : Str} {scope : Scope} {cl : List (Str × Addr)} {Fin : Shared → List Value → List (Addr × Obj) → Prop} {b : Array UInt8} {ds : List Int} {t : Tok} {news : List (Addr × Obj)} {s₁ : Shared}
    (hh : A.handled = none) (F : Fr h₀ L s₁.heap m) (N : News h₀ L s₁.heap news) (hb : KBw.bInts b = ds) (hsz : ds.length ≤ 16777216)
    (h : ∀ g, LCt.CompRestT prog w A h₀ L m env ct elt x scope cl { s₁ with heap := g } (fun _ => True) (fun (i : Nat) v => ∃ (c : UInt8) (u : Tok), b[i]? = some c ∧ v = .int (c.toNat : Int) u) (Fin { s₁ with heap := g }) ds.length 0 [] news) :
    SrcBT prog w A h₀ L m env ct elt x scope cl Fin (.bytes b t) s₁ := by
  have e : b.size = ds.length := by rw [← hb, KBw.ints_length]
  refine SrcBT.intro hh F N (by rw [e]; exact hsz) fun g => ?_
  rw [e]
  exact h g
/-- a comprehension with a test over ints, whose items are those that are not 0 -/
theorem filt_comp {ct elt : Expr} {x : Str} {scope : Scope} {cl : List (Str × Addr)} {S : List (Addr × Obj) → Prop} {P : Nat → Value → Prop} {Fin : List Value → List (Addr × Obj) → Prop} {news : List (Addr × Obj)} {ks : List Int}
    (hP : ∀ i v, P i v → ∃ (k : Int) (t : Tok), ks[i]? = some k ∧ v = .int k t) (hS : S news)
    (turn : ∀ (k : Int) t I oI C oC D m₂ ys h tk (E' : Value → Shared → Prop), k ∈ ks → LCg.NsObj oC m₂ → m₂ x = some (.int k t) → Fr h₀ L h m → News h₀ L h ((I, oI) :: (C, oC) :: (D, LCg.lst ys) :: news) → LCg.Off3 I C D news → ((@Ne Nat I C) ∧ (@Ne Nat I D) ∧ (@Ne Nat C D)) →
      wpAny (model prog w) A (isTrue ct (compEnvC scope cl C env) (eval ct (compEnvC scope cl C env))) (fun b s' => if b = true then wpAny (model prog w) A (eval elt (compEnvC scope cl C env)) (LCg.CompEnd h₀ L m { s with heap := h, toks := tk } I oI C oC D (LCg.lst ys) S (fun y news' => news' = news ∧ k ≠ 0 ∧ ∃ t', y = .int k t')) E' s'
        else LCg.CompEnd h₀ L m { s with heap := h, toks := tk } I oI C oC D (LCg.lst ys) S (fun _ news' => news' = news ∧ k = 0) Value.none s') E' { s with heap := h, toks := tk })
    (fin : ∀ ys, IntsAre ys (ks.filter fun k => decide (k ≠ 0)) → Fin ys news) : LCt.CompRestT prog w A h₀ L m env ct elt x scope cl s S P Fin ks.length 0 [] news := by
  have key : ∀ (j i : Nat) (ys : List Value), i + j = ks.length → IntsAre ys ((ks.take i).filter fun k => decide (k ≠ 0)) → LCt.CompRestT prog w A h₀ L m env ct elt x scope cl s S P Fin j i ys news := by
    intro j
    induction j with
    | zero =>
      intro i ys hi hy
      obtain rfl : i = ks.length := by omega
      rw [List.take_length] at hy
      exact LCt.CompRestT.zero (fin ys hy)
    | succ j ih =>
      intro i ys hi hy
      refine LCt.CompRestT.succ ?_
      rintro v I oI C oC D m₂ h tk E' hv hC hx F N off ne
      obtain ⟨k, t, hk, rfl⟩ := hP i v hv
      have hs : ks.take (i + 1) = ks.take i ++ [k] := by simp [List.take_add_one, hk]
      refine wpAny_mono (turn k t I oI C oC D m₂ ys h tk E' (List.mem_of_getElem? hk) hC hx F N off ne) (fun b s₂ hq => ?_) fun _ _ e => e
      cases b with
      | true =>
        simp only [if_true] at hq ⊢
        refine wpAny_mono hq (fun y s₃ hr => ?_) fun _ _ e => e
        obtain ⟨h', tk', nw, e, F', N', off', hS', rfl, hne, t', rfl⟩ := hr
        refine ⟨h', tk', _, e, F', N', off', hS', ih (i + 1) _ (by omega) ?_⟩
        rw [hs, List.filter_append]
        have e1 : [k].filter (fun k => decide (k ≠ 0)) = [k] := by simp [hne]
        rw [e1]
        exact IntsAre.append hy (.cons _ _ .nil)
      | false =>
        simp only [Bool.false_eq_true, if_false] at hq ⊢
        obtain ⟨h', tk', nw, e, F', N', off', hS', rfl, h0⟩ := hq
        refine ⟨h', tk', _, e, F', N', off', hS', ih (i + 1) _ (by omega) ?_⟩
        rw [hs, List.filter_append]
        have e1 : [k].filter (fun k => decide (k ≠ 0)) = [] := by simp [h0]
        rw [e1, List.append_nil]
        exact hy
  exact key _ 0 [] (by omega) .nil
end
theorem bytes_at {b : Array UInt8} {ks : List Int} (h : KBw.bInts b = ks) : ∀ (i : Nat) (v : Value), (∃ (c : UInt8) (u : Tok), b[i]? = some c ∧ v = Value.int (c.toNat : Int) u) → ∃ (k : Int) (t : Tok), ks[i]? = some k ∧ v = Value.int k t := by
  rintro i v ⟨c, u, hc, rfl⟩
  subst h
  exact ⟨_, _, KBw.ints_get hc, rfl⟩
theorem ints_at {vs : List Value} {ks : List Int} (h : IntsAre vs ks) : ∀ (i : Nat) (v : Value), vs.toArray[i]? = some v → ∃ (k : Int) (t : Tok), ks[i]? = some k ∧ v = Value.int k t := by
  induction h with
  | nil => intro i v e; simp at e
  | cons n t _ ih =>
    intro i v e
    cases i with
    | zero => simp at e; exact ⟨_, t, rfl, e.symm⟩
    | succ i => exact ih i v (by simpa using e)
end
section
theorem make_L {prog : Program} {w : World} {A : Around} {E : Value → Shared → Prop} {s : Shared} {h₀ : Heap} {L D : Addr} {m : PySem.Str → Option Value} {news : List (Addr × Obj)} {vs : List Value} {ns : List Int} {n : Nat} {Q : Value → Shared → Prop}
    (F : Fr h₀ L s.heap m) (N : News h₀ L s.heap news) (hh : A.handled = none) (hm : (D, listOf vs.toArray n) ∈ news) (hi : IntsAre vs ns) (hr : ∀ c ∈ ns, 0 ≤ c ∧ c < 256) (hn : ns.length ≤ 16777216)
    (h : ∀ b h' t' k, KBw.bInts b = ns → Fr h₀ L h' m → News h₀ L h' news → Q (.bytes b t') { s with heap := h', toks := k }) : wpAny (model prog w) A (call (.type "bytes") [.ref D]) Q E s :=
  KBa.make_K F N hh ⟨_, (N _ hm).1, rfl, _, rfl⟩ hi hr hn fun h' t' k F' N' _ => h _ h' t' k (KBa.ints_make hr) F' N'
local macro_rules | `(tactic| walk_at "mine:off") => `(tactic| first | assumption | exact offNil | (refine offCons (by first | assumption | omega) (by first | assumption | omega) ?_; walk_at "mine:off"))
local macro_rules | `(tactic| walk_at "mine:led") => `(tactic| first | k_asm | (refine' nl1 ?kl; (case kl => k_asm)) | (refine' nl2 ?kl; (case kl => k_asm)) | (refine' nl3 ?kl; (case kl => k_asm)) | (refine' nl4 ?kl; (case kl => k_asm)) | (refine' nl5 ?kl; (case kl => k_asm)))
local macro_rules | `(tactic| walk_at "mine:back") => `(tactic| first | k_asm | (refine' nd1 ?kl; (case kl => k_asm)) | (refine' nd2 ?kl; (case kl => k_asm)) | (refine' nd3 ?kl; (case kl => k_asm)) | (refine' nd4 ?kl; (case kl => k_asm)) | (refine' nd5 ?kl; (case kl => k_asm)) | (refine' nd6 ?kl; (case kl => k_asm)))
local macro_rules | `(tactic| walk_at "mine:lt") => `(tactic| first | exact allLt_ne (by assumption) | exact allLt_ne (And.right (by assumption)) | exact allLt_ne (And.right (And.right (by assumption))) | exact allLt_ne (And.right (And.right (And.right (by assumption)))) | exact allLt_ne (And.right (And.right (And.right (And.right (by assumption))))) | assumption)
local macro_rules | `(tactic| walk_at "mine:sub") => `(tactic| (intro p9 hp9; first | exact hp9 | (simp only [List.mem_append, List.mem_cons, List.nil_append, List.cons_append] at hp9 ⊢; grind)))
local macro_rules | `(tactic| walk_at "mine:news") => `(tactic| first | k_asm | exact newsL (by k_asm) | exact newsR (by k_asm) | exact newsL (newsR (by k_asm)) | exact newsL (newsR (newsR (by k_asm))))
local macro_rules | `(tactic| walk_at "mine:enterC") => `(tactic| (refine' code_defC ?k1 ?k2 ?k3 ?k4 ?k5 ?kA ?kF ?kK ?k6 ?k7 ?k8 ?k9 ?kB ?kD ?_ ?c2 ?c3 ?c4; (case kA => exact rfl); (case kF => exact rfl); (case kK => first | assumption | exact rfl); (case k1 => k_asm); (case k2 => k_asm); (case k3 => k_asm); (case k4 => k_asm); (case k5 => k_asm); (case k6 => k_is); (case k7 => k_is); (case k8 => ktr_room); (case k9 => exact BindsTo.of_eq rfl); (case kB => exact rfl); (case kD => decide +kernel); (case c2 => exact rfl); (case c3 => exact rfl); (case c4 => exact rfl); k_whole; intro g' L' h' tk' cells' FG' F' N' Y' B' X' T' l1; (try k_lt l1); k_cells Y'; (try simp only [List.cons_append, List.nil_append] at N'); (try dsimp only); (try k_lift B'); (try k_fold)))
local macro_rules | `(tactic| walk_at "mine:rest") => `(tactic| first | k_asm | exact newsL (by k_asm) | exact newsT (by walk_at "mine:rest1") | exact newsR (by k_asm))
local macro_rules | `(tactic| walk_at "mine:rest1") => `(tactic| first | exact newsL (by k_asm) | exact newsT (newsL (by k_asm)) | exact newsT (newsT (newsL (by k_asm))) | exact newsT (newsT (newsT (newsL (by k_asm)))))
local macro_rules | `(tactic| walk_at "mine:home") => `(tactic| first | k_asm | exact newsT (by k_asm) | exact newsT (newsT (by k_asm)) | exact nApp (by k_asm) | exact nApp (newsT (by k_asm)) | exact nApp (newsT (newsT (by k_asm))) | exact nApp (newsT (newsT (newsT (by k_asm)))) | walk_at "mine:back")
local macro_rules | `(tactic| walk_at "exec Assign cons ListComp") => `(tactic| (k_here; refine Halt.out ?_))
local macro_rules | `(tactic| walk_at "eval ListComp") => `(tactic| (k_here; refine Halt.out ?_))
local macro_rules | `(tactic| walk_at "CompSrc") => `(tactic| (k_here; refine Halt.out ?_))
local macro_rules | `(tactic| walk_at "CompEnd") => `(tactic| (k_here; refine Halt.out ?_))
local macro_rules | `(tactic| walk_at "getMethod bytes") => `(tactic| (k_here; (with_reducible refine JB.join_method ?_)))
local macro_rules | `(tactic| walk_at "call builtin:bytes.join") => `(tactic| (k_here; (with_reducible show wpAny _ _ (call (Value.builtin "bytes.join") [Value.bytes _ _, Value.ref _]) _ _ _); (with_unfolding_all refine' JB.join_call ?kN ?km ?kz ?_; (case kN => k_asm); (case km => k_mem); (case kz => walk_at "mine:joinz"); k_whole); intro _ _; (try dsimp only)))
local macro_rules | `(tactic| walk_at "call type:list") => `(tactic| (k_here; (with_reducible show wpAny _ _ (call (Value.type "list") [Value.bytes _ _]) _ _ _); (with_unfolding_all refine' LB.list_bytes_K ?kh ?kF ?kN ?kb ?kz ?_; (case kh => exact rfl); (case kF => k_asm); (case kN => k_asm); (case kb => assumption); (case kz => walk_at "mine:listz"); k_whole); intro D' us' c' h' tk' F' N' l1 hI'; (try k_lt l1); (try k_sweep)))
local macro_rules | `(tactic| walk_at "binaryOp Mult int bytes") => `(tactic| (k_here; (with_reducible show wpAny _ _ (binaryOp Operator.Mult (Value.int _ _) (Value.bytes _ _)) _ _ _); (with_unfolding_all refine' MB.mul_one ?kl ?kh ?_; (case kl => omega); (case kh => omega); k_whole); intro _ _))
local macro_rules | `(tactic| walk_at "mine:joinz") => `(tactic| ((rename KBw.bInts _ = _ => hbz9); (have hbz8 := MB.size_of hbz9); (try simp only [List.size_toArray, List.length_cons, List.length_nil, List.length_replicate]); omega))
local macro_rules | `(tactic| walk_at "call type:bytes") => `(tactic| (k_here; (with_reducible show wpAny _ _ (call (Value.type "bytes") [Value.ref _]) _ _ _); (with_unfolding_all refine' make_L ?kF ?kN ?kh ?km ?ki ?kr ?kz ?_; (case kF => k_asm); (case kN => k_asm); (case kh => exact rfl); (case km => k_mem); (case ki => assumption); (case kr => assumption); (case kz => omega); k_whole); intro b9 h9 t9 k9 hb9 F9 N9; (try dsimp only); (try k_sweep)))
abbrev nz (ds : List Int) : List Int := ds.filter fun k => decide (k ≠ 0)
theorem nz_in {d : Array UInt8} {ds : List Int} (h : KBw.bInts d = ds) : ∀ c ∈ nz ds, 0 ≤ c ∧ c < 256 := by
  subst h
  exact fun c hc => KBw.ints_in (List.mem_filter.mp hc).1
theorem clip_eq {n : Nat} {i : Int} (h0 : 0 ≤ i) (h1 : i ≤ (n : Int)) : clipAt n i = i.toNat := by
  unfold clipAt
  rw [if_neg (by omega)]
  omega
local macro_rules | `(tactic| walk_at "mine:joinz") => `(tactic| ((rename KBw.bInts (KBy.picked _ _ _) = _ => hq9); (have hz9 := MB.size_of hq9); (simp only [List.length_take] at hz9); (simp only [List.size_toArray, List.length_cons, List.length_nil]); omega))
section
variable {w : World} {p : Program} {loose : List Str} {mean : ExcName → Option Value} {mg mb : Str → Option Value}
    {dp un : Nat} {gd : Option (List Code)} {cn : Str} {cs : Scope} {a : Addr} {ccd : Value} {ccl : List (Str × Addr)} {outer : List Env} {A₀ : Around} {base h₀ : Heap} {L : Addr} {m : Str → Option Value} {s : Shared} {Q E : Value → Shared → Prop}
    {rest : List (Addr × Obj)}
theorem pade_spec {b d : Array UInt8} {ks ds : List Int} {t td : Tok} {z : Int} {tz : Tok}
    (B : Below A₀ base outer h₀) (F : Fr h₀ L s.heap m) (X : (hd.heap_39 w.params).In h₀) (N : News h₀ L s.heap rest) (T : Top p loose mean mg mb h₀) (hk : cs.kind = .function)
    (hd : dp + 2 < recursionLimit) (hu : un + 16 < cLine)
    (hb : KBw.bInts b = ks) (hd2 : KBw.bInts d = ds) (hz : ks.length ≤ 1000) (hzd : ds.length ≤ 1000) (hz2 : z ≤ 1000) (hfit : (ks.length : Int) ≤ z - 11) (hen : z - ks.length - 3 ≤ ((nz ds).length : Int))
    (hret : ∀ (c : Array UInt8) (t' : Tok) (h' : Heap) (tk' : Nat), KBw.bInts c = 0 :: 2 :: ((nz ds).take (z - ks.length - 3).toNat ++ 0 :: ks) → Fr h₀ L h' m → News h₀ L h' rest → Q (.bytes c t') { s with heap := h', toks := tk' }) :
    wpAny (model PySem.Challenge.rw_ys0003_01.row.prog w) (ktrTop dp un gd cn cs L a ccd ccl outer) (call (.ref 19) [.bytes b t, .int z tz, .bytes d td]) Q E s := by
  w_top off
  revert X; k_fill; intro X
  have hMk := kstMark
  refine wpAny_call ?_
  k_dflt cell_enter
  k_steps
  unfold Halt
  refine ListComp_TB (F₀ := by k_asm) (by with_unfolding_all rfl) (by decide) (by rfl) (by decide) (by rfl) ?_
  k_steps
  refine SrcBT.of (by rfl) (by k_asm) (by k_asm) hd2 (by omega) ?_
  intro g
  refine filt_comp (bytes_at hd2) trivial ?_ ?_
  · intro k2 t2 I2 oI2 C2 oC2 D2 m2 ys2 h2 tk2 E2 hk2 hC2 hx2 F2 N2 off2 ne2
    (try dsimp only)
    k_steps
    · unfold Halt
      exact LCg.CompEnd.intro (by k_asm) (by k_asm) _ (fun p hp => hp) off2 trivial ⟨rfl, by assumption, _, rfl⟩
    · unfold Halt
      exact LCg.CompEnd.intro (by k_asm) (by k_asm) _ (fun p hp => hp) off2 trivial ⟨rfl, by assumption⟩
  · intro ys hys
    unfold LCg.FinE
    intro D3 h3 tk3 F3 N3 o3
    change IntsAre ys (nz ds) at hys
    have hl3 := hys.length
    have hr9 := nz_in hd2
    have hbs := MB.size_of hb
    have hl4 : (nz ds).length ≤ ds.length := List.length_filter_le _ _
    (try dsimp only)
    k_steps
    · rename KBw.bInts (KBy.picked _ _ _) = _ => hq9
      rw [clip_eq (by omega) hen] at hq9
      refine hret _ _ _ _ ?_ (by k_asm) (nT (nT (by k_asm)))
      have e := MB.ints_4 (b0 := [0, 2].toArray) (b2 := [0].toArray) (k0 := [0, 2]) (k2 := [0]) rfl hq9 rfl hb
      exact e.trans (by simp)
    · exfalso
      rename _ ≠ z - _ - 3 => hne9
      rw [clip_eq (by omega) hen] at hne9
      omega
end
end
section
theorem kts_memX {env : Env} {L b : Addr} {outer : List Env} (hf : env.frame = some L) (hm : b ∈ (env :: outer).filterMap (·.frame)) : b = L ∨ b ∈ outer.filterMap (·.frame) := by
  obtain ⟨e, he, hf'⟩ := List.mem_filterMap.mp hm
  rcases List.mem_cons.mp he with rfl | he
  · rw [hf] at hf'; exact .inl (Option.some.inj hf').symm
  · exact .inr (List.mem_filterMap.mpr ⟨e, he, hf'⟩)
section
variable {prog : Program} {w : World} {A₀ A : Around} {s : Shared} {base h₀ : Heap} {outer : List Env} {L : Addr} {m : Str → Option Value} {env : Env} {news : List (Addr × Obj)} {K : Frag} {p : Program} {loose : List Str} {mean : ExcName → Option Value} {mg mb : Str → Option Value}
    {R : Result → Shared → Prop} {name qual : Str} {params : Arguments} {body : List Stmt} {scope : Scope} {dV kV doc pm cdv ct oc : Value} {an od : Option Addr} {osl : Array (Option Value)} {f : Addr} {args : Args} {binds : List (Str × Value)}
theorem kts_enterX (B : Below A₀ base outer h₀) (F : Fr h₀ L s.heap m) (N : News h₀ L s.heap news) (hA : A.frames = some (env :: outer)) (hf : env.frame = some L) (hke : env.scope.kind = .function) :
    ∃ oL es ep, (hideAll s.heap (news.map (·.1))).get? L = some oL ∧ oL.data = .dict es ep ∧ (∀ h', h'.get? L = some oL → Heap.Ns h' L m) ∧ (∀ (sl : Array (Option Value)) h', h'.get? L = some { oL with slots := sl } → Heap.Ns h' L m) ∧
      h₀.StaysIn (hideAll s.heap (news.map (·.1))) ∧ Below A base (env :: outer) (hideAll s.heap (news.map (·.1))) := by
  have nm : ∀ b o, h₀.get? b = some o → b ∉ news.map (·.1) := fun b o e q => by
    obtain ⟨p, hp, rfl⟩ := List.mem_map.mp q
    rw [(N p hp).2.2] at e; cases e
  have st : h₀.StaysIn (hideAll s.heap (news.map (·.1))) := fun b o e => hideAll_get _ (F.keep b o e) (nm b o e)
  obtain ⟨oL, es, ep, hL, hLd, hLk, hLf⟩ := F.ns
  have nL : L ∉ news.map (·.1) := fun q => by
    obtain ⟨p, hp, e⟩ := List.mem_map.mp q
    exact (N p hp).2.1 e
  have hLg := hideAll_get (news.map (·.1)) hL nL
  have B₁ := pushX B F hf hke
  exact ⟨oL, es, ep, hLg, hLd, fun h' e => ⟨oL, es, ep, e, hLd, hLk, hLf⟩, fun sl h' e => ⟨_, es, ep, e, hLd, hLk, hLf⟩, st, ⟨hA, fun b o e => st b o (B.stays b o e), funFrames_hideAll B₁.frames fun env' he b hb hf' => by
    rcases List.mem_cons.mp he with rfl | he
    · rw [hf] at hf'
      exact nL ((Option.some.inj hf' : L = b) ▸ hb)
    · obtain ⟨L₁, o₁, hf₁, ho₁⟩ := funFrames_in B.frames env' he
      rw [hf₁] at hf'
      exact nm L₁ o₁ ho₁ ((Option.some.inj hf' : L₁ = b) ▸ hb)⟩⟩
theorem code_defS0X (B : Below A₀ base [] h₀) (F : Fr h₀ L s.heap m) (X₀ : K.In h₀) (N : News h₀ L s.heap news) (T : Top p loose mean mg mb h₀) (hA : A.frames = some [env]) (hf : env.frame = some L) (hke : env.scope.kind = .function)
    (ho : K.lookup f = some ⟨oc, od, .func (fnOf name qual params body scope dV kV doc pm an cdv ct), osl⟩) (hcd : codeIn K cdv qual = true) (hroom : A.depth < recursionLimit)
    (hbind : BindsTo s (fnOf name qual params body scope dV kV doc pm an cdv ct) args binds) (hloc : ∀ y ∈ binds, scope.names.lookup y.1 = some .local)
    (h : ∀ g L' h₁, Fr h₀ L g m → Fr g L' h₁ (fun y => binds.reverse.lookup y) → News g L' h₁ news → Below A base [env] g → K.In g → Top p loose mean mg mb g → KtsDicts ([env].filterMap (·.frame)) g →
      wpAny (model prog w) (A.deeper (envOf qual scope L' f cdv)) (execs body (envOf qual scope L' f cdv))
        (fun fl s' => LeaveS0 ([env].filterMap (·.frame)) h₀ L m g R (match fl with | .ret v => v | _ => .none) s')
        (fun e s' => wpAny (model prog w) (A.deeper (envOf qual scope L' f cdv)) (leaving (envOf qual scope L' f cdv) e) (fun _ s'' => R (.error e) s'') (fun e' s'' => R (.error e') s'') s')
        { s with heap := h₁, toks := s.toks + binds.length })
    (hco : scope.isCoroutine = false) (hgen : scope.isGenerator = false) (hk : scope.kind = .function)
    (hcell : ∀ x ∈ scope.names, x.2 ≠ .cell) : codeAny (model prog w) A (.call (.ref f) args) R s := by
  have X := X₀.keeps F.keep
  refine codeAny_call_def (fd := fnOf name qual params body scope dV kV doc pm an cdv ct) (body := body) (binds := binds) hroom (X _ _ ho) rfl (T.nolimit.keeps F.keep) (codeRec_of X hcd) rfl hbind hcell hloc (fun h₁ hns hk₁ => ?_) hco hgen hk
  obtain ⟨oL, es, ep, hLg, hLd, hN, hNs, st, B₂⟩ := kts_enterX B F N hA hf hke
  refine wpAny_mono (h _ s.heap.objs.size h₁ ⟨hN _ hLg, st, F.above⟩ ⟨hns, fun b o e => hk₁ b o (of_hideAll _ e), Nat.le_of_eq (hideAll_size _ _)⟩
    (fun p hp => ⟨hk₁ _ _ (N p hp).1, Nat.ne_of_lt (Heap.lt_size (N p hp).1), hideAll_none _ (List.mem_map_of_mem hp)⟩) B₂ (X₀.keeps st) (T.keeps st) (fun b hb => by
      rcases kts_memX hf hb with rfl | z
      · exact ⟨oL, es, ep, hLg, hLd⟩
      · simp at z)) (fun fl s' hl => ?_) fun _ _ y => y
  obtain ⟨g', L', m', news', T', F', N', k⟩ := hl
  have nL₀ : h₀.get? L = none := kts_self F
  obtain ⟨sl, hs⟩ := T'.up hLg
  refine k ⟨hNs sl _ (F'.keep _ _ hs), fun b o e => F'.keep b o (T'.other b o (st b o e) (fun q => by
    rcases kts_memX hf q with z | z
    · rw [z, nL₀] at e
      cases e
    · simp at z)), F.above⟩ fun p hp => ⟨(N' p hp).1, fun q => ?_, ?_⟩
  · have := (N' p hp).2.2; rw [q, hs] at this; cases this
  · cases q : h₀.get? p.1 with
    | none => rfl
    | some o =>
      obtain ⟨sl', hs'⟩ := T'.up (st _ _ q)
      have := (N' p hp).2.2
      rw [hs'] at this
      cases this
end
end
section
namespace PM
open Builtin Builtin.Str
theorem len_le {n : Int} (h : n.natAbs < 10 ^ 10) {c : Percent} (h1 : c.alt = false) (h2 : c.type = 100 ∨ c.type = 105 ∨ c.type = 117) (h3 : c.prec = none) {d : List Nat} (hd : d = (PySem.Str.ofString (toString ((n.natAbs : Nat) : Int))).cps.toList) :
    (⟨(percentInt c (decide (n < 0)) d).toArray⟩ : PySem.Str).length ≤ 11 := by
  have hl : d.length ≤ 10 := by
    rw [hd, Array.length_toList]
    exact toString_length_le (k := 10) (by omega) (by decide) (by omega)
  show (percentInt c (decide (n < 0)) d).toArray.size ≤ 11
  rw [List.size_toArray]
  unfold percentInt
  rcases h2 with h2 | h2 | h2 <;> simp only [h1, h2, h3] <;> by_cases hn : n < 0 <;> simp [hn] <;> omega
section
variable {M : Model} {A : Around} {E : Value → Shared → Prop} {s : Shared} {l : List Nat} {p : List Value} {r : List Nat}
  {f : Nat → List Value × Writer × List Nat → Sem (ForInStep (List Value × Writer × List Nat))} {Q : List Value × Writer × List Nat → Shared → Prop}
  {w : Writer} {T : PySem.Str} {N : Nat} {o : Option Value}
theorem after_neg {c : Percent} {n : Int} {d : List Nat} (g : KPc.Good w T N) (h1 : c.alt = false) (h2 : c.type = 100 ∨ c.type = 105 ∨ c.type = 117) (h3 : c.prec = none) (hn : n.natAbs < 10 ^ 10)
    (hd : d = (PySem.Str.ofString (toString ((n.natAbs : Nat) : Int))).cps.toList) (ho : o = none) (h : ∀ w', KPc.Good w' (T ++ ⟨(percentInt c (decide (n < 0)) d).toArray⟩) (N + 11) → wpAny M A (forIn l (p, w', r) f) Q E s) :
    wpAny M A (forIn l (p, w.add ⟨(percentInt c (decide (n < 0)) d).toArray⟩ o, r) f) Q E s :=
  h _ (KPc.good_mono (KPc.good_add g (KPc.obj_none ho)) (Nat.add_le_add_left (len_le hn h1 h2 h3 hd) _))
end
local macro_rules | `(tactic| kpt_piece) => `(tactic| (refine after_neg (by kpc_g) rfl (by kpc_kind) rfl (by with_reducible assumption) rfl (by kpc_none) ?_; intro _ _))
local macro_rules | `(tactic| kpt_hd) => `(tactic| with_reducible assumption)
theorem msg_meets {b : Addr} {n k : Int} {t t1 t2 : Tok} (hn : n.natAbs < 10 ^ 10) (hk : k.natAbs < 10 ^ 10) (hn2 : n.natAbs.log2 < 1920) (hk2 : k.natAbs.log2 < 1920) :
    ∃ T, Meets («str.__mod__» ⟨[.str (PySem.Str.mk #[37, 105, 32, 98, 121, 116, 101, 115, 32, 110, 101, 101, 100, 101, 100, 32, 102, 111, 114, 32, 109, 101, 115, 115, 97, 103, 101, 44, 32, 98, 117, 116, 32, 116, 104, 101, 114, 101, 32, 105, 115, 32, 111, 110, 108, 121, 32, 115, 112, 97, 99, 101, 32, 102, 111, 114, 32, 37, 105]) t, .ref b], []⟩) (fun _ R s => IsTup s.heap b #[.int n t1, .int k t2] ∧ ∀ t' k, R (.ok (.ret (.str T t'))) { s with toks := k }) := by
  refine ⟨?T, ?h⟩
  case h => kpt_run
theorem msg_eq : PySem.Str.ofString "%i bytes needed for message, but there is only space for %i" = PySem.Str.mk #[37, 105, 32, 98, 121, 116, 101, 115, 32, 110, 101, 101, 100, 101, 100, 32, 102, 111, 114, 32, 109, 101, 115, 115, 97, 103, 101, 44, 32, 98, 117, 116, 32, 116, 104, 101, 114, 101, 32, 105, 115, 32, 111, 110, 108, 121, 32, 115, 112, 97, 99, 101, 32, 102, 111, 114, 32, 37, 105] := by decide +kernel
theorem msg_call {prog : Program} {w : World} {A : Around} {E : Value → Shared → Prop} {s : Shared} {t t1 t2 : Tok} {Q : Value → Shared → Prop} {b L : Addr} {cap : Nat} {h₀ : Heap} {news : List (Addr × Obj)} {n k : Int}
    (N : News h₀ L s.heap news) (hb : (b, ({ cls := .type "tuple", data := .seq #[.int n t1, .int k t2] cap } : PySem.Obj)) ∈ news) (hn : n.natAbs < 1000000) (hk : k.natAbs < 1000000)
    (h : ∀ T t' k, Q (.str T t') { s with toks := k }) : wpAny (model prog w) A (binaryOp .Mod (.str (PySem.Str.ofString "%i bytes needed for message, but there is only space for %i") t) (.ref b)) Q E s := by
  have lg : ∀ i : Nat, i < 1000000 → i.log2 < 1920 := fun i hi => by
    by_cases h0 : i = 0
    · subst h0; decide
    · exact Nat.lt_of_lt_of_le ((Nat.log2_lt h0).2 (Nat.lt_of_lt_of_le hi (by decide : 1000000 ≤ 2 ^ 20))) (by decide)
  obtain ⟨T, hm⟩ := msg_meets (b := b) (n := n) (k := k) (t := t) (t1 := t1) (t2 := t2) (by omega) (by omega) (lg _ hn) (lg _ hk)
  exact KPt.mod_tuple N hb msg_eq hm fun t' k => h T t' k
end PM
end
section
local macro_rules | `(tactic| walk_at "mine:pad18") => `(tactic| skip)
local macro_rules | `(tactic| walk_at "mine:pad19") => `(tactic| skip)
local macro_rules | `(tactic| walk_at "mine:pad20") => `(tactic| skip)
local macro_rules | `(tactic| walk_at "mine:pad21") => `(tactic| skip)
local macro_rules | `(tactic| walk_at "mine:off") => `(tactic| first | assumption | exact offNil | (refine offCons (by first | assumption | omega) (by first | assumption | omega) ?_; walk_at "mine:off"))
local macro_rules | `(tactic| walk_at "mine:led") => `(tactic| first | k_asm | (refine' nl1 ?kl; (case kl => k_asm)) | (refine' nl2 ?kl; (case kl => k_asm)) | (refine' nl3 ?kl; (case kl => k_asm)) | (refine' nl4 ?kl; (case kl => k_asm)) | (refine' nl5 ?kl; (case kl => k_asm)))
local macro_rules | `(tactic| walk_at "mine:back") => `(tactic| first | k_asm | (refine' nd1 ?kl; (case kl => k_asm)) | (refine' nd2 ?kl; (case kl => k_asm)) | (refine' nd3 ?kl; (case kl => k_asm)) | (refine' nd4 ?kl; (case kl => k_asm)) | (refine' nd5 ?kl; (case kl => k_asm)) | (refine' nd6 ?kl; (case kl => k_asm)))
local macro_rules | `(tactic| walk_at "mine:lt") => `(tactic| first | exact allLt_ne (by assumption) | exact allLt_ne (And.right (by assumption)) | exact allLt_ne (And.right (And.right (by assumption))) | exact allLt_ne (And.right (And.right (And.right (by assumption)))) | exact allLt_ne (And.right (And.right (And.right (And.right (by assumption))))) | assumption)
local macro_rules | `(tactic| walk_at "mine:sub") => `(tactic| (intro p9 hp9; first | exact hp9 | (simp only [List.mem_append, List.mem_cons, List.nil_append, List.cons_append] at hp9 ⊢; grind)))
local macro_rules | `(tactic| walk_at "mine:news") => `(tactic| first | k_asm | exact newsL (by k_asm) | exact newsR (by k_asm) | exact newsL (newsR (by k_asm)) | exact newsL (newsR (newsR (by k_asm))))
local macro_rules | `(tactic| walk_at "mine:enterC") => `(tactic| (refine' code_defC ?k1 ?k2 ?k3 ?k4 ?k5 ?kA ?kF ?kK ?k6 ?k7 ?k8 ?k9 ?kB ?kD ?_ ?c2 ?c3 ?c4; (case kA => exact rfl); (case kF => exact rfl); (case kK => first | assumption | exact rfl); (case k1 => k_asm); (case k2 => k_asm); (case k3 => k_asm); (case k4 => k_asm); (case k5 => k_asm); (case k6 => k_is); (case k7 => k_is); (case k8 => ktr_room); (case k9 => exact BindsTo.of_eq rfl); (case kB => exact rfl); (case kD => decide +kernel); (case c2 => exact rfl); (case c3 => exact rfl); (case c4 => exact rfl); k_whole; intro g' L' h' tk' cells' FG' F' N' Y' B' X' T' l1; (try k_lt l1); k_cells Y'; (try simp only [List.cons_append, List.nil_append] at N'); (try dsimp only); (try k_lift B'); (try k_fold)))
local macro_rules | `(tactic| walk_at "mine:rest") => `(tactic| first | k_asm | exact newsL (by k_asm) | exact newsT (by walk_at "mine:rest1") | exact newsR (by k_asm))
local macro_rules | `(tactic| walk_at "mine:rest1") => `(tactic| first | exact newsL (by k_asm) | exact newsT (newsL (by k_asm)) | exact newsT (newsT (newsL (by k_asm))) | exact newsT (newsT (newsT (newsL (by k_asm)))))
local macro_rules | `(tactic| walk_at "mine:home") => `(tactic| first | k_asm | exact newsT (by k_asm) | exact newsT (newsT (by k_asm)) | exact nApp (by k_asm) | exact nApp (newsT (by k_asm)) | exact nApp (newsT (newsT (by k_asm))) | exact nApp (newsT (newsT (newsT (by k_asm)))) | walk_at "mine:back")
local macro_rules | `(tactic| walk_at "getMethod bytes") => `(tactic| (k_here; (with_reducible refine JB.join_method ?_)))
local macro_rules | `(tactic| walk_at "call builtin:bytes.join") => `(tactic| (k_here; (with_reducible show wpAny _ _ (call (Value.builtin "bytes.join") [Value.bytes _ _, Value.ref _]) _ _ _); (with_unfolding_all refine' JB.join_call ?kN ?km ?kz ?_; (case kN => k_asm); (case km => k_mem); (case kz => walk_at "mine:joinz"); k_whole); intro _ _; (try dsimp only)))
local macro_rules | `(tactic| walk_at "call type:list") => `(tactic| (k_here; (with_reducible show wpAny _ _ (call (Value.type "list") [Value.bytes _ _]) _ _ _); (with_unfolding_all refine' LB.list_bytes_K ?kh ?kF ?kN ?kb ?kz ?_; (case kh => exact rfl); (case kF => k_asm); (case kN => k_asm); (case kb => assumption); (case kz => walk_at "mine:listz"); k_whole); intro D' us' c' h' tk' F' N' l1 hI'; (try k_lt l1); (try k_sweep)))
local macro_rules | `(tactic| walk_at "binaryOp Mult int bytes") => `(tactic| (k_here; (with_reducible show wpAny _ _ (binaryOp Operator.Mult (Value.int _ _) (Value.bytes _ _)) _ _ _); (with_unfolding_all refine' MB.mul_one ?kl ?kh ?_; (case kl => omega); (case kh => omega); k_whole); intro _ _))
local macro_rules | `(tactic| walk_at "mine:joinz") => `(tactic| ((rename KBw.bInts _ = _ => hbz9); (have hbz8 := MB.size_of hbz9); (try simp only [List.size_toArray, List.length_cons, List.length_nil, List.length_replicate]); omega))
local macro_rules | `(tactic| walk_at "call type:bytes") => `(tactic| (k_here; (with_reducible show wpAny _ _ (call (Value.type "bytes") [Value.ref _]) _ _ _); (with_unfolding_all refine' make_L ?kF ?kN ?kh ?km ?ki ?kr ?kz ?_; (case kF => k_asm); (case kN => k_asm); (case kh => exact rfl); (case km => k_mem); (case ki => assumption); (case kr => assumption); (case kz => omega); k_whole); intro b9 h9 t9 k9 hb9 F9 N9; (try dsimp only); (try k_sweep)))
local macro_rules | `(tactic| walk_at "mine:listz") => `(tactic| ((simp only [List.length_cons, List.length_append, List.length_take]); omega))
local macro_rules | `(tactic| walk_at "call ref") => `(tactic| (k_here; (with_reducible show wpAny _ _ (call (Value.ref 19) [Value.bytes _ _, Value.int _ _, Value.bytes _ _]) _ _ _); k_dflt (refine' pade_spec ?k1 ?k2 ?k3 ?k4 ?k5 ?kK ?kd ?ku ?kb ?kb2 ?kz ?kzd ?kz2 ?kf ?ke ?_; (case k1 => k_asm); (case k2 => k_asm); (case k3 => k_asm); (case k4 => k_asm); (case k5 => k_asm); (case kK => first | exact rfl | assumption); (case kd => ktr_room); (case ku => ktr_units); (case kb => with_reducible assumption); (case kb2 => with_reducible assumption); (case kzd => omega); (case ke => omega); (case kz => omega); (case kz2 => omega); (case kf => omega); k_whole); intro c9 t9 h9 tk9 hc9 F9 N9; (try dsimp only); (try k_sweep); (try k_fold)))
section
variable {w : World} {p : Program} {loose : List Str} {mean : ExcName → Option Value} {mg mb : Str → Option Value}
    {dp un : Nat} {gd : Option (List Code)} {cn : Str} {cs : Scope} {a : Addr} {ccd : Value} {ccl : List (Str × Addr)} {outer : List Env} {A₀ : Around} {base h₀ : Heap} {L : Addr} {m : Str → Option Value} {s : Shared} {Q E : Value → Shared → Prop}
    {rest : List (Addr × Obj)}
theorem tolde_ok {D G : Addr} {dvs gvs : List Value} {ks ds : List Int} {dn gn : Nat} {z : Int} {tz : Tok}
    (B : Below A₀ base outer h₀) (F : Fr h₀ L s.heap m) (X : (hd.heap_39 w.params).In h₀) (N : News h₀ L s.heap rest) (T : Top p loose mean mg mb h₀) (hk : cs.kind = .function)
    (hd : dp + 3 < recursionLimit) (hu : un + 24 < cLine)
    (hm : (D, listOf dvs.toArray dn) ∈ rest) (hIs : IntsAre dvs ks) (hr : ∀ c ∈ ks, 0 ≤ c ∧ c < 256) (hm' : (G, listOf gvs.toArray gn) ∈ rest) (hIs' : IntsAre gvs ds) (hr' : ∀ c ∈ ds, 0 ≤ c ∧ c < 256) (hz' : ds.length ≤ 1000) (hz : ks.length ≤ 1000) (hz2 : z ≤ 1000) (hfit : (ks.length : Int) ≤ z - 11) (hen : z - ks.length - 3 ≤ ((nz ds).length : Int))
    (hret : ∀ (D2 : Addr) (us : List Value) (n2 : Nat) (h' : Heap) (tk' : Nat), IntsAre us (0 :: 2 :: ((nz ds).take (z - ks.length - 3).toNat ++ 0 :: ks)) → LCg.Off1 D2 rest → Fr h₀ L h' m → News h₀ L h' ((D2, listOf us.toArray n2) :: rest) → Q (.ref D2) { s with heap := h', toks := tk' }) :
    wpAny (model PySem.Challenge.rw_ys0003_01.row.prog w) (ktrTop dp un gd cn cs L a ccd ccl outer) (call (.ref 40) [.ref D, .int z tz, .ref G]) Q E s := by
  w_top off
  revert X; k_fill; intro X
  have hMk := kstMark
  refine wpAny_call ?_
  k_dflt cell_enter
  k_steps
  rename ∀ p ∈ rest, _ => hlt9
  exact hret _ _ _ _ _ (by assumption) (off1_of fun p hp => Nat.ne_of_lt (hlt9 p hp)) (by k_asm) (by k_asm)
end
end
section
local macro_rules | `(tactic| walk_at "mine:pad18") => `(tactic| skip)
local macro_rules | `(tactic| walk_at "mine:pad19") => `(tactic| skip)
local macro_rules | `(tactic| walk_at "mine:pad20") => `(tactic| skip)
local macro_rules | `(tactic| walk_at "mine:pad21") => `(tactic| skip)
local macro_rules | `(tactic| walk_at "mine:pad22") => `(tactic| skip)
local macro_rules | `(tactic| walk_at "mine:off") => `(tactic| first | assumption | exact offNil | (refine offCons (by first | assumption | omega) (by first | assumption | omega) ?_; walk_at "mine:off"))
local macro_rules | `(tactic| walk_at "mine:led") => `(tactic| first | k_asm | (refine' nl1 ?kl; (case kl => k_asm)) | (refine' nl2 ?kl; (case kl => k_asm)) | (refine' nl3 ?kl; (case kl => k_asm)) | (refine' nl4 ?kl; (case kl => k_asm)) | (refine' nl5 ?kl; (case kl => k_asm)))
local macro_rules | `(tactic| walk_at "mine:back") => `(tactic| first | k_asm | (refine' nd1 ?kl; (case kl => k_asm)) | (refine' nd2 ?kl; (case kl => k_asm)) | (refine' nd3 ?kl; (case kl => k_asm)) | (refine' nd4 ?kl; (case kl => k_asm)) | (refine' nd5 ?kl; (case kl => k_asm)) | (refine' nd6 ?kl; (case kl => k_asm)))
local macro_rules | `(tactic| walk_at "mine:lt") => `(tactic| first | exact allLt_ne (by assumption) | exact allLt_ne (And.right (by assumption)) | exact allLt_ne (And.right (And.right (by assumption))) | exact allLt_ne (And.right (And.right (And.right (by assumption)))) | exact allLt_ne (And.right (And.right (And.right (And.right (by assumption))))) | assumption)
local macro_rules | `(tactic| walk_at "mine:sub") => `(tactic| (intro p9 hp9; first | exact hp9 | (simp only [List.mem_append, List.mem_cons, List.nil_append, List.cons_append] at hp9 ⊢; grind)))
local macro_rules | `(tactic| walk_at "mine:news") => `(tactic| first | k_asm | exact newsL (by k_asm) | exact newsR (by k_asm) | exact newsL (newsR (by k_asm)) | exact newsL (newsR (newsR (by k_asm))))
local macro_rules | `(tactic| walk_at "mine:enterC") => `(tactic| (refine' code_defC ?k1 ?k2 ?k3 ?k4 ?k5 ?kA ?kF ?kK ?k6 ?k7 ?k8 ?k9 ?kB ?kD ?_ ?c2 ?c3 ?c4; (case kA => exact rfl); (case kF => exact rfl); (case kK => first | assumption | exact rfl); (case k1 => k_asm); (case k2 => k_asm); (case k3 => k_asm); (case k4 => k_asm); (case k5 => k_asm); (case k6 => k_is); (case k7 => k_is); (case k8 => ktr_room); (case k9 => exact BindsTo.of_eq rfl); (case kB => exact rfl); (case kD => decide +kernel); (case c2 => exact rfl); (case c3 => exact rfl); (case c4 => exact rfl); k_whole; intro g' L' h' tk' cells' FG' F' N' Y' B' X' T' l1; (try k_lt l1); k_cells Y'; (try simp only [List.cons_append, List.nil_append] at N'); (try dsimp only); (try k_lift B'); (try k_fold)))
local macro_rules | `(tactic| walk_at "mine:rest") => `(tactic| first | k_asm | exact newsL (by k_asm) | exact newsT (by walk_at "mine:rest1") | exact newsR (by k_asm))
local macro_rules | `(tactic| walk_at "mine:rest1") => `(tactic| first | exact newsL (by k_asm) | exact newsT (newsL (by k_asm)) | exact newsT (newsT (newsL (by k_asm))) | exact newsT (newsT (newsT (newsL (by k_asm)))))
local macro_rules | `(tactic| walk_at "mine:home") => `(tactic| first | k_asm | exact newsT (by k_asm) | exact newsT (newsT (by k_asm)) | exact nApp (by k_asm) | exact nApp (newsT (by k_asm)) | exact nApp (newsT (newsT (by k_asm))) | exact nApp (newsT (newsT (newsT (by k_asm)))) | walk_at "mine:back")
local macro_rules | `(tactic| walk_at "getMethod bytes") => `(tactic| (k_here; (with_reducible refine JB.join_method ?_)))
local macro_rules | `(tactic| walk_at "call builtin:bytes.join") => `(tactic| (k_here; (with_reducible show wpAny _ _ (call (Value.builtin "bytes.join") [Value.bytes _ _, Value.ref _]) _ _ _); (with_unfolding_all refine' JB.join_call ?kN ?km ?kz ?_; (case kN => k_asm); (case km => k_mem); (case kz => walk_at "mine:joinz"); k_whole); intro _ _; (try dsimp only)))
local macro_rules | `(tactic| walk_at "call type:list") => `(tactic| (k_here; (with_reducible show wpAny _ _ (call (Value.type "list") [Value.bytes _ _]) _ _ _); (with_unfolding_all refine' LB.list_bytes_K ?kh ?kF ?kN ?kb ?kz ?_; (case kh => exact rfl); (case kF => k_asm); (case kN => k_asm); (case kb => assumption); (case kz => walk_at "mine:listz"); k_whole); intro D' us' c' h' tk' F' N' l1 hI'; (try k_lt l1); (try k_sweep)))
local macro_rules | `(tactic| walk_at "binaryOp Mult int bytes") => `(tactic| (k_here; (with_reducible show wpAny _ _ (binaryOp Operator.Mult (Value.int _ _) (Value.bytes _ _)) _ _ _); (with_unfolding_all refine' MB.mul_one ?kl ?kh ?_; (case kl => omega); (case kh => omega); k_whole); intro _ _))
local macro_rules | `(tactic| walk_at "mine:joinz") => `(tactic| ((rename KBw.bInts _ = _ => hbz9); (have hbz8 := MB.size_of hbz9); (try simp only [List.size_toArray, List.length_cons, List.length_nil, List.length_replicate]); omega))
local macro_rules | `(tactic| walk_at "call type:bytes") => `(tactic| (k_here; (with_reducible show wpAny _ _ (call (Value.type "bytes") [Value.ref _]) _ _ _); (with_unfolding_all refine' make_L ?kF ?kN ?kh ?km ?ki ?kr ?kz ?_; (case kF => k_asm); (case kN => k_asm); (case kh => exact rfl); (case km => k_mem); (case ki => assumption); (case kr => assumption); (case kz => omega); k_whole); intro b9 h9 t9 k9 hb9 F9 N9; (try dsimp only); (try k_sweep)))
local macro_rules | `(tactic| walk_at "call ref") => `(tactic| (k_here; (with_reducible show wpAny _ _ (call (Value.ref _) _) _ _ _); (refine wpAny_call ?_); (have hkF : ScopeKind.function = ScopeKind.function := rfl); k_dflt cell_enter))
local macro_rules | `(tactic| walk_at "binaryOp Mod str ref") => `(tactic| (k_here; (with_reducible show wpAny _ _ (binaryOp Operator.Mod (Value.str _ _) (Value.ref _)) _ _ _); (with_unfolding_all refine' PM.msg_call ?kN ?kb ?kn ?kk ?_; (case kN => k_asm); (case kb => k_mem); (case kn => omega); (case kk => omega); k_whole); intro _ _ _))
section
variable {w : World} {p : Program} {loose : List Str} {mean : ExcName → Option Value} {mg mb : Str → Option Value}
    {dp un : Nat} {gd : Option (List Code)} {cn : Str} {cs : Scope} {a : Addr} {ccd : Value} {ccl : List (Str × Addr)} {outer : List Env} {A₀ : Around} {base h₀ : Heap} {L : Addr} {m : Str → Option Value} {s : Shared} {Q E : Value → Shared → Prop}
    {rest : List (Addr × Obj)}
theorem tolde_long {D G : Addr} {dvs gvs : List Value} {ks ds : List Int} {dn gn : Nat} {z : Int} {tz : Tok}
    (B : Below A₀ base [] h₀) (F : Fr h₀ L s.heap m) (X : (hd.heap_39 w.params).In h₀) (N : News h₀ L s.heap rest) (T : Top p loose mean mg mb h₀) (XB : (hd.heap_39 w.params).In base) (TB : Top p loose mean mg mb base) (hk : cs.kind = .function)
    (hd : dp + 3 < recursionLimit) (hu : un + 24 < cLine)
    (hm : (D, listOf dvs.toArray dn) ∈ rest) (hIs : IntsAre dvs ks) (hr : ∀ c ∈ ks, 0 ≤ c ∧ c < 256) (hm' : (G, listOf gvs.toArray gn) ∈ rest) (hIs' : IntsAre gvs ds) (hr' : ∀ c ∈ ds, 0 ≤ c ∧ c < 256) (hz' : ds.length ≤ 1000) (hz : ks.length ≤ 1000) (hz1 : 0 ≤ z) (hz2 : z ≤ 1000) (hfit : ¬ (ks.length : Int) ≤ z - 11)
    (hret : ∀ (t : Tok) (h' : Heap) (tk' : Nat), Fr h₀ L h' m → News h₀ L h' rest → Q (.str (Str.ofString "long") t) { s with heap := h', toks := tk' }) :
    wpAny (model PySem.Challenge.rw_ys0003_01.row.prog w) (ktrTop dp un gd cn cs L a ccd ccl []) (call (.ref 40) [.ref D, .int z tz, .ref G]) Q E s := by
  w_top off
  revert X XB; k_fill; intro X XB
  have hMk := kstMark
  refine wpAny_call ?_
  k_dflt (refine' code_defS0X ?k1 ?k2 ?k3 ?k4 ?k5 ?kA ?kF ?kK ?k6 ?k7 ?k8 ?k9 ?kB ?_ ?c2 ?c3 ?c4 ?c5)
  (case kA => exact rfl)
  (case kF => exact rfl)
  (case kK => first | assumption | exact rfl)
  (case k2 => k_asm)
  (case k1 => k_asm)
  (case k3 => k_asm)
  (case k4 => k_asm)
  (case k5 => k_asm)
  (case k6 => k_is)
  (case k7 => k_is)
  (case k8 => ktr_room)
  (case k9 => exact BindsTo.of_eq rfl)
  (case kB => exact locs rfl)
  (case c2 => exact rfl)
  (case c3 => exact rfl)
  (case c4 => exact rfl)
  (case c5 => decide)
  intro g' L' h' FG' F' N' B' X' T' D'
  (try dsimp only)
  (try k_lift B')
  (try k_fold)
  k_steps
  exact hret _ _ _ (by k_asm) (by exact nT (by k_asm))
end
end
section
local macro_rules | `(tactic| walk_at "mine:pad22") => `(tactic| skip)
local macro_rules | `(tactic| walk_at "mine:pad23") => `(tactic| skip)
local macro_rules | `(tactic| walk_at "mine:off") => `(tactic| first | assumption | exact offNil | (refine offCons (by first | assumption | omega) (by first | assumption | omega) ?_; walk_at "mine:off"))
local macro_rules | `(tactic| walk_at "mine:led") => `(tactic| first | k_asm | (refine' nl1 ?kl; (case kl => k_asm)) | (refine' nl2 ?kl; (case kl => k_asm)) | (refine' nl3 ?kl; (case kl => k_asm)) | (refine' nl4 ?kl; (case kl => k_asm)) | (refine' nl5 ?kl; (case kl => k_asm)))
local macro_rules | `(tactic| walk_at "mine:back") => `(tactic| first | k_asm | (refine' nd1 ?kl; (case kl => k_asm)) | (refine' nd2 ?kl; (case kl => k_asm)) | (refine' nd3 ?kl; (case kl => k_asm)) | (refine' nd4 ?kl; (case kl => k_asm)) | (refine' nd5 ?kl; (case kl => k_asm)) | (refine' nd6 ?kl; (case kl => k_asm)))
local macro_rules | `(tactic| walk_at "mine:lt") => `(tactic| first | exact allLt_ne (by assumption) | exact allLt_ne (And.right (by assumption)) | exact allLt_ne (And.right (And.right (by assumption))) | exact allLt_ne (And.right (And.right (And.right (by assumption)))) | exact allLt_ne (And.right (And.right (And.right (And.right (by assumption))))) | assumption)
local macro_rules | `(tactic| walk_at "mine:sub") => `(tactic| (intro p9 hp9; first | exact hp9 | (simp only [List.mem_append, List.mem_cons, List.nil_append, List.cons_append] at hp9 ⊢; grind)))
local macro_rules | `(tactic| walk_at "mine:news") => `(tactic| first | k_asm | exact newsL (by k_asm) | exact newsR (by k_asm) | exact newsL (newsR (by k_asm)) | exact newsL (newsR (newsR (by k_asm))))
local macro_rules | `(tactic| walk_at "mine:enterC") => `(tactic| (refine' code_defC ?k1 ?k2 ?k3 ?k4 ?k5 ?kA ?kF ?kK ?k6 ?k7 ?k8 ?k9 ?kB ?kD ?_ ?c2 ?c3 ?c4; (case kA => exact rfl); (case kF => exact rfl); (case kK => first | assumption | exact rfl); (case k1 => k_asm); (case k2 => k_asm); (case k3 => k_asm); (case k4 => k_asm); (case k5 => k_asm); (case k6 => k_is); (case k7 => k_is); (case k8 => ktr_room); (case k9 => exact BindsTo.of_eq rfl); (case kB => exact rfl); (case kD => decide +kernel); (case c2 => exact rfl); (case c3 => exact rfl); (case c4 => exact rfl); k_whole; intro g' L' h' tk' cells' FG' F' N' Y' B' X' T' l1; (try k_lt l1); k_cells Y'; (try simp only [List.cons_append, List.nil_append] at N'); (try dsimp only); (try k_lift B'); (try k_fold)))
local macro_rules | `(tactic| walk_at "mine:rest") => `(tactic| first | k_asm | exact newsL (by k_asm) | exact newsT (by walk_at "mine:rest1") | exact newsR (by k_asm))
local macro_rules | `(tactic| walk_at "mine:rest1") => `(tactic| first | exact newsL (by k_asm) | exact newsT (newsL (by k_asm)) | exact newsT (newsT (newsL (by k_asm))) | exact newsT (newsT (newsT (newsL (by k_asm)))))
local macro_rules | `(tactic| walk_at "mine:home") => `(tactic| first | k_asm | exact newsT (by k_asm) | exact newsT (newsT (by k_asm)) | exact nApp (by k_asm) | exact nApp (newsT (by k_asm)) | exact nApp (newsT (newsT (by k_asm))) | exact nApp (newsT (newsT (newsT (by k_asm)))) | walk_at "mine:back")
local macro_rules | `(tactic| walk_at "exec Assign cons ListComp") => `(tactic| (k_here; refine Halt.out ?_))
local macro_rules | `(tactic| walk_at "eval ListComp") => `(tactic| (k_here; refine Halt.out ?_))
local macro_rules | `(tactic| walk_at "CompSrc") => `(tactic| (k_here; refine Halt.out ?_))
local macro_rules | `(tactic| walk_at "CompEnd") => `(tactic| (k_here; refine Halt.out ?_))
local macro_rules | `(tactic| walk_at "getMethod bytes") => `(tactic| (k_here; (with_reducible refine JB.join_method ?_)))
local macro_rules | `(tactic| walk_at "call builtin:bytes.join") => `(tactic| (k_here; (with_reducible show wpAny _ _ (call (Value.builtin "bytes.join") [Value.bytes _ _, Value.ref _]) _ _ _); (with_unfolding_all refine' JB.join_call ?kN ?km ?kz ?_; (case kN => k_asm); (case km => k_mem); (case kz => walk_at "mine:joinz"); k_whole); intro _ _; (try dsimp only)))
local macro_rules | `(tactic| walk_at "call type:list") => `(tactic| (k_here; (with_reducible show wpAny _ _ (call (Value.type "list") [Value.bytes _ _]) _ _ _); (with_unfolding_all refine' LB.list_bytes_K ?kh ?kF ?kN ?kb ?kz ?_; (case kh => exact rfl); (case kF => k_asm); (case kN => k_asm); (case kb => assumption); (case kz => walk_at "mine:listz"); k_whole); intro D' us' c' h' tk' F' N' l1 hI'; (try k_lt l1); (try k_sweep)))
local macro_rules | `(tactic| walk_at "binaryOp Mult int bytes") => `(tactic| (k_here; (with_reducible show wpAny _ _ (binaryOp Operator.Mult (Value.int _ _) (Value.bytes _ _)) _ _ _); (with_unfolding_all refine' MB.mul_one ?kl ?kh ?_; (case kl => omega); (case kh => omega); k_whole); intro _ _))
local macro_rules | `(tactic| walk_at "mine:joinz") => `(tactic| ((rename KBw.bInts _ = _ => hbz9); (have hbz8 := MB.size_of hbz9); (try simp only [List.size_toArray, List.length_cons, List.length_nil, List.length_replicate]); omega))
local macro_rules | `(tactic| walk_at "call type:bytes") => `(tactic| (k_here; (with_reducible show wpAny _ _ (call (Value.type "bytes") [Value.ref _]) _ _ _); (with_unfolding_all refine' make_L ?kF ?kN ?kh ?km ?ki ?kr ?kz ?_; (case kF => k_asm); (case kN => k_asm); (case kh => exact rfl); (case km => k_mem); (case ki => assumption); (case kr => assumption); (case kz => omega); k_whole); intro b9 h9 t9 k9 hb9 F9 N9; (try dsimp only); (try k_sweep)))
local macro_rules | `(tactic| walk_at "call ref") => `(tactic| (k_here; (with_reducible show wpAny _ _ (call (Value.ref _) _) _ _ _); (refine wpAny_call ?_); (have hkF : ScopeKind.function = ScopeKind.function := rfl); k_dflt cell_enter))
local macro_rules | `(tactic| walk_at "binaryOp Mod str ref") => `(tactic| (k_here; (with_reducible show wpAny _ _ (binaryOp Operator.Mod (Value.str _ _) (Value.ref _)) _ _ _); (with_unfolding_all refine' PM.msg_call ?kN ?kb ?kn ?kk ?_; (case kN => k_asm); (case kb => k_mem); (case kn => omega); (case kk => omega); k_whole); intro _ _ _))
theorem clip_over {n : Nat} {i : Int} (h1 : (n : Int) ≤ i) : clipAt n i = n := by
  unfold clipAt
  rw [if_neg (by omega)]
  omega
section
variable {w : World} {p : Program} {loose : List Str} {mean : ExcName → Option Value} {mg mb : Str → Option Value}
    {dp un : Nat} {gd : Option (List Code)} {cn : Str} {cs : Scope} {a : Addr} {ccd : Value} {ccl : List (Str × Addr)} {outer : List Env} {A₀ : Around} {base h₀ : Heap} {L : Addr} {m : Str → Option Value} {s : Shared} {Q E : Value → Shared → Prop}
    {rest : List (Addr × Obj)}
theorem tolde_few {D G : Addr} {dvs gvs : List Value} {ks ds : List Int} {dn gn : Nat} {z : Int} {tz : Tok}
    (B : Below A₀ base [] h₀) (F : Fr h₀ L s.heap m) (X : (hd.heap_39 w.params).In h₀) (N : News h₀ L s.heap rest) (T : Top p loose mean mg mb h₀) (XB : (hd.heap_39 w.params).In base) (TB : Top p loose mean mg mb base) (hk : cs.kind = .function)
    (hd : dp + 3 < recursionLimit) (hu : un + 24 < cLine)
    (hm : (D, listOf dvs.toArray dn) ∈ rest) (hIs : IntsAre dvs ks) (hr : ∀ c ∈ ks, 0 ≤ c ∧ c < 256) (hm' : (G, listOf gvs.toArray gn) ∈ rest) (hIs' : IntsAre gvs ds) (hr' : ∀ c ∈ ds, 0 ≤ c ∧ c < 256) (hz' : ds.length ≤ 1000) (hz : ks.length ≤ 1000) (hz1 : 0 ≤ z) (hz2 : z ≤ 1000) (hfit : (ks.length : Int) ≤ z - 11) (hen : ¬ z - ks.length - 3 ≤ ((nz ds).length : Int))
    (hret : ∀ (t : Tok) (h' : Heap) (tk' : Nat), Fr h₀ L h' m → News h₀ L h' rest → Q (.str (Str.ofString "few") t) { s with heap := h', toks := tk' }) :
    wpAny (model PySem.Challenge.rw_ys0003_01.row.prog w) (ktrTop dp un gd cn cs L a ccd ccl []) (call (.ref 40) [.ref D, .int z tz, .ref G]) Q E s := by
  w_top off
  revert X XB; k_fill; intro X XB
  have hMk := kstMark
  refine wpAny_call ?_
  k_dflt (refine' code_defS0X ?k1 ?k2 ?k3 ?k4 ?k5 ?kA ?kF ?kK ?k6 ?k7 ?k8 ?k9 ?kB ?_ ?c2 ?c3 ?c4 ?c5)
  (case kA => exact rfl)
  (case kF => exact rfl)
  (case kK => first | assumption | exact rfl)
  (case k2 => k_asm)
  (case k1 => k_asm)
  (case k3 => k_asm)
  (case k4 => k_asm)
  (case k5 => k_asm)
  (case k6 => k_is)
  (case k7 => k_is)
  (case k8 => ktr_room)
  (case k9 => exact BindsTo.of_eq rfl)
  (case kB => exact locs rfl)
  (case c2 => exact rfl)
  (case c3 => exact rfl)
  (case c4 => exact rfl)
  (case c5 => decide)
  intro g' L' h' FG' F' N' B' X' T' D'
  (try dsimp only)
  (try k_lift B')
  (try k_fold)
  k_steps
  unfold Halt
  refine ListComp_TB (F₀ := by k_asm) (by with_unfolding_all rfl) (by decide) (by rfl) (by decide) (by rfl) ?_
  k_steps
  rename KBw.bInts _ = ds => hd2
  refine SrcBT.of (by rfl) (by k_asm) (by k_asm) hd2 (by omega) ?_
  intro g
  refine filt_comp (bytes_at hd2) trivial ?_ ?_
  · intro k2 t2 I2 oI2 C2 oC2 D2 m2 ys2 h2 tk2 E2 hk2 hC2 hx2 F2 N2 off2 ne2
    (try dsimp only)
    k_steps
    · unfold Halt
      exact LCg.CompEnd.intro (by k_asm) (by k_asm) _ (fun p hp => hp) off2 trivial ⟨rfl, by assumption, _, rfl⟩
    · unfold Halt
      exact LCg.CompEnd.intro (by k_asm) (by k_asm) _ (fun p hp => hp) off2 trivial ⟨rfl, by assumption⟩
  · intro ys hys
    unfold LCg.FinE
    intro D3 h3 tk3 F3 N3 o3
    change IntsAre ys (nz ds) at hys
    have hl3 := hys.length
    have hr9 := nz_in hd2
    have hl4 : (nz ds).length ≤ ds.length := List.length_filter_le _ _
    have hl5 := clip_over (n := (nz ds).length) (i := z - (ks.length : Int) - 3) (by omega)
    (try dsimp only)
    k_steps
    · exfalso
      rename _ = z - _ - 3 => he9
      rw [hl5] at he9
      omega
    · exact hret _ _ _ (by k_asm) (by first | k_asm | exact nT (by k_asm) | exact nT (nT (by k_asm)))
end
end
section
section
variable {prog : Program} {w : World} {A : Around} {E : Value → Shared → Prop} {s : Shared} {h₀ : Heap} {L l b : Addr} {m : Str → Option Value} {news : List (Addr × Obj)} {vs ws : List Value} {ns ms : List Int} {n1 n2 : Nat} {Q : Value → Shared → Prop}
theorem ints_rep {c : Int} {t : Tok} : ∀ n : Nat, IntsAre (List.replicate n [Value.int c t]).flatten (List.replicate n c)
  | 0 => .nil
  | n + 1 => .cons _ _ (ints_rep n)
theorem add_L (F : Fr h₀ L s.heap m) (N : News h₀ L s.heap news) (ha : (l, listOf vs.toArray n1) ∈ news) (hb : (b, listOf ws.toArray n2) ∈ news) (hi : IntsAre vs ns) (hj : IntsAre ws ms) (hz : ns.length + ms.length ≤ 16777216)
    (h : ∀ D us h', Fr h₀ L h' m → News h₀ L h' ((D, listOf (List.toArray us) 0) :: news) → (∀ p ∈ news, p.1 < D) → IntsAre us (ns ++ ms) → Q (.ref D) { s with heap := h' }) :
    wpAny (model prog w) A (binaryOp .Add (.ref l) (.ref b)) Q E s :=
  kmk_add_ints F N ⟨_, (N _ ha).1, rfl, _, rfl⟩ ⟨_, (N _ hb).1, rfl, _, rfl⟩ hi hj h (by rw [sizeLine_eq]; exact hz)
theorem mul_L {c x : Int} {tc u : Tok} (F : Fr h₀ L s.heap m) (N : News h₀ L s.heap news) (ha : (l, listOf [Value.int c tc].toArray n1) ∈ news) (hlo : -1000000 ≤ x) (hhi : x ≤ 256)
    (h : ∀ D us h', Fr h₀ L h' m → News h₀ L h' ((D, listOf (List.toArray us) 0) :: news) → (∀ p ∈ news, p.1 < D) → IntsAre us (List.replicate x.toNat c) → Q (.ref D) { s with heap := h' }) :
    wpAny (model prog w) A (binaryOp .Mult (.ref l) (.int x u)) Q E s :=
  KMa.mul F N ⟨_, (N _ ha).1, rfl, _, rfl⟩ (by omega) (by omega) (by simp; omega) rfl fun D h' F' N' hlt => h D _ h' F' N' hlt (ints_rep _)
theorem eq_L (N : News h₀ L s.heap news) (ha : (l, listOf vs.toArray n1) ∈ news) (hb : (b, listOf ws.toArray n2) ∈ news) (hi : IntsAre vs ns) (hj : IntsAre ws ms) (hu : A.units + 64 < cLine)
    (h : Q (.bool (decide (ns = ms))) s) : wpAny (model prog w) A (compareOp .Eq (.ref l) (.ref b)) Q E s :=
  eq_intsK ⟨_, (N _ ha).1, rfl, _, rfl⟩ hi ⟨_, (N _ hb).1, rfl, _, rfl⟩ hj hu h
theorem ne_L (N : News h₀ L s.heap news) (ha : (l, listOf vs.toArray n1) ∈ news) (hb : (b, listOf ws.toArray n2) ∈ news) (hi : IntsAre vs ns) (hj : IntsAre ws ms) (hu : A.units + 64 < cLine)
    (h : Q (.bool (!decide (ns = ms))) s) : wpAny (model prog w) A (compareOp .NotEq (.ref l) (.ref b)) Q E s :=
  ne_intsK ⟨_, (N _ ha).1, rfl, _, rfl⟩ hi ⟨_, (N _ hb).1, rfl, _, rfl⟩ hj hu h
end
end
section
section
variable {prog : Program} {w : World} {A : Around} {E : Value → Shared → Prop} {s : Shared} {env : Env} {h₀ : Heap} {x : Str} {body : List Stmt} {Q : Flow → Shared → Prop}
abbrev ocLed (D : Addr) (nn : Nat) (rest : List (Addr × Obj)) (c : List Value × List Int) : List (Addr × Obj) := (D, listOf c.1.toArray nn) :: rest
abbrev ocF (c : List Value × List Int) : Prop := IntsAre c.1 c.2
abbrev ocP (N : Nat) (_ : List Int) (c : List Value × List Int) : Prop := c.2.length = N ∧ ∀ b ∈ c.2, 0 ≤ b ∧ b < 256
/-- a for over a range whose turn changes items of one list of octets -/
theorem for_oct {r D : Addr} {a₀ b₀ : Int} {t₀ u₀ v₀ : Tok} {n nn : Nat} {ys : List Value} {ks : List Int} {m₀ : Str → Option Value} {rest : List (Addr × Obj)}
    (hh : A.handled = none) (hr : IsRange s.heap r a₀ b₀ 1 t₀ u₀ v₀) (hsmall : Builtin.Range.small a₀ b₀ 1 = true) (hn : Builtin.Range.rangeSize a₀ b₀ 1 = (n : Int)) (F : Fr h₀ env.locals s.heap m₀)
    (N : News h₀ env.locals s.heap ((D, listOf ys.toArray nn) :: rest)) (hi : IntsAre ys ks) (hb : ∀ b ∈ ks, 0 ≤ b ∧ b < 256)
    (turn : ∀ (pre : List Int) (k : Int) t' (u : Str → Option Value) h tk own ys1 ks1, k = a₀ + (pre.length : Int) → pre.length < n → OwnOff own (D :: rest.map (·.1)) → IntsAre ys1 ks1 → ks1.length = ks.length → (∀ b ∈ ks1, 0 ≤ b ∧ b < 256) →
      Fr h₀ env.locals h (fun y => if y = x then some (.int k t') else m₀ y) → News h₀ env.locals h ((D, listOf ys1.toArray nn) :: (rest ++ own)) →
      wpAny (model prog w) A (execs body env) (InvPostN h₀ env.locals (KstS (ocLed D nn rest) (fun _ => []) ocF x [] m₀ (ocP ks.length) (pre ++ [k])) own (D :: rest.map (·.1)) { s with heap := h, toks := tk } Q) E { s with heap := h, toks := tk })
    (done : ∀ (u : Str → Option Value) h tk ys1 ks1, IntsAre ys1 ks1 → ks1.length = ks.length → (∀ b ∈ ks1, 0 ≤ b ∧ b < 256) → Fr h₀ env.locals h (fun y => if y = x then u y else m₀ y) →
      News h₀ env.locals h ((D, listOf ys1.toArray nn) :: rest) → Q .next { s with heap := h, toks := tk }) :
    wpAny (model prog w) A (pyIter (.ref r)) (fun it s₂ => LoopAtV prog w A h₀ env x body Q E it s₂) E s := by
  refine kst_range (ocLed D nn rest) (fun _ => []) ocF [] (ocP ks.length) (ys, ks) hh hr hsmall hn F N hi (fun _ hp => nomatch hp) ⟨rfl, hb⟩ ?_ ?_
  · rintro ⟨ys1, ks1⟩ pre k t' u h tk own hk' hlt hoff hf hP F9 N9
    exact turn pre k t' u h tk own ys1 ks1 hk' hlt hoff hf hP.1 hP.2 F9 N9
  · rintro ⟨ys1, ks1⟩ u h tk hf hP F9 N9
    exact done u h tk ys1 ks1 hf hP.1 hP.2 F9 N9
theorem for_oct_end {D L : Addr} {nn N : Nat} {rest own : List (Addr × Obj)} {m₀ m' : Str → Option Value} {pre : List Int} {s₁ : Shared} {h' : Heap} {tk : Nat} {ys1 : List Value} {ks1 : List Int}
    (F : Fr h₀ L h' m') (N' : News h₀ L h' ((D, listOf ys1.toArray nn) :: (rest ++ own))) (hi : IntsAre ys1 ks1) (hl : ks1.length = N) (hb : ∀ b ∈ ks1, 0 ≤ b ∧ b < 256)
    (hr : ∀ z, z ≠ x → (∀ p ∈ ([] : List (Str × Value)), z ≠ p.1) → ([] : List Str).contains z = false → m' z = m₀ z) :
    InvEndN h₀ L (KstS (ocLed D nn rest) (fun _ => []) ocF x [] m₀ (ocP N) pre) own (D :: rest.map (·.1)) s₁ { s₁ with heap := h', toks := tk } :=
  kst_end (ys1, ks1) F N' led_in led_own rfl hi (fun _ hp => nomatch hp) hr ⟨hl, hb⟩
end
theorem set_in {ks : List Int} {i : Nat} (h : ∀ b ∈ ks, 0 ≤ b ∧ b < 256) : ∀ b ∈ ks.set i 0, 0 ≤ b ∧ b < 256 := fun b hb => by
  rcases List.mem_or_eq_of_mem_set hb with hb | rfl
  · exact h b hb
  · decide
end
section
local macro_rules | `(tactic| walk_at "mine:off") => `(tactic| first | assumption | exact offNil | (refine offCons (by first | assumption | omega) (by first | assumption | omega) ?_; walk_at "mine:off"))
local macro_rules | `(tactic| walk_at "mine:led") => `(tactic| first | k_asm | (refine' nl1 ?kl; (case kl => k_asm)) | (refine' nl2 ?kl; (case kl => k_asm)) | (refine' nl3 ?kl; (case kl => k_asm)) | (refine' nl4 ?kl; (case kl => k_asm)) | (refine' nl5 ?kl; (case kl => k_asm)))
local macro_rules | `(tactic| walk_at "mine:back") => `(tactic| first | k_asm | (refine' nd1 ?kl; (case kl => k_asm)) | (refine' nd2 ?kl; (case kl => k_asm)) | (refine' nd3 ?kl; (case kl => k_asm)) | (refine' nd4 ?kl; (case kl => k_asm)) | (refine' nd5 ?kl; (case kl => k_asm)) | (refine' nd6 ?kl; (case kl => k_asm)))
local macro_rules | `(tactic| walk_at "mine:lt") => `(tactic| first | exact allLt_ne (by assumption) | exact allLt_ne (And.right (by assumption)) | exact allLt_ne (And.right (And.right (by assumption))) | exact allLt_ne (And.right (And.right (And.right (by assumption)))) | exact allLt_ne (And.right (And.right (And.right (And.right (by assumption))))) | assumption)
local macro_rules | `(tactic| walk_at "mine:sub") => `(tactic| (intro p9 hp9; first | exact hp9 | (simp only [List.mem_append, List.mem_cons, List.nil_append, List.cons_append] at hp9 ⊢; grind)))
local macro_rules | `(tactic| walk_at "mine:news") => `(tactic| first | k_asm | exact newsL (by k_asm) | exact newsR (by k_asm) | exact newsL (newsR (by k_asm)) | exact newsL (newsR (newsR (by k_asm))))
local macro_rules | `(tactic| walk_at "mine:enterC") => `(tactic| (refine' code_defC ?k1 ?k2 ?k3 ?k4 ?k5 ?kA ?kF ?kK ?k6 ?k7 ?k8 ?k9 ?kB ?kD ?_ ?c2 ?c3 ?c4; (case kA => exact rfl); (case kF => exact rfl); (case kK => first | assumption | exact rfl); (case k1 => k_asm); (case k2 => k_asm); (case k3 => k_asm); (case k4 => k_asm); (case k5 => k_asm); (case k6 => k_is); (case k7 => k_is); (case k8 => ktr_room); (case k9 => exact BindsTo.of_eq rfl); (case kB => exact rfl); (case kD => decide +kernel); (case c2 => exact rfl); (case c3 => exact rfl); (case c4 => exact rfl); k_whole; intro g' L' h' tk' cells' FG' F' N' Y' B' X' T' l1; (try k_lt l1); k_cells Y'; (try simp only [List.cons_append, List.nil_append] at N'); (try dsimp only); (try k_lift B'); (try k_fold)))
local macro_rules | `(tactic| walk_at "mine:rest") => `(tactic| first | k_asm | exact newsL (by k_asm) | exact newsT (by walk_at "mine:rest1") | exact newsR (by k_asm))
local macro_rules | `(tactic| walk_at "mine:rest1") => `(tactic| first | exact newsL (by k_asm) | exact newsT (newsL (by k_asm)) | exact newsT (newsT (newsL (by k_asm))) | exact newsT (newsT (newsT (newsL (by k_asm)))))
local macro_rules | `(tactic| walk_at "mine:home") => `(tactic| first | k_asm | exact newsT (by k_asm) | exact newsT (newsT (by k_asm)) | exact nApp (by k_asm) | exact nApp (newsT (by k_asm)) | exact nApp (newsT (newsT (by k_asm))) | exact nApp (newsT (newsT (newsT (by k_asm)))) | walk_at "mine:back")
local macro_rules | `(tactic| walk_at "pyIter ref") => `(tactic| (k_here; refine Halt.out ?_))
local macro_rules | `(tactic| walk_at "exec For Name Call cons nil") => `(tactic| (k_here; (rename Fr _ _ _ _ => lF'); (with_unfolding_all refine' For_invVF lF' ?k1 ?k2 ?_; (case k1 => exact rfl); (case k2 => exact rfl); k_whole)))
local macro_rules | `(tactic| walk_at "InvEndN") => `(tactic| (k_here; refine Halt.out ?_))
local macro_rules | `(tactic| walk_at "exec Assign cons ListComp") => `(tactic| (k_here; refine Halt.out ?_))
local macro_rules | `(tactic| walk_at "eval ListComp") => `(tactic| (k_here; refine Halt.out ?_))
local macro_rules | `(tactic| walk_at "CompSrc") => `(tactic| (k_here; refine Halt.out ?_))
local macro_rules | `(tactic| walk_at "CompEnd") => `(tactic| (k_here; refine Halt.out ?_))
local macro_rules | `(tactic| walk_at "call ref") => `(tactic| (k_here; (with_reducible show wpAny _ _ (call (Value.ref 26) [Value.ref _, Value.int _ _]) _ _ _); k_dflt (refine' cell_spec ?k1 ?k2 ?k3 ?k4 ?k5 ?kK ?kd ?ku ?kl ?ki ?kn ?k6 ?k7 ?_; (case k1 => k_asm); (case k2 => k_asm); (case k3 => k_asm); (case k4 => k_asm); (case k5 => k_asm); (case kK => first | exact rfl | assumption); (case kd => ktr_room); (case ku => ktr_units); (case kl => k_asm); (case ki => k_asm); (case kn => omega); (case k6 => omega); (case k7 => omega); k_whole); intro v9 t9 h9 tk9 hv9 F9 N9; (try dsimp only); (try k_sweep); (try k_fold)))
local macro_rules | `(tactic| walk_at "eval Call") => `(tactic| (k_here; (with_reducible show wpAny _ _ (eval (Expr.Call (Expr.Name ("_law_cell" : Str) _) _ _ _) _) _ _ _); with_unfolding_all refine Call_ ?_))
local macro_rules | `(tactic| walk_at "call ref") => `(tactic| (k_here; (with_reducible show wpAny _ _ (call (Value.ref 33) [Value.ref _, Value.int _ _, Value.int _ _]) _ _ _); k_dflt (refine' octets_call ?k1 ?k2 ?k3 ?k4 ?k5 ?kK ?kd ?ku ?kl ?ki ?kn ?k6 ?k7 ?k8 ?k9 ?_; (case k1 => k_asm); (case k2 => k_asm); (case k3 => k_asm); (case k4 => k_asm); (case k5 => k_asm); (case kK => first | exact rfl | assumption); (case kd => ktr_room); (case ku => ktr_units); (case kl => k_asm); (case ki => k_asm); (case kn => omega); (case k6 => omega); (case k7 => omega); (case k8 => first | omega | exact (fmod_in (by decide)).1); (case k9 => first | omega | exact Int.le_trans (Int.le_of_lt (fmod_in (by decide)).2) (by decide)); k_whole); intro D9 ys9 ks9 n9 h9 tk9 hi9 hl9 hlb9 hr9 off9 F9 N9; (simp only [LCg.Off1, and_true] at off9); (try dsimp only); (try k_sweep); (try k_fold)))
local macro_rules | `(tactic| walk_at "call ref") => `(tactic| (k_here; (with_reducible show wpAny _ _ (call (Value.ref 40) [Value.ref _, Value.int _ _, Value.ref _]) _ _ _); first
  | (k_dflt (refine' tolde_ok ?k1 ?k2 ?k3 ?k4 ?k5 ?kK ?kd ?ku ?km ?ki ?kr ?km' ?ki' ?kr' ?kz' ?kz ?kz2 ?kf ?ke ?_; (case k1 => k_asm); (case k2 => k_asm); (case k3 => k_asm); (case k4 => k_asm); (case k5 => k_asm); (case km => k_mem); (case km' => k_mem); (case ki => with_reducible assumption); (case ki' => with_reducible assumption); (case kf => omega); (case ke => with_reducible assumption); (case kK => first | exact rfl | assumption); (case kd => ktr_room); (case ku => ktr_units); (case kr => with_reducible assumption); (case kr' => with_reducible assumption); (case kz => omega); (case kz' => omega); (case kz2 => first | omega | exact Int.le_trans (Int.le_of_lt (fmod_in (by decide)).2) (by decide)); k_whole); intro D9 us9 n9 h9 tk9 hi9 off9 F9 N9; (simp only [LCg.Off1, and_true] at off9); (try dsimp only); (try k_sweep); (try k_fold))
  | (k_dflt (refine' tolde_long ?k1 ?k2 ?k3 ?k4 ?k5 ?kX ?kT ?kK ?kd ?ku ?km ?ki ?kr ?km' ?ki' ?kr' ?kz' ?kz ?kz1 ?kz2 ?kf ?_; (case k1 => k_asm); (case k2 => k_asm); (case k3 => k_asm); (case k4 => k_asm); (case k5 => k_asm); (case km => k_mem); (case km' => k_mem); (case ki => with_reducible assumption); (case ki' => with_reducible assumption); (case kf => omega); (case kX => k_asm); (case kT => k_asm); (case kK => first | exact rfl | assumption); (case kd => ktr_room); (case ku => ktr_units); (case kr => with_reducible assumption); (case kr' => with_reducible assumption); (case kz => omega); (case kz' => omega); (case kz1 => first | omega | exact (fmod_in (by decide)).1); (case kz2 => first | omega | exact Int.le_trans (Int.le_of_lt (fmod_in (by decide)).2) (by decide)); k_whole); intro t9 h9 tk9 F9 N9; (try dsimp only); (try k_sweep); (try k_fold))
  | (k_dflt (refine' tolde_few ?k1 ?k2 ?k3 ?k4 ?k5 ?kX ?kT ?kK ?kd ?ku ?km ?ki ?kr ?km' ?ki' ?kr' ?kz' ?kz ?kz1 ?kz2 ?kf ?ke ?_; (case k1 => k_asm); (case k2 => k_asm); (case k3 => k_asm); (case k4 => k_asm); (case k5 => k_asm); (case km => k_mem); (case km' => k_mem); (case ki => with_reducible assumption); (case ki' => with_reducible assumption); (case kf => omega); (case ke => with_reducible assumption); (case kX => k_asm); (case kT => k_asm); (case kK => first | exact rfl | assumption); (case kd => ktr_room); (case ku => ktr_units); (case kr => with_reducible assumption); (case kr' => with_reducible assumption); (case kz => omega); (case kz' => omega); (case kz1 => first | omega | exact (fmod_in (by decide)).1); (case kz2 => first | omega | exact Int.le_trans (Int.le_of_lt (fmod_in (by decide)).2) (by decide)); k_whole); intro t9 h9 tk9 F9 N9; (try dsimp only); (try k_sweep); (try k_fold))))
local macro_rules | `(tactic| walk_at "mine:ints") => `(tactic| first | (with_reducible assumption) | exact IntsAre.nil | (refine IntsAre.cons _ _ ?_; walk_at "mine:ints"))
local macro_rules | `(tactic| walk_at "mine:sumz") => `(tactic| ((try simp only [List.length_cons, List.length_nil, List.length_append, List.length_replicate]); omega))
local macro_rules | `(tactic| walk_at "binaryOp Add ref ref") => `(tactic| (k_here; (with_reducible show wpAny _ _ (binaryOp _ (Value.ref _) (Value.ref _)) _ _ _); (with_unfolding_all refine' add_L ?kF ?kN ?ka ?kb ?ki ?kj ?kz ?_; (case kF => k_asm); (case kN => k_asm); (case ka => k_mem); (case kb => k_mem); (case ki => walk_at "mine:ints"); (case kj => walk_at "mine:ints"); (case kz => walk_at "mine:sumz"); k_whole); intro D' us' h' F' N' l1 hI'; (try k_lt l1); (try k_sweep)))
local macro_rules | `(tactic| walk_at "binaryOp Mult ref int") => `(tactic| (k_here; (with_reducible show wpAny _ _ (binaryOp _ (Value.ref _) (Value.int _ _)) _ _ _); (with_unfolding_all refine' mul_L ?kF ?kN ?ka ?kl ?kh ?_; (case kF => k_asm); (case kN => k_asm); (case ka => k_mem); (case kl => omega); (case kh => omega); k_whole); intro D' us' h' F' N' l1 hI'; (try k_lt l1); (try k_sweep)))
local macro_rules | `(tactic| walk_at "compareOp Eq ref ref") => `(tactic| (k_here; (with_reducible show wpAny _ _ (compareOp CmpOp.Eq (Value.ref _) (Value.ref _)) _ _ _); (with_unfolding_all refine' eq_L ?kN ?ka ?kb ?ki ?kj ?ku ?_; (case kN => k_asm); (case ka => k_mem); (case kb => k_mem); (case ki => walk_at "mine:ints"); (case kj => walk_at "mine:ints"); (case ku => units_room); k_whole)))
local macro_rules | `(tactic| walk_at "compareOp NotEq ref ref") => `(tactic| (k_here; (with_reducible show wpAny _ _ (compareOp CmpOp.NotEq (Value.ref _) (Value.ref _)) _ _ _); (with_unfolding_all refine' ne_L ?kN ?ka ?kb ?ki ?kj ?ku ?_; (case kN => k_asm); (case ka => k_mem); (case kb => k_mem); (case ki => walk_at "mine:ints"); (case kj => walk_at "mine:ints"); (case ku => units_room); k_whole)))
theorem split3 {h₀ h : Heap} {L D : Addr} {u r : Str → Option Value} {z : Int} {t : Tok} (_ : Fr h₀ L h (fun y => if y = Str.ofString "k" then u y else if y = Str.ofString "drawn" then some (Value.ref D) else if y = Str.ofString "size" then some (Value.int z t) else r y)) (kl nl : Nat) :
    (¬ (kl : Int) ≤ z - 11) ∨ ((kl : Int) ≤ z - 11 ∧ z - kl - 3 ≤ (nl : Int)) ∨ ((kl : Int) ≤ z - 11 ∧ ¬ z - kl - 3 ≤ (nl : Int)) := by
  omega
theorem splitM {kM : List Int} {v : Int} (_ : (kM.length : Int) = v) {h₀ h : Heap} {L D : Addr} {u r : Str → Option Value} {z : Int} {t : Tok} (F : Fr h₀ L h (fun y => if y = Str.ofString "k" then u y else if y = Str.ofString "drawn" then some (Value.ref D) else if y = Str.ofString "size" then some (Value.int z t) else r y)) (nl : Nat) :
    (¬ (kM.length : Int) ≤ z - 11) ∨ ((kM.length : Int) ≤ z - 11 ∧ z - kM.length - 3 ≤ (nl : Int)) ∨ ((kM.length : Int) ≤ z - 11 ∧ ¬ z - kM.length - 3 ≤ (nl : Int)) := split3 F _ _
theorem law_walk : PySem.Challenge.rw_ys0003_01.Holds := hd (by
  w_top off
  k_go0
  have hMk := kstMark
  (all_goals try k_fold)
  k_steps
  unfold Halt
  rename IsRange _ _ _ _ _ _ _ _ => rgX
  rename Fr _ _ _ _ => lF
  rename News _ _ _ _ => lN
  rename List.length _ ≤ 400 => hle9
  with_unfolding_all
   refine for_oct (by rfl) rgX (small_one (by omega) (by omega) (by omega) (by omega)) (rangeSize_nat _ _) lF lN (by with_reducible assumption) (by with_reducible assumption) ?_ ?_
  · intro pre k t' u h tk own ys1 ks1 hk' hlt hoff hi1 hl1 hb1 F9 N9
    clear lF lN
    simp only [List.cons_append, List.nil_append] at N9
    simp only [List.map_cons, List.map_nil] at hoff
    have hi2 := hi1.length
    (try dsimp only)
    (try k_fold)
    k_steps
    · unfold Halt
      rename Fr _ _ _ _ => nF
      rename News _ _ _ _ => nE
      exact for_oct_end nF nE (by with_reducible assumption) (by rw [List.length_set]; exact hl1) (set_in hb1) (by kst_same)
    · unfold Halt
      rename Fr _ _ _ _ => nF
      rename News _ _ _ _ => nE
      exact for_oct_end nF nE hi1 hl1 hb1 (by kst_same)
  · intro u h tk ys1 ks1 hi1 hl1 hb1 F9 N9
    clear lF lN
    have hi2 := hi1.length
    (try dsimp only)
    (try k_fold)
    have hsz : ys1.toArray.size = ks1.length := by rw [List.size_toArray, hi2]
    have hl4 : (nz ks1).length ≤ ks1.length := List.length_filter_le _ _
    rename (List.length _ : Int) = Int.fmod _ 61 => hlM
    have hsp := splitM hlM F9 (nz ks1).length
    k_steps
    unfold Halt
    refine LCt.ListComp_T (F₀ := by k_asm) (by with_unfolding_all rfl) (by decide) (by rfl) (by decide) (by rfl) ?_
    k_steps
    refine LCt.CompSrcT.ledger (its := ys1.toArray) (by rfl) (by k_asm) (by k_asm) (by k_mem) (by rw [hsz, PySem.sizeLine_eq]; omega) ?_
    intro g
    rw [hsz]
    refine filt_comp (ints_at hi1) (.inr ⟨_, by k_mem, rfl, _, rfl⟩) ?_ ?_
    · intro k2 t2 I2 oI2 C2 oC2 D2 m2 ys2 h2 tk2 E2 hk2 hC2 hx2 F2 N2 off2 ne2
      clear hsp
      (try dsimp only)
      k_steps
      · unfold Halt
        exact LCg.CompEnd.intro (by k_asm) (by k_asm) _ (fun p hp => hp) off2 (.inr ⟨_, by k_mem, rfl, _, rfl⟩) ⟨rfl, by assumption, _, rfl⟩
      · unfold Halt
        exact LCg.CompEnd.intro (by k_asm) (by k_asm) _ (fun p hp => hp) off2 (.inr ⟨_, by k_mem, rfl, _, rfl⟩) ⟨rfl, by assumption⟩
    · intro ys hys
      unfold LCg.FinE
      intro D3 h3 tk3 F3 N3 o3
      change IntsAre ys (nz ks1) at hys
      have hl3 := hys.length
      (try dsimp only)
      rcases hsp with hsp | ⟨hsp, hsq⟩ | ⟨hsp, hsq⟩
      all_goals k_steps)
end
end Mine
set_option maxRecDepth 100000 in
set_option maxHeartbeats 8000000 in
theorem PySem.Challenge.cw_ys0003_01_holds : PySem.Challenge.rw_ys0003_01.Holds := by
  exact Mine.law_walk
