import PyProof.Rows.All
import Wide.All
import OpenK.AllK
import Wide.FinOn
import PySem.Challenge.RW_jv0045_01
open PySem PySem.W PySem.Calls PyProof.Rows
set_option Elab.async false
set_option maxRecDepth 100000
set_option maxHeartbeats 8000000
set_option linter.unusedVariables false
set_option linter.unusedSectionVars false
namespace Mine
open_top hd for PySem.Challenge.rw_jv0045_01
theorem fillNow : (PySem.Challenge.rw_jv0045_01 = PySem.Challenge.rw_jv0045_01) ∧ (Mine.hd.heap_39 = Mine.hd.heap_39) := by
  k_fill
  exact ⟨rfl, rfl⟩
abbrev hs (w : World) (n : Str) : Int := PyData.keyHash w.params n
abbrev OSa : Addr := 110
abbrev LKa : Addr := 31
abbrev setD (w : World) (t1 t2 : Tok) (r md : Addr) : Obj := dictOf [⟨hs w "_root", .str "_root" t1, .ref r⟩, ⟨hs w "_map", .str "_map" t2, .ref md⟩] 2
abbrev lnkD (w : World) (t1 t2 t3 : Tok) (p n k : Value) : Obj := dictOf [⟨hs w "prev", .str "prev" t1, p⟩, ⟨hs w "next", .str "next" t2, n⟩, ⟨hs w "key", .str "key" t3, k⟩] 3

structure Lk where
  a : Addr
  d : Addr
  k : Str
  kt : Tok
  t1 : Tok
  t2 : Tok
  t3 : Tok

def hdA (l : List Lk) (e : Addr) : Addr := match l with | [] => e | x :: _ => x.a
def ltA : List Lk → Addr → Addr
  | [], p => p
  | x :: r, _ => ltA r x.a
def chain (w : World) (e : Addr) : Addr → List Lk → List (Addr × Obj)
  | _, [] => []
  | p, x :: r => (x.a, instObj LKa x.d) :: (x.d, lnkD w x.t1 x.t2 x.t3 (.ref p) (.ref (hdA r e)) (.str x.k x.kt)) :: chain w e x.a r
def chainA : List Lk → List Addr
  | [] => []
  | x :: r => x.a :: x.d :: chainA r
theorem hdA_nil {e : Addr} : hdA [] e = e := rfl
theorem hdA_cons {x : Lk} {r : List Lk} {e : Addr} : hdA (x :: r) e = x.a := rfl
theorem ltA_nil {p : Addr} : ltA [] p = p := rfl
theorem ltA_cons {x : Lk} {r : List Lk} {p : Addr} : ltA (x :: r) p = ltA r x.a := rfl
theorem chain_nil {w : World} {e p : Addr} : chain w e p [] = [] := rfl
theorem chain_cons {w : World} {e p : Addr} {x : Lk} {r : List Lk} : chain w e p (x :: r) = (x.a, instObj LKa x.d) :: (x.d, lnkD w x.t1 x.t2 x.t3 (.ref p) (.ref (hdA r e)) (.str x.k x.kt)) :: chain w e x.a r := rfl
theorem hdA_append {l1 l2 : List Lk} {e : Addr} : hdA (l1 ++ l2) e = hdA l1 (hdA l2 e) := by cases l1 <;> rfl
theorem ltA_append {l1 l2 : List Lk} {p : Addr} : ltA (l1 ++ l2) p = ltA l2 (ltA l1 p) := by
  induction l1 generalizing p with
  | nil => rfl
  | cons x r ih => exact ih
theorem chain_append {w : World} {l1 l2 : List Lk} {p e : Addr} : chain w e p (l1 ++ l2) = chain w (hdA l2 e) p l1 ++ chain w e (ltA l1 p) l2 := by
  induction l1 generalizing p with
  | nil => rfl
  | cons x r ih => simp only [List.cons_append, chain, ltA, ih, hdA_append]
theorem chainA_append {l1 l2 : List Lk} : chainA (l1 ++ l2) = chainA l1 ++ chainA l2 := by
  induction l1 with
  | nil => rfl
  | cons x r ih => simp only [List.cons_append, chainA, ih]
theorem chain_adr {w : World} {l : List Lk} {p e : Addr} : (chain w e p l).map (·.1) = chainA l := by
  induction l generalizing p with
  | nil => rfl
  | cons x r ih => simp only [chain, chainA, List.map_cons, ih]

structure Os where
  o : Addr
  od : Addr
  md : Addr
  r : Addr
  rd : Addr
  om : Obj
  t1 : Tok
  t2 : Tok
  a1 : Tok
  a2 : Tok
  a3 : Tok
  ls : List Lk
def Os.adr (S : Os) : List Addr := S.o :: S.od :: S.md :: S.r :: S.rd :: chainA S.ls
def Os.led (w : World) (S : Os) : List (Addr × Obj) :=
  (S.o, instObj OSa S.od) :: (S.od, setD w S.t1 S.t2 S.r S.md) :: (S.md, S.om) :: (S.r, instObj LKa S.rd) ::
    (S.rd, lnkD w S.a1 S.a2 S.a3 (.ref (ltA S.ls S.r)) (.ref (hdA S.ls S.r)) .none) :: chain w S.r S.r S.ls
theorem Os.led_adr {w : World} {S : Os} : (S.led w).map (·.1) = S.adr := by
  simp only [Os.led, Os.adr, List.map_cons, chain_adr]
def kvsOf (l : List Lk) : List (Str × Value) := l.map fun x => (x.k, .ref x.a)
structure Os.Ok (prog : Program) (w : World) (S : Os) : Prop where
  map : S.om.IsDictOf (strKind prog w) (kvsOf S.ls)
  lo : (S.md == sysModules) = false
  nd : S.adr.Nodup
def SetAt (prog : Program) (w : World) (G : List (Addr × Obj)) (o : Addr) (ks : List Str) : Prop :=
  ∃ S : Os, S.o = o ∧ S.ls.map (·.k) = ks ∧ S.Ok prog w ∧ G = S.led w

def Off (xs ys : List Addr) : Prop := ∀ x ∈ xs, ∀ y ∈ ys, x ≠ y

theorem News.sub {h₀ h : Heap} {L : Addr} {news news' : List (Addr × Obj)} (N : News h₀ L h news) (hs : ∀ p ∈ news', p ∈ news) : News h₀ L h news' := fun p hp => N p (hs p hp)

def AllBelow (d : Addr) (news : List (Addr × Obj)) : Prop := ∀ p ∈ news, p.1 < d
theorem own_ne {d : Addr} {own news : List (Addr × Obj)} (h : AllBelow d news) (hs : ∀ p ∈ own, p ∈ news) : ∀ p ∈ own, p.1 ≠ d := fun p hp => Nat.ne_of_lt (h p (hs p hp))
theorem own_ne' {d x : Addr} {own news : List (Addr × Obj)} (h : AllBelow d news) (e : d < x) (hs : ∀ p ∈ own, p ∈ news) : ∀ p ∈ own, p.1 ≠ x := fun p hp => Nat.ne_of_lt (Nat.lt_trans (h p (hs p hp)) e)

def Stop (P : Prop) : Prop := P
theorem stop_intro {P : Prop} (h : Stop P) : P := h

section SOsGen
local macro_rules | `(tactic| k_room) => `(tactic| (show (_ : Nat) < _; (try simp only [depth_under_make, depth_under_kw, depth_in1, depth_deeper, depth_caller]); (try simp only [show recursionLimit = 1000 from rfl]); omega))
local macro_rules | `(tactic| k_ne) => `(tactic| (refine neN ?_; first | assumption | (refine Ne.symm ?_; assumption) | ((try dsimp only); omega)))
local macro_rules | `(tactic| k_all) => `(tactic| first | exact own_ne (by assumption) (by intro p hp; k_ownIn) | exact own_ne' (by assumption) (by assumption) (by intro p hp; k_ownIn))
local macro_rules | `(tactic| k_all) => `(tactic| exact OwnOff.ne (by assumption) (by k_memK))
local macro_rules | `(tactic| k_all) => `(tactic| (refine' List.forall_mem_cons.mpr ⟨?a, ?b⟩; (case a => k_ne); (case b => k_all)))
local macro_rules | `(tactic| k_lt $h:ident) => `(tactic| (have l0 : AllBelow _ _ := $h; replace $h := allLt_of $h; (try simp only [AllLt, and_true] at $h:ident)))

local macro_rules | `(tactic| k_allIn) => `(tactic| (intro p hp; k_ownIn))
local macro_rules | `(tactic| k_allIn) => `(tactic| (refine List.forall_mem_cons.mpr ⟨by k_memK, ?_⟩; k_allIn))


local macro_rules | `(tactic| k_enter) => `(tactic| (refine' code_def ?k1 ?k2 ?k3 ?k4 ?k5 ?kA ?kF ?kK ?k6 ?k7 ?k8 ?k9 ?kB ?kZ ?c2 ?c3 ?c4 ?c5; (case kA => exact rfl); (case kF => (first | exact rfl | assumption)); (case kK => (first | exact rfl | assumption)); (case k1 => k_asm); (case k2 => k_asm); (case k3 => k_asm); (case k4 => k_asm); (case k5 => k_asm); (case k6 => k_is); (case k7 => k_is); (case k8 => k_room); (case k9 => (first | exact BindsTo.of_eq rfl | exact binds_K (by k_in) rfl (by k_is) rfl rfl rfl)); (case c5 => decide); (case kB => exact locs rfl); (case c2 => exact rfl); (case c3 => exact rfl); (case c4 => exact rfl); k_whole; intro g' L' h' FG' F' N' B' X' T'; (try dsimp only); (try k_fold)))

local macro_rules | `(tactic| walk_at "call ref") => `(tactic| ((with_reducible first | (show wpAny _ _ (call (Value.ref 57) _ _) _ _ _) | (show wpAny _ _ (call (Value.ref 64) _ _) _ _ _) | (show wpAny _ _ (call (Value.ref 71) _ _) _ _ _) | (show wpAny _ _ (call (Value.ref 78) _ _) _ _ _) | (show wpAny _ _ (call (Value.ref 100) _ _) _ _ _) | (show wpAny _ _ (call (Value.ref 107) _ _) _ _ _) | (show wpAny _ _ (call (Value.ref 110) _ _) _ _ _)); refine stop_intro ?_))
local macro_rules | `(tactic| walk_at "exec For") => `(tactic| refine stop_intro ?_)
local macro_rules | `(tactic| walk_at "exec For Name") => `(tactic| refine stop_intro ?_)
local macro_rules | `(tactic| walk_at "exec For Name Name") => `(tactic| refine stop_intro ?_)
local macro_rules | `(tactic| walk_at "exec For Name Name cons") => `(tactic| refine stop_intro ?_)
local macro_rules | `(tactic| walk_at "exec For Name Name cons nil") => `(tactic| refine stop_intro ?_)
local macro_rules | `(tactic| walk_at "exec For Name Subscript cons nil") => `(tactic| refine stop_intro ?_)
def genEnd (C : Addr) : GenEnd := fun n s₀ r s₁ => r = .ok (.ret .none) ∧ (n = 0 ∧ GenSince C [] s₀ s₁)
def genY (C : Addr) (fp : List Addr) (ls : List Lk) : Protocol := fun m s₀ v s kap =>
  (∃ x, ls[ls.length - 1 - m]? = some x ∧ v = .str x.k x.kt) ∧ GenSince C [] s₀ s ∧ (∃ o, s.heap.get? C = some o) ∧
    ∀ s'' : Shared, (∀ b ∈ fp, ∀ o, s.heap.get? b = some o → s''.heap.get? b = some o) → kap (.send .none) s''

theorem seg_iterLoop {prog : Program} {w : World} {A : Around} {test e : Expr} {st : Stmt} {ypos pos : Pos} {env : Env} {fs : List Frame} {C r : Addr} {ls : List Lk} {fp : List Addr} {Good : Heap → Addr → Prop}
    (stab : ∀ H H' cur, Good H cur → (∀ b ∈ fp, ∀ o, H.get? b = some o → H'.get? b = some o) → Good H' cur)
    (htest : ∀ (A' : Around) E cur (s : Shared), Good s.heap cur → wpAny (model prog w) A' (isTrue test env (eval test env)) (fun b s' => b = decide (cur ≠ r) ∧ ∃ tk, s' = { s with toks := tk }) E s)
    (hkey : ∀ (A' : Around) E x done rest (s : Shared), ls = done ++ x :: rest → Good s.heap x.a → wpAny (model prog w) A' (eval e env) (fun v s' => v = .str x.k x.kt ∧ ∃ tk, s' = { s with toks := tk }) E s)
    (hstep : ∀ (A' : Around) E x done rest (s : Shared), ls = done ++ x :: rest → Good s.heap x.a → wpAny (model prog w) A' (exec st env) (fun f s' => f = .next ∧ ∃ h' tk, s' = { s with heap := h', toks := tk } ∧ Good h' (hdA rest r) ∧ ∀ b o, b ≠ C → s.heap.get? b = some o → h'.get? b = some o) E s)
    (hCo : ∀ H cur, Good H cur → ∃ o, H.get? C = some o) (hrne : ∀ x ∈ ls, x.a ≠ r) (hfs : splitAtGen fs = none) (hfg : fs.any Frame.guarded = false) (hco : env.scope.isCoroutine = false) (hi : interactive env = false)
    (fin : ∀ s₀ s, GenSince C [] s₀ s → Seg (model prog w) A (genEnd C) (genY C fp ls) 0 s₀ (.whileLoop test [.Expr (.Yield (some e) ypos) pos, st] [] env) (.pure (.done .next)) fs s) :
    ∀ rest done s₀ s, ls = done ++ rest → Good s.heap (hdA rest r) → GenSince C [] s₀ s →
      Seg (model prog w) A (genEnd C) (genY C fp ls) rest.length s₀ (.whileLoop test [.Expr (.Yield (some e) ypos) pos, st] [] env) ((model prog w).den (.whileLoop test [.Expr (.Yield (some e) ypos) pos, st] [] env)) fs s := by
  intro rest
  induction rest with
  | nil =>
    intro done s₀ s hls hg hs
    refine seg_whileLoop (wpAny_mono (htest _ _ _ s hg) (fun b s' hb => ?_) fun _ _ x => x)
    obtain ⟨rfl, tk, rfl⟩ := hb
    rw [hdA_nil, if_neg (by simp)]
    refine seg_execs_nil (fin s₀ _ ?_)
    obtain ⟨h', tk', rfl, hk⟩ := hs
    exact ⟨h', tk, rfl, hk⟩
  | cons x rest ih =>
    intro done s₀ s hls hg hs
    have hx : x.a ≠ r := hrne x (by rw [hls]; simp)
    rw [hdA_cons] at hg
    refine seg_whileLoop (wpAny_mono (htest _ _ _ s hg) (fun b s' hb => ?_) fun _ _ x => x)
    obtain ⟨rfl, tk, rfl⟩ := hb
    rw [decide_eq_true hx, if_pos rfl]
    refine seg_execs_cons ?_
    refine seg_Expr_Yield hfs rfl hfg (wpAny_mono (hkey _ _ x done rest _ hls hg) (fun v s' hv => ?_) fun _ _ x => x) hco hi
    obtain ⟨rfl, tk', rfl⟩ := hv
    intro kap hkap
    refine ⟨⟨x, ?_, rfl⟩, ?_, hCo _ _ hg, fun s'' hal => hkap .none s'' ?_⟩
    · rw [hls, List.length_append, List.length_cons]
      have e : done.length + (rest.length + 1) - 1 - rest.length = done.length := by omega
      rw [e, List.getElem?_append_right (Nat.le_refl _), Nat.sub_self]
      rfl
    · obtain ⟨h', tk₁, rfl, hk⟩ := hs
      exact ⟨h', tk', rfl, hk⟩
    · show Seg _ _ _ _ _ _ _ ((execs [st] env).wrap _ _ _ _) _ _
      have hg' := stab _ s''.heap _ hg hal
      refine seg_execs_cons (seg_wrap (wpAny_mono (hstep _ _ x done rest s'' hls hg') (fun f s₃ hf => ?_) fun _ _ x => x))
      obtain ⟨rfl, h', tk'', rfl, hg'', hk''⟩ := hf
      refine seg_execs_nil ?_
      refine seg_again rfl ?_
      exact ih (done ++ [x]) s'' _ (by rw [hls]; simp) hg'' ⟨h', tk'', rfl, fun b o hb _ e => hk'' b o hb e⟩

end SOsGen
section SOsGen2
local macro_rules | `(tactic| k_room) => `(tactic| (show (_ : Nat) < _; (try simp only [depth_under_make, depth_under_kw, depth_in1, depth_deeper, depth_caller]); (try simp only [show recursionLimit = 1000 from rfl]); omega))
local macro_rules | `(tactic| k_ne) => `(tactic| (refine neN ?_; first | assumption | (refine Ne.symm ?_; assumption) | ((try dsimp only); omega)))
local macro_rules | `(tactic| k_all) => `(tactic| first | exact own_ne (by assumption) (by intro p hp; k_ownIn) | exact own_ne' (by assumption) (by assumption) (by intro p hp; k_ownIn))
local macro_rules | `(tactic| k_all) => `(tactic| exact OwnOff.ne (by assumption) (by k_memK))
local macro_rules | `(tactic| k_all) => `(tactic| (refine' List.forall_mem_cons.mpr ⟨?a, ?b⟩; (case a => k_ne); (case b => k_all)))
local macro_rules | `(tactic| k_lt $h:ident) => `(tactic| (have l0 : AllBelow _ _ := $h; replace $h := allLt_of $h; (try simp only [AllLt, and_true] at $h:ident)))

local macro_rules | `(tactic| k_allIn) => `(tactic| (intro p hp; k_ownIn))
local macro_rules | `(tactic| k_allIn) => `(tactic| (refine List.forall_mem_cons.mpr ⟨by k_memK, ?_⟩; k_allIn))


local macro_rules | `(tactic| k_enter) => `(tactic| (refine' code_def ?k1 ?k2 ?k3 ?k4 ?k5 ?kA ?kF ?kK ?k6 ?k7 ?k8 ?k9 ?kB ?kZ ?c2 ?c3 ?c4 ?c5; (case kA => exact rfl); (case kF => (first | exact rfl | assumption)); (case kK => (first | exact rfl | assumption)); (case k1 => k_asm); (case k2 => k_asm); (case k3 => k_asm); (case k4 => k_asm); (case k5 => k_asm); (case k6 => k_is); (case k7 => k_is); (case k8 => k_room); (case k9 => (first | exact BindsTo.of_eq rfl | exact binds_K (by k_in) rfl (by k_is) rfl rfl rfl)); (case c5 => decide); (case kB => exact locs rfl); (case c2 => exact rfl); (case c3 => exact rfl); (case c4 => exact rfl); k_whole; intro g' L' h' FG' F' N' B' X' T'; (try dsimp only); (try k_fold)))

local macro_rules | `(tactic| walk_at "call ref") => `(tactic| ((with_reducible first | (show wpAny _ _ (call (Value.ref 57) _ _) _ _ _) | (show wpAny _ _ (call (Value.ref 64) _ _) _ _ _) | (show wpAny _ _ (call (Value.ref 71) _ _) _ _ _) | (show wpAny _ _ (call (Value.ref 78) _ _) _ _ _) | (show wpAny _ _ (call (Value.ref 100) _ _) _ _ _) | (show wpAny _ _ (call (Value.ref 107) _ _) _ _ _) | (show wpAny _ _ (call (Value.ref 110) _ _) _ _ _)); refine stop_intro ?_))
local macro_rules | `(tactic| walk_at "exec For") => `(tactic| refine stop_intro ?_)
local macro_rules | `(tactic| walk_at "exec For Name") => `(tactic| refine stop_intro ?_)
local macro_rules | `(tactic| walk_at "exec For Name Name") => `(tactic| refine stop_intro ?_)
local macro_rules | `(tactic| walk_at "exec For Name Name cons") => `(tactic| refine stop_intro ?_)
local macro_rules | `(tactic| walk_at "exec For Name Name cons nil") => `(tactic| refine stop_intro ?_)
local macro_rules | `(tactic| walk_at "exec For Name Subscript cons nil") => `(tactic| refine stop_intro ?_)
section
variable {prog : Program} {w : World} {A : Around} {E : Value → Shared → Prop} {s : Shared}

theorem stopNow {α : Type} {Q : α → Shared → Prop} {s₁ : Shared} {e' : Value → Shared → Prop} (hh : A.handled = none)
    (h : ∀ x h', (∀ b o, s₁.heap.get? b = some o → h'.get? b = some o) → (∃ o, h'.get? x = some o ∧ o.cls = .type "StopIteration") → e' (.ref x) { s₁ with heap := h' }) :
    wpAny (model prog w) A (newExc (.type "StopIteration") [] >>= fun v => (raiseNew v : Sem α)) Q e' s₁ := by
  refine wpAny_bind ?_
  simp only [newExc, newTuple]
  refine wpAny_bind (wpAny_newObj_type ?_ (by size_fits))
  refine wpAny_bind (m := firstArgMember _ _) (wpAny_of_eq (a := Value.none) (by first | rfl | (simp only [firstArgMember]; rfl)) ?_)
  refine wpAny_newObj_type ?_ (by size_fits)
  simp only [raiseNew]
  refine wpAny_bind (wpAny_bind (wpAny_handled ?_))
  rw [hh]
  refine wpAny_pure ?_
  refine wpAny_throw ?_
  exact h _ _ (fun b o hb => Heap.get?_push_of_some _ (Heap.get?_push_of_some _ hb)) ⟨_, Heap.get?_push_size _ rfl, rfl⟩

theorem bindOf {α β : Type} {M : Model} {m : Sem α} {f : α → Sem β} {k : β → Sem Fin} {Q : Fin → Shared → Prop} (h : wpAny M A (m >>= f) (fun a s' => wpAny M A (k a) Q E s') E s) : wpAny M A (m >>= fun a => f a >>= k) Q E s := by
  have := wpAny_bind (f := k) h
  rwa [bind_assoc] at this

theorem next_genO {I : Addr} {g n : Nat} {gs : GenState} {P : Nat → Shared → Shared → Prop} {Y : Protocol} {Q : Option Value → Shared → Prop} (hh : A.handled = none)
    (hl : s.heap.NoLimit) (hroom : A.depth < recursionLimit) (hg : s.heap.IsGen I g) (hgs : s.gens[g]? = some gs)
    (hgo : gs.Goes (model prog w) A.in1 (fun n s₀ r s₁ => r = .ok (.ret .none) ∧ P n s₀ s₁) Y n (.send .none) (s.setGen g .running))
    (hY : ∀ v s₁ gs', gs'.bare = true → Y (n - 1) (s.setGen g .running) v s₁ (fun r' s'' => match n with
        | 0 => False
        | m + 1 => gs'.Goes (model prog w) A.in1 (fun n s₀ r s₁ => r = .ok (.ret .none) ∧ P n s₀ s₁) Y m r' s'') → Q (some v) (s₁.setGen g gs'))
    (hP : ∀ s₁, P n (s.setGen g .running) s₁ → ∀ h', (∀ b o, s₁.heap.get? b = some o → h'.get? b = some o) → Q none { s₁.setGen g .finished with heap := h' }) :
    wpAny (model prog w) A (pyNext (.ref I)) Q E s := by
  unfold pyNext
  refine wpAny_bind (wpAny_attempt (wpAny_callSpecial?_slot (name := Str.ofString "__next__") hg.typeIs slot_gen_next
    (wpAny_call_entry slot_gen_next hg.typeIs entry_gen_next ?_ (args_gen_next _))))
  show wpAny _ A.in1 (Builtin.Generator.genWake (.ref I) (.send .none)) _ _ s
  unfold Builtin.Generator.genWake
  refine wpAny_bind (wpAny_holding (wpAny_genNumber hg (wpAny_bind (wpAny_genState hgs ?_))))
  have go : wpAny (model prog w) A.in1 (roomToWake >>= fun _ => resume g (.send .none)) (fun x s' => match x with
      | .yielded v => Q (some v) s'
      | .returned v => v = .none ∧ ∀ h', (∀ b o, s'.heap.get? b = some o → h'.get? b = some o) → Q none { s' with heap := h' }
      | _ => False) (fun _ _ => False) s := by
    refine wpAny_bind (wpAny_roomToWake hl hroom ?_)
    show wpAny _ A.in1 (.resume g (.send .none) [] _) _ _ s
    refine wpAny_resumeQ hgs hgo (fun x s₁ hx => ?_) (fun v s₁ gs' hb hv => ?_)
    · obtain ⟨rfl, hp⟩ := hx
      exact wpAny_pure ⟨rfl, hP s₁ hp⟩
    · exact wpAny_pure (hY v s₁ gs' hb hv)
  have fin : ∀ (K : GenResult → Sem Fin), (∀ v, K (.yielded v) = ret v) →
      (∀ (Q' : Fin → Shared → Prop) E' s', (∀ x h', (∀ b o, s'.heap.get? b = some o → h'.get? b = some o) → (∃ o, h'.get? x = some o ∧ o.cls = .type "StopIteration") → E' (.ref x) { s' with heap := h' }) → wpAny (model prog w) A.in1 (K (.returned .none)) Q' E' s') →
      wpAny (model prog w) A.in1 ((roomToWake >>= fun _ => resume g (.send .none)) >>= K)
        (fun fin s' => ∃ v, fin = .done (.ret v) ∧ wpAny (model prog w) A (match (Except.ok (some v) : Except Value (Option Value)) with
            | .ok (some v) => pure (some v)
            | .ok none => unsupported "iter:the-iterator's-class-has-lost-its-__next__-amid-the-walk"
            | .error e => do if ← isInstance e (.type "StopIteration") then pure none else throw e) Q E s')
        (fun e s' => wpAny (model prog w) A (match (Except.error e : Except Value (Option Value)) with
            | .ok (some v) => pure (some v)
            | .ok none => unsupported "iter:the-iterator's-class-has-lost-its-__next__-amid-the-walk"
            | .error e => do if ← isInstance e (.type "StopIteration") then pure none else throw e) Q E s') s := by
    intro K h1 h2
    refine wpAny_bind (wpAny_mono go (fun x s' hx => ?_) fun _ _ z => z.elim)
    cases x with
    | yielded v => rw [h1]; exact wpAny_pure ⟨v, rfl, wpAny_pure hx⟩
    | returned v =>
      obtain ⟨rfl, hx⟩ := hx
      refine h2 _ _ _ fun x h' hk ho => ?_
      refine wpAny_bind (wpAny_isInstance (T := "StopIteration") (b := true) ho isSubtype_stop ?_)
      exact wpAny_pure (hx h' hk)
    | _ => exact hx.elim
  have last : ∀ (K : GenResult → Sem Fin), (∀ v, K (.yielded v) = ret v) →
      (∀ (Q' : Fin → Shared → Prop) E' s', (∀ x h', (∀ b o, s'.heap.get? b = some o → h'.get? b = some o) → (∃ o, h'.get? x = some o ∧ o.cls = .type "StopIteration") → E' (.ref x) { s' with heap := h' }) → wpAny (model prog w) A.in1 (K (.returned .none)) Q' E' s') →
      wpAny (model prog w) A.in1 (roomToWake >>= fun _ => resume g (.send .none) >>= K)
        (fun fin s' => ∃ v, fin = .done (.ret v) ∧ wpAny (model prog w) A (match (Except.ok (some v) : Except Value (Option Value)) with
            | .ok (some v) => pure (some v)
            | .ok none => unsupported "iter:the-iterator's-class-has-lost-its-__next__-amid-the-walk"
            | .error e => do if ← isInstance e (.type "StopIteration") then pure none else throw e) Q E s')
        (fun e s' => wpAny (model prog w) A (match (Except.error e : Except Value (Option Value)) with
            | .ok (some v) => pure (some v)
            | .ok none => unsupported "iter:the-iterator's-class-has-lost-its-__next__-amid-the-walk"
            | .error e => do if ← isInstance e (.type "StopIteration") then pure none else throw e) Q E s') s := by
    intro K h1 h2
    have := fin K h1 h2
    intro Γ p hΓ
    have := this Γ p hΓ
    simp only [Sem.wp_bind'] at this ⊢
    exact this
  cases gs with
  | running => exact hgo.elim
  | finished => exact hgo.elim
  | fresh c =>
    refine last _ (fun _ => rfl) fun Q' E' s' h => ?_
    exact bindOf (stopNow hh h)
  | suspended k l c p fs cl =>
    refine last _ (fun _ => rfl) fun Q' E' s' h => ?_
    exact bindOf (stopNow hh h)
end

def GenAtO (prog : Program) (w : World) (A : Around) (I : Addr) (g : Nat) (C : Addr) (fp : List Addr) (ls : List Lk) (j : Nat) (s : Shared) : Prop :=
  (∀ b ∈ I :: fp, ∃ o, s.heap.get? b = some o) ∧ s.heap.IsGen I g ∧ s.heap.NoLimit ∧ ∃ gs, s.gens[g]? = some gs ∧ ∀ s'' : Shared, (∀ b ∈ fp, ∀ o, s.heap.get? b = some o → s''.heap.get? b = some o) →
    gs.Goes (model prog w) A.in1 (genEnd C) (genY C fp ls) (ls.length - j) (.send .none) s''

theorem walks_gen {prog : Program} {w : World} {A : Around} {I : Addr} {g : Nat} {C : Addr} {fp : List Addr} {ls : List Lk} (hh : A.handled = none) (hroom : A.depth < recursionLimit)
    (hC : C ∈ fp) (hcs : cStatics ∈ fp) (hIC : I ≠ C) (hcC : cStatics ≠ C) :
    WalksS prog w A I (I :: fp) [C] (GenOnlyQ g) ls.length (fun j v => ∃ x, ls[j]? = some x ∧ v = .str x.k x.kt) (GenAtO prog w A I g C fp ls) where
  sub := fun b hb => by rw [List.mem_singleton.mp hb]; exact List.mem_cons_of_mem _ hC
  grefl := fun _ => .inl rfl
  gtrans := fun _ _ _ x y => x.trans y
  frame := fun j s h' tk st _ hk =>
    ⟨fun b hb => let ⟨o, e⟩ := st.1 b hb; ⟨o, hk b hb o e⟩, let ⟨o, nm, qn, ho, r⟩ := st.2.1; ⟨o, nm, qn, hk I (List.mem_cons_self ..) o ho, r⟩,
     (let ⟨mc, hns, hnn⟩ := st.2.2.1; ⟨mc, hns.at' fun o e => hk cStatics (List.mem_cons_of_mem _ hcs) o e, hnn⟩),
     let ⟨gs, hgs, hgo⟩ := st.2.2.2; ⟨gs, hgs, fun s'' hal => hgo s'' fun b hb o e => hal b hb o (hk b (List.mem_cons_of_mem _ hb) o e)⟩⟩
  self := fun _ _ _ _ st hQ => wpAny_pyIter_gen st.2.1 hQ
  item := fun j s Q E hj st hQ => by
    obtain ⟨hob, hg, hl, gs, hgs, hgo⟩ := st
    obtain ⟨m, hm⟩ : ∃ m, ls.length - j = m + 1 := ⟨ls.length - j - 1, by omega⟩
    rw [hm] at hgo
    refine wpAny_with_toks (Nat.le_refl s.toks) ?_
    refine next_genO (P := fun n s₀ s₁ => n = 0 ∧ GenSince C [] s₀ s₁) hh hl hroom hg hgs (hgo _ fun _ _ _ e => e) (fun v s₁ gs' hb hv => ?_) (fun s₁ hp h' hk => absurd hp.1 (Nat.succ_ne_zero m))
    obtain ⟨⟨x, hx, rfl⟩, ⟨h₁, tk₁, rfl, hk₁⟩, hCo, hkap⟩ := hv
    have hidx : ls.length - 1 - (m + 1 - 1) = j := by omega
    rw [hidx] at hx
    intro htk
    refine hQ _ _ ⟨x, hx, rfl⟩ ⟨fun b hb => by
      by_cases e : b = C
      · rw [e]; exact hCo
      · obtain ⟨o, ho⟩ := hob b hb
        exact ⟨o, hk₁ b o e (by simp) ho⟩, let ⟨o, nm, qn, ho, r⟩ := hg; ⟨o, nm, qn, hk₁ I o hIC (by simp) ho, r⟩, (let ⟨mc, hns, hnn⟩ := hl; ⟨mc, hns.at' fun o e => hk₁ cStatics o hcC (by simp) e, hnn⟩), gs', setGen_self (gs := .running) (setGen_self hgs), fun s'' hal => ?_⟩
      ⟨fun b o hb e => hk₁ b o (fun h => hb (h ▸ List.mem_cons_self ..)) (by simp) e, GenOnlyQ.of ((GenOnly.setGen s g .running).trans (GenOnly.setGen _ g gs')) (setGen_self (gs := .running) (setGen_self hgs)) hb, rfl, rfl, htk⟩
    have e : ls.length - (j + 1) = m := by omega
    rw [e]
    exact hkap s'' hal
  done := fun s Q E st hQ => by
    obtain ⟨hob, hg, hl, gs, hgs, hgo⟩ := st
    rw [Nat.sub_self] at hgo
    refine wpAny_with_toks (Nat.le_refl s.toks) ?_
    refine next_genO (P := fun n s₀ s₁ => n = 0 ∧ GenSince C [] s₀ s₁) hh hl hroom hg hgs (hgo _ fun _ _ _ e => e) (fun v s₁ gs' hb hv => ?_) (fun s₁ hp h' hk => ?_)
    · obtain ⟨_, _, _, hkap⟩ := hv
      exact False.elim (hkap s₁ fun _ _ _ e => e)
    · obtain ⟨_, h₁, tk₁, rfl, hk₁⟩ := hp
      intro htk
      exact hQ _ ⟨fun b o hb e => hk b o (hk₁ b o (fun h => hb (h ▸ List.mem_cons_self ..)) (by simp) e), GenOnlyQ.of ((GenOnly.setGen s g .running).trans (GenOnly.setGen _ g .finished)) (setGen_self (gs := .running) (setGen_self hgs)) rfl, rfl, rfl, htk⟩

end SOsGen2
section SOsAdd
local macro_rules | `(tactic| k_room) => `(tactic| (show (_ : Nat) < _; (try simp only [depth_under_make, depth_under_kw, depth_in1, depth_deeper, depth_caller]); (try simp only [show recursionLimit = 1000 from rfl]); omega))
local macro_rules | `(tactic| k_ne) => `(tactic| (refine neN ?_; first | assumption | (refine Ne.symm ?_; assumption) | ((try dsimp only); omega)))
local macro_rules | `(tactic| k_all) => `(tactic| first | exact own_ne (by assumption) (by intro p hp; k_ownIn) | exact own_ne' (by assumption) (by assumption) (by intro p hp; k_ownIn))
local macro_rules | `(tactic| k_all) => `(tactic| exact OwnOff.ne (by assumption) (by k_memK))
local macro_rules | `(tactic| k_all) => `(tactic| (refine' List.forall_mem_cons.mpr ⟨?a, ?b⟩; (case a => k_ne); (case b => k_all)))
local macro_rules | `(tactic| k_lt $h:ident) => `(tactic| (have l0 : AllBelow _ _ := $h; replace $h := allLt_of $h; (try simp only [AllLt, and_true] at $h:ident)))

local macro_rules | `(tactic| k_allIn) => `(tactic| (intro p hp; k_ownIn))
local macro_rules | `(tactic| k_allIn) => `(tactic| (refine List.forall_mem_cons.mpr ⟨by k_memK, ?_⟩; k_allIn))


local macro_rules | `(tactic| k_enter) => `(tactic| (refine' code_def ?k1 ?k2 ?k3 ?k4 ?k5 ?kA ?kF ?kK ?k6 ?k7 ?k8 ?k9 ?kB ?kZ ?c2 ?c3 ?c4 ?c5; (case kA => exact rfl); (case kF => (first | exact rfl | assumption)); (case kK => (first | exact rfl | assumption)); (case k1 => k_asm); (case k2 => k_asm); (case k3 => k_asm); (case k4 => k_asm); (case k5 => k_asm); (case k6 => k_is); (case k7 => k_is); (case k8 => k_room); (case k9 => (first | exact BindsTo.of_eq rfl | exact binds_K (by k_in) rfl (by k_is) rfl rfl rfl)); (case c5 => decide); (case kB => exact locs rfl); (case c2 => exact rfl); (case c3 => exact rfl); (case c4 => exact rfl); k_whole; intro g' L' h' FG' F' N' B' X' T'; (try dsimp only); (try k_fold)))

local macro_rules | `(tactic| walk_at "call ref") => `(tactic| ((with_reducible first | (show wpAny _ _ (call (Value.ref 57) _ _) _ _ _) | (show wpAny _ _ (call (Value.ref 64) _ _) _ _ _) | (show wpAny _ _ (call (Value.ref 71) _ _) _ _ _) | (show wpAny _ _ (call (Value.ref 78) _ _) _ _ _) | (show wpAny _ _ (call (Value.ref 100) _ _) _ _ _) | (show wpAny _ _ (call (Value.ref 107) _ _) _ _ _) | (show wpAny _ _ (call (Value.ref 110) _ _) _ _ _)); refine stop_intro ?_))
local macro_rules | `(tactic| walk_at "exec For") => `(tactic| refine stop_intro ?_)
local macro_rules | `(tactic| walk_at "exec For Name") => `(tactic| refine stop_intro ?_)
local macro_rules | `(tactic| walk_at "exec For Name Name") => `(tactic| refine stop_intro ?_)
local macro_rules | `(tactic| walk_at "exec For Name Name cons") => `(tactic| refine stop_intro ?_)
local macro_rules | `(tactic| walk_at "exec For Name Name cons nil") => `(tactic| refine stop_intro ?_)
local macro_rules | `(tactic| walk_at "exec For Name Subscript cons nil") => `(tactic| refine stop_intro ?_)
section
variable {prog : Program} {w : World} {A₀ : Around} {base h₀ : Heap} {outer : List Env} {env : Env} {L : Addr} {m mg mb : Str → Option Value} {p : Program} {loose : List Str} {mean : ExcName → Option Value} {s : Shared} {E : Value → Shared → Prop} {Q : Value → Shared → Prop}
    {u : Nat} {gs : Option (List Code)} {dp : Nat} {own : List (Addr × Obj)} {o od md r rd : Addr} {om : Obj} {kvs : List (Str × Value)} {t1 t2 a1 a2 a3 kt : Tok} {k : Str}
variable (B : Below A₀ base outer h₀) (F : Fr h₀ L s.heap m) (KX : (Mine.hd.heap_39 w.params).In h₀) (T : Top p loose mean mg mb h₀) (hf : env.frame = some L) (hke : env.scope.kind = .function) (hdp : dp < 500)
include B F KX T hf hke hdp

theorem add_more {l ld : Addr} {b1 b2 b3 : Tok} {rn lp lk : Value}
    (N : News h₀ L s.heap ((o, instObj OSa od) :: (od, setD w t1 t2 r md) :: (md, om) :: (r, instObj LKa rd) :: (rd, lnkD w a1 a2 a3 (.ref l) rn .none) :: (l, instObj LKa ld) :: (ld, lnkD w b1 b2 b3 lp (.ref r) lk) :: own))
    (hmd : om.IsDictOf (strKind prog w) kvs) (hk : valueAt kvs k = none) (lo : (md == sysModules) = false) (hsz : kvs.length ≤ 1000)
    (hnd : [o, od, md, r, rd, l, ld].Nodup) (hoff : OwnOff own [o, od, md, r, rd, l, ld])
    (hQ : ∀ h' tk om' x d c1 c2 c3, om'.IsDictOf (strKind prog w) (stored kvs k (.ref x)) → AllBelow d ((o, instObj OSa od) :: (od, setD w t1 t2 r md) :: (md, om) :: (r, instObj LKa rd) :: (rd, lnkD w a1 a2 a3 (.ref l) rn .none) :: (l, instObj LKa ld) :: (ld, lnkD w b1 b2 b3 lp (.ref r) lk) :: own) → d < x → Fr h₀ L h' m →
      News h₀ L h' ((o, instObj OSa od) :: (od, setD w t1 t2 r md) :: (md, om') :: (r, instObj LKa rd) :: (rd, lnkD w a1 a2 a3 (.ref x) rn .none) :: (l, instObj LKa ld) :: (ld, lnkD w b1 b2 b3 lp (.ref x) lk) :: (x, instObj LKa d) :: (d, lnkD w c1 c2 c3 (.ref l) (.ref r) (.str k kt)) :: own) → Q .none { s with heap := h', toks := tk })
    : wpAny (model prog w) ⟨none, dp, some (env :: outer), gs, u⟩ (call (.ref 71) [.ref o, .str k kt]) Q E s := by
  simp only [List.nodup_cons, List.mem_cons, List.not_mem_nil, or_false, not_or, not_false_eq_true, List.nodup_nil, and_true] at hnd
  obtain ⟨⟨n1, n2, n3, n4, n5, n6⟩, ⟨n7, n8, n9, n10, n11⟩, ⟨n12, n13, n14, n15⟩, ⟨n16, n17, n18⟩, ⟨n19, n20⟩, n21⟩ := hnd
  refine wpAny_call ?_
  k_enter
  k_steps
  refine kdg_notin (knd := PySem.strKind _ _) (by k_asm) (by k_mem) (by k_asm) (by k_asm) (strKind_is _ _ _ _) false (by rw [hk]; rfl) ?_
  k_steps
  refine' kda_set (knd := PySem.strKind _ _) ?F ?N ?U ?d (strKind_is _ _ _ _) ?z ?_
  case F => k_asm
  case N => k_asm
  case U => k_updF
  case d => k_asm
  case z => rw [sizeLine_eq]; omega
  intro h' o' F' N' hd'
  try dsimp only at N'
  k_steps
  rename News _ _ _ _ => kN
  rename AllBelow _ _ => l0
  exact hQ _ _ _ _ _ _ _ _ hd' l0 (by assumption) (by assumption) (News.sub kN (by k_allIn))

theorem add_first 
    (N : News h₀ L s.heap ((o, instObj OSa od) :: (od, setD w t1 t2 r md) :: (md, om) :: (r, instObj LKa rd) :: (rd, lnkD w a1 a2 a3 (.ref r) (.ref r) .none) :: own))
    (hmd : om.IsDictOf (strKind prog w) kvs) (hk : valueAt kvs k = none) (lo : (md == sysModules) = false) (hsz : kvs.length ≤ 1000)
    (hnd : [o, od, md, r, rd].Nodup) (hoff : OwnOff own [o, od, md, r, rd])
    (hQ : ∀ h' tk om' x d c1 c2 c3, om'.IsDictOf (strKind prog w) (stored kvs k (.ref x)) → AllBelow d ((o, instObj OSa od) :: (od, setD w t1 t2 r md) :: (md, om) :: (r, instObj LKa rd) :: (rd, lnkD w a1 a2 a3 (.ref r) (.ref r) .none) :: own) → d < x → Fr h₀ L h' m →
      News h₀ L h' ((o, instObj OSa od) :: (od, setD w t1 t2 r md) :: (md, om') :: (r, instObj LKa rd) :: (rd, lnkD w a1 a2 a3 (.ref x) (.ref x) .none) :: (x, instObj LKa d) :: (d, lnkD w c1 c2 c3 (.ref r) (.ref r) (.str k kt)) :: own) → Q .none { s with heap := h', toks := tk })
    : wpAny (model prog w) ⟨none, dp, some (env :: outer), gs, u⟩ (call (.ref 71) [.ref o, .str k kt]) Q E s := by
  simp only [List.nodup_cons, List.mem_cons, List.not_mem_nil, or_false, not_or, not_false_eq_true, List.nodup_nil, and_true] at hnd
  obtain ⟨⟨n1, n2, n3, n4⟩, ⟨n5, n6, n7⟩, ⟨n8, n9⟩, n10⟩ := hnd
  refine wpAny_call ?_
  k_enter
  k_steps
  refine kdg_notin (knd := PySem.strKind _ _) (by k_asm) (by k_mem) (by k_asm) (by k_asm) (strKind_is _ _ _ _) false (by rw [hk]; rfl) ?_
  k_steps
  refine' kda_set (knd := PySem.strKind _ _) ?F ?N ?U ?d (strKind_is _ _ _ _) ?z ?_
  case F => k_asm
  case N => k_asm
  case U => k_updF
  case d => k_asm
  case z => rw [sizeLine_eq]; omega
  intro h' o' F' N' hd'
  try dsimp only at N'
  k_steps
  rename News _ _ _ _ => kN
  rename AllBelow _ _ => l0
  exact hQ _ _ _ _ _ _ _ _ hd' l0 (by assumption) (by assumption) (News.sub kN (by k_allIn))

theorem add_held {v : Value}
    (N : News h₀ L s.heap ((o, instObj OSa od) :: (od, setD w t1 t2 r md) :: (md, om) :: own))
    (hmd : om.IsDictOf (strKind prog w) kvs) (hk : valueAt kvs k = some v) (lo : (md == sysModules) = false)
    (hQ : ∀ h' tk, Fr h₀ L h' m → News h₀ L h' ((o, instObj OSa od) :: (od, setD w t1 t2 r md) :: (md, om) :: own) → Q .none { s with heap := h', toks := tk })
    : wpAny (model prog w) ⟨none, dp, some (env :: outer), gs, u⟩ (call (.ref 71) [.ref o, .str k kt]) Q E s := by
  refine wpAny_call ?_
  k_enter
  k_steps
  refine kdg_notin (knd := PySem.strKind _ _) (by k_asm) (by k_mem) (by k_asm) (by k_asm) (strKind_is _ _ _ _) true (by rw [hk]; rfl) ?_
  k_steps
  rename News _ _ _ _ => kN
  exact hQ _ _ (by assumption) kN

theorem disc_absent
    (N : News h₀ L s.heap ((o, instObj OSa od) :: (od, setD w t1 t2 r md) :: (md, om) :: own))
    (hmd : om.IsDictOf (strKind prog w) kvs) (hk : valueAt kvs k = none) (lo : (md == sysModules) = false)
    (hQ : ∀ h' tk, Fr h₀ L h' m → News h₀ L h' ((o, instObj OSa od) :: (od, setD w t1 t2 r md) :: (md, om) :: own) → Q .none { s with heap := h', toks := tk })
    : wpAny (model prog w) ⟨none, dp, some (env :: outer), gs, u⟩ (call (.ref 78) [.ref o, .str k kt]) Q E s := by
  refine wpAny_call ?_
  k_enter
  k_steps
  refine kda_in (knd := PySem.strKind _ _) (by k_asm) (by k_mem) (by k_asm) (by k_asm) (strKind_is _ _ _ _) false (by rw [hk]; rfl) ?_
  k_steps
  rename News _ _ _ _ => kN
  exact hQ _ _ (by assumption) kN

theorem len_at
    (N : News h₀ L s.heap ((o, instObj OSa od) :: (od, setD w t1 t2 r md) :: (md, om) :: own))
    (hmd : om.IsDictOf (strKind prog w) kvs) (lo : (md == sysModules) = false) (hsz : kvs.length ≤ 1000)
    (hQ : ∀ h' tk t, Fr h₀ L h' m → News h₀ L h' ((o, instObj OSa od) :: (od, setD w t1 t2 r md) :: (md, om) :: own) → Q (.int kvs.length t) { s with heap := h', toks := tk })
    : wpAny (model prog w) ⟨none, dp, some (env :: outer), gs, u⟩ (call (.ref 57) [.ref o]) Q E s := by
  refine wpAny_call ?_
  k_enter
  k_steps
  refine kda_len (knd := PySem.strKind _ _) (by k_asm) (by k_mem) (by k_asm) (by k_asm) (by omega) ?_
  k_steps
  rename News _ _ _ _ => kN
  exact hQ _ _ _ (by assumption) kN

theorem has_at
    (N : News h₀ L s.heap ((o, instObj OSa od) :: (od, setD w t1 t2 r md) :: (md, om) :: own))
    (hmd : om.IsDictOf (strKind prog w) kvs) (lo : (md == sysModules) = false)
    (hQ : ∀ h' tk, Fr h₀ L h' m → News h₀ L h' ((o, instObj OSa od) :: (od, setD w t1 t2 r md) :: (md, om) :: own) → Q (.bool (valueAt kvs k).isSome) { s with heap := h', toks := tk })
    : wpAny (model prog w) ⟨none, dp, some (env :: outer), gs, u⟩ (call (.ref 64) [.ref o, .str k kt]) Q E s := by
  refine wpAny_call ?_
  k_enter
  k_steps
  refine kda_in (knd := PySem.strKind _ _) (by k_asm) (by k_mem) (by k_asm) (by k_asm) (strKind_is _ _ _ _) _ rfl ?_
  k_steps
  rename News _ _ _ _ => kN
  exact hQ _ _ (by assumption) kN

end

end SOsAdd
section SOsDisc
local macro_rules | `(tactic| k_room) => `(tactic| (show (_ : Nat) < _; (try simp only [depth_under_make, depth_under_kw, depth_in1, depth_deeper, depth_caller]); (try simp only [show recursionLimit = 1000 from rfl]); omega))
local macro_rules | `(tactic| k_ne) => `(tactic| (refine neN ?_; first | assumption | (refine Ne.symm ?_; assumption) | ((try dsimp only); omega)))
local macro_rules | `(tactic| k_all) => `(tactic| first | exact own_ne (by assumption) (by intro p hp; k_ownIn) | exact own_ne' (by assumption) (by assumption) (by intro p hp; k_ownIn))
local macro_rules | `(tactic| k_all) => `(tactic| exact OwnOff.ne (by assumption) (by k_memK))
local macro_rules | `(tactic| k_all) => `(tactic| (refine' List.forall_mem_cons.mpr ⟨?a, ?b⟩; (case a => k_ne); (case b => k_all)))
local macro_rules | `(tactic| k_lt $h:ident) => `(tactic| (have l0 : AllBelow _ _ := $h; replace $h := allLt_of $h; (try simp only [AllLt, and_true] at $h:ident)))

local macro_rules | `(tactic| k_allIn) => `(tactic| (intro p hp; k_ownIn))
local macro_rules | `(tactic| k_allIn) => `(tactic| (refine List.forall_mem_cons.mpr ⟨by k_memK, ?_⟩; k_allIn))


local macro_rules | `(tactic| k_enter) => `(tactic| (refine' code_def ?k1 ?k2 ?k3 ?k4 ?k5 ?kA ?kF ?kK ?k6 ?k7 ?k8 ?k9 ?kB ?kZ ?c2 ?c3 ?c4 ?c5; (case kA => exact rfl); (case kF => (first | exact rfl | assumption)); (case kK => (first | exact rfl | assumption)); (case k1 => k_asm); (case k2 => k_asm); (case k3 => k_asm); (case k4 => k_asm); (case k5 => k_asm); (case k6 => k_is); (case k7 => k_is); (case k8 => k_room); (case k9 => (first | exact BindsTo.of_eq rfl | exact binds_K (by k_in) rfl (by k_is) rfl rfl rfl)); (case c5 => decide); (case kB => exact locs rfl); (case c2 => exact rfl); (case c3 => exact rfl); (case c4 => exact rfl); k_whole; intro g' L' h' FG' F' N' B' X' T'; (try dsimp only); (try k_fold)))

local macro_rules | `(tactic| walk_at "call ref") => `(tactic| ((with_reducible first | (show wpAny _ _ (call (Value.ref 57) _ _) _ _ _) | (show wpAny _ _ (call (Value.ref 64) _ _) _ _ _) | (show wpAny _ _ (call (Value.ref 71) _ _) _ _ _) | (show wpAny _ _ (call (Value.ref 78) _ _) _ _ _) | (show wpAny _ _ (call (Value.ref 100) _ _) _ _ _) | (show wpAny _ _ (call (Value.ref 107) _ _) _ _ _) | (show wpAny _ _ (call (Value.ref 110) _ _) _ _ _)); refine stop_intro ?_))
local macro_rules | `(tactic| walk_at "exec For") => `(tactic| refine stop_intro ?_)
local macro_rules | `(tactic| walk_at "exec For Name") => `(tactic| refine stop_intro ?_)
local macro_rules | `(tactic| walk_at "exec For Name Name") => `(tactic| refine stop_intro ?_)
local macro_rules | `(tactic| walk_at "exec For Name Name cons") => `(tactic| refine stop_intro ?_)
local macro_rules | `(tactic| walk_at "exec For Name Name cons nil") => `(tactic| refine stop_intro ?_)
local macro_rules | `(tactic| walk_at "exec For Name Subscript cons nil") => `(tactic| refine stop_intro ?_)
section
variable {prog : Program} {w : World} {A₀ : Around} {base h₀ : Heap} {outer : List Env} {env : Env} {L : Addr} {m mg mb : Str → Option Value} {p : Program} {loose : List Str} {mean : ExcName → Option Value} {s : Shared} {E : Value → Shared → Prop} {Q : Value → Shared → Prop}
    {u : Nat} {gs : Option (List Code)} {dp : Nat} {own : List (Addr × Obj)} {o od md r rd : Addr} {om : Obj} {kvs : List (Str × Value)} {t1 t2 a1 a2 a3 kt : Tok} {k : Str}
variable (B : Below A₀ base outer h₀) (F : Fr h₀ L s.heap m) (KX : (Mine.hd.heap_39 w.params).In h₀) (T : Top p loose mean mg mb h₀) (hf : env.frame = some L) (hke : env.scope.kind = .function) (hdp : dp < 500)
include B F KX T hf hke hdp

theorem disc_RR {a d : Addr} {b1 b2 b3 : Tok} {vk : Value} 
    (N : News h₀ L s.heap ((o, instObj OSa od) :: (od, setD w t1 t2 r md) :: (md, om) :: (r, instObj LKa rd) :: (rd, lnkD w a1 a2 a3 (.ref a) (.ref a) .none) :: (a, instObj LKa d) :: (d, lnkD w b1 b2 b3 (.ref r) (.ref r) vk) :: own))
    (hmd : om.IsDictOf (strKind prog w) kvs) (hk : valueAt kvs k = some (.ref a)) (lo : (md == sysModules) = false) (hsz : kvs.length ≤ 1000)
    (hnd : [o, od, md, r, rd, a, d].Nodup) (hoff : OwnOff own [o, od, md, r, rd, a, d])
    (hQ : ∀ h' tk om', om'.IsDictOf (strKind prog w) (without kvs k) → Fr h₀ L h' m →
      News h₀ L h' ((o, instObj OSa od) :: (od, setD w t1 t2 r md) :: (md, om') :: (r, instObj LKa rd) :: (rd, lnkD w a1 a2 a3 (.ref r) (.ref r) .none) :: own) → Q .none { s with heap := h', toks := tk })
    : wpAny (model prog w) ⟨none, dp, some (env :: outer), gs, u⟩ (call (.ref 78) [.ref o, .str k kt]) Q E s := by
  simp only [List.nodup_cons, List.mem_cons, List.not_mem_nil, or_false, not_or, not_false_eq_true, List.nodup_nil, and_true] at hnd
  obtain ⟨⟨n1, n2, n3, n4, n5, n6⟩, ⟨n7, n8, n9, n10, n11⟩, ⟨n12, n13, n14, n15⟩, ⟨n16, n17, n18⟩, ⟨n19, n20⟩, n21⟩ := hnd
  refine wpAny_call ?_
  k_enter
  k_steps
  refine kda_in (knd := PySem.strKind _ _) (by k_asm) (by k_mem) (by k_asm) (by k_asm) (strKind_is _ _ _ _) true (by rw [hk]; rfl) ?_
  k_steps
  refine' kob_pop (knd := PySem.strKind _ _) (more := []) ?F ?N ?U ?d (strKind_is _ _ _ _) (.inl rfl) (by rfl) (PySem.F.args_dict_pop_2 _ _) hk ?z ?_
  case F => k_asm
  case N => k_asm
  case U => k_updF
  case d => k_asm
  case z => rw [sizeLine_eq]; omega
  intro h' o' F' N' hd'
  try dsimp only at N'
  k_steps
  rename News _ _ _ _ => kN
  exact hQ _ _ _ hd' (by assumption) (News.sub kN (by k_allIn))

theorem disc_RN {a d : Addr} {b1 b2 b3 : Tok} {vk : Value} {q qd : Addr} {c1 c2 c3 : Tok} {rp qn qk : Value}
    (N : News h₀ L s.heap ((o, instObj OSa od) :: (od, setD w t1 t2 r md) :: (md, om) :: (r, instObj LKa rd) :: (rd, lnkD w a1 a2 a3 rp (.ref a) .none) :: (a, instObj LKa d) :: (d, lnkD w b1 b2 b3 (.ref r) (.ref q) vk) :: (q, instObj LKa qd) :: (qd, lnkD w c1 c2 c3 (.ref a) qn qk) :: own))
    (hmd : om.IsDictOf (strKind prog w) kvs) (hk : valueAt kvs k = some (.ref a)) (lo : (md == sysModules) = false) (hsz : kvs.length ≤ 1000)
    (hnd : [o, od, md, r, rd, a, d, q, qd].Nodup) (hoff : OwnOff own [o, od, md, r, rd, a, d, q, qd])
    (hQ : ∀ h' tk om', om'.IsDictOf (strKind prog w) (without kvs k) → Fr h₀ L h' m →
      News h₀ L h' ((o, instObj OSa od) :: (od, setD w t1 t2 r md) :: (md, om') :: (r, instObj LKa rd) :: (rd, lnkD w a1 a2 a3 rp (.ref q) .none) :: (q, instObj LKa qd) :: (qd, lnkD w c1 c2 c3 (.ref r) qn qk) :: own) → Q .none { s with heap := h', toks := tk })
    : wpAny (model prog w) ⟨none, dp, some (env :: outer), gs, u⟩ (call (.ref 78) [.ref o, .str k kt]) Q E s := by
  simp only [List.nodup_cons, List.mem_cons, List.not_mem_nil, or_false, not_or, not_false_eq_true, List.nodup_nil, and_true] at hnd
  obtain ⟨⟨n1, n2, n3, n4, n5, n6, n7, n8⟩, ⟨n9, n10, n11, n12, n13, n14, n15⟩, ⟨n16, n17, n18, n19, n20, n21⟩, ⟨n22, n23, n24, n25, n26⟩, ⟨n27, n28, n29, n30⟩, ⟨n31, n32, n33⟩, ⟨n34, n35⟩, n36⟩ := hnd
  refine wpAny_call ?_
  k_enter
  k_steps
  refine kda_in (knd := PySem.strKind _ _) (by k_asm) (by k_mem) (by k_asm) (by k_asm) (strKind_is _ _ _ _) true (by rw [hk]; rfl) ?_
  k_steps
  refine' kob_pop (knd := PySem.strKind _ _) (more := []) ?F ?N ?U ?d (strKind_is _ _ _ _) (.inl rfl) (by rfl) (PySem.F.args_dict_pop_2 _ _) hk ?z ?_
  case F => k_asm
  case N => k_asm
  case U => k_updF
  case d => k_asm
  case z => rw [sizeLine_eq]; omega
  intro h' o' F' N' hd'
  try dsimp only at N'
  k_steps
  rename News _ _ _ _ => kN
  exact hQ _ _ _ hd' (by assumption) (News.sub kN (by k_allIn))

end

end SOsDisc
section SOsDisc2
local macro_rules | `(tactic| k_room) => `(tactic| (show (_ : Nat) < _; (try simp only [depth_under_make, depth_under_kw, depth_in1, depth_deeper, depth_caller]); (try simp only [show recursionLimit = 1000 from rfl]); omega))
local macro_rules | `(tactic| k_ne) => `(tactic| (refine neN ?_; first | assumption | (refine Ne.symm ?_; assumption) | ((try dsimp only); omega)))
local macro_rules | `(tactic| k_all) => `(tactic| first | exact own_ne (by assumption) (by intro p hp; k_ownIn) | exact own_ne' (by assumption) (by assumption) (by intro p hp; k_ownIn))
local macro_rules | `(tactic| k_all) => `(tactic| exact OwnOff.ne (by assumption) (by k_memK))
local macro_rules | `(tactic| k_all) => `(tactic| (refine' List.forall_mem_cons.mpr ⟨?a, ?b⟩; (case a => k_ne); (case b => k_all)))
local macro_rules | `(tactic| k_lt $h:ident) => `(tactic| (have l0 : AllBelow _ _ := $h; replace $h := allLt_of $h; (try simp only [AllLt, and_true] at $h:ident)))

local macro_rules | `(tactic| k_allIn) => `(tactic| (intro p hp; k_ownIn))
local macro_rules | `(tactic| k_allIn) => `(tactic| (refine List.forall_mem_cons.mpr ⟨by k_memK, ?_⟩; k_allIn))


local macro_rules | `(tactic| k_enter) => `(tactic| (refine' code_def ?k1 ?k2 ?k3 ?k4 ?k5 ?kA ?kF ?kK ?k6 ?k7 ?k8 ?k9 ?kB ?kZ ?c2 ?c3 ?c4 ?c5; (case kA => exact rfl); (case kF => (first | exact rfl | assumption)); (case kK => (first | exact rfl | assumption)); (case k1 => k_asm); (case k2 => k_asm); (case k3 => k_asm); (case k4 => k_asm); (case k5 => k_asm); (case k6 => k_is); (case k7 => k_is); (case k8 => k_room); (case k9 => (first | exact BindsTo.of_eq rfl | exact binds_K (by k_in) rfl (by k_is) rfl rfl rfl)); (case c5 => decide); (case kB => exact locs rfl); (case c2 => exact rfl); (case c3 => exact rfl); (case c4 => exact rfl); k_whole; intro g' L' h' FG' F' N' B' X' T'; (try dsimp only); (try k_fold)))

local macro_rules | `(tactic| walk_at "call ref") => `(tactic| ((with_reducible first | (show wpAny _ _ (call (Value.ref 57) _ _) _ _ _) | (show wpAny _ _ (call (Value.ref 64) _ _) _ _ _) | (show wpAny _ _ (call (Value.ref 71) _ _) _ _ _) | (show wpAny _ _ (call (Value.ref 78) _ _) _ _ _) | (show wpAny _ _ (call (Value.ref 100) _ _) _ _ _) | (show wpAny _ _ (call (Value.ref 107) _ _) _ _ _) | (show wpAny _ _ (call (Value.ref 110) _ _) _ _ _)); refine stop_intro ?_))
local macro_rules | `(tactic| walk_at "exec For") => `(tactic| refine stop_intro ?_)
local macro_rules | `(tactic| walk_at "exec For Name") => `(tactic| refine stop_intro ?_)
local macro_rules | `(tactic| walk_at "exec For Name Name") => `(tactic| refine stop_intro ?_)
local macro_rules | `(tactic| walk_at "exec For Name Name cons") => `(tactic| refine stop_intro ?_)
local macro_rules | `(tactic| walk_at "exec For Name Name cons nil") => `(tactic| refine stop_intro ?_)
local macro_rules | `(tactic| walk_at "exec For Name Subscript cons nil") => `(tactic| refine stop_intro ?_)
section
variable {prog : Program} {w : World} {A₀ : Around} {base h₀ : Heap} {outer : List Env} {env : Env} {L : Addr} {m mg mb : Str → Option Value} {p : Program} {loose : List Str} {mean : ExcName → Option Value} {s : Shared} {E : Value → Shared → Prop} {Q : Value → Shared → Prop}
    {u : Nat} {gs : Option (List Code)} {dp : Nat} {own : List (Addr × Obj)} {o od md r rd : Addr} {om : Obj} {kvs : List (Str × Value)} {t1 t2 a1 a2 a3 kt : Tok} {k : Str}
variable (B : Below A₀ base outer h₀) (F : Fr h₀ L s.heap m) (KX : (Mine.hd.heap_39 w.params).In h₀) (T : Top p loose mean mg mb h₀) (hf : env.frame = some L) (hke : env.scope.kind = .function) (hdp : dp < 500)
include B F KX T hf hke hdp

theorem disc_PR {a d : Addr} {b1 b2 b3 : Tok} {vk : Value} {q qd : Addr} {c1 c2 c3 : Tok} {rn qp qk : Value}
    (N : News h₀ L s.heap ((o, instObj OSa od) :: (od, setD w t1 t2 r md) :: (md, om) :: (r, instObj LKa rd) :: (rd, lnkD w a1 a2 a3 (.ref a) rn .none) :: (q, instObj LKa qd) :: (qd, lnkD w c1 c2 c3 qp (.ref a) qk) :: (a, instObj LKa d) :: (d, lnkD w b1 b2 b3 (.ref q) (.ref r) vk) :: own))
    (hmd : om.IsDictOf (strKind prog w) kvs) (hk : valueAt kvs k = some (.ref a)) (lo : (md == sysModules) = false) (hsz : kvs.length ≤ 1000)
    (hnd : [o, od, md, r, rd, a, d, q, qd].Nodup) (hoff : OwnOff own [o, od, md, r, rd, a, d, q, qd])
    (hQ : ∀ h' tk om', om'.IsDictOf (strKind prog w) (without kvs k) → Fr h₀ L h' m →
      News h₀ L h' ((o, instObj OSa od) :: (od, setD w t1 t2 r md) :: (md, om') :: (r, instObj LKa rd) :: (rd, lnkD w a1 a2 a3 (.ref q) rn .none) :: (q, instObj LKa qd) :: (qd, lnkD w c1 c2 c3 qp (.ref r) qk) :: own) → Q .none { s with heap := h', toks := tk })
    : wpAny (model prog w) ⟨none, dp, some (env :: outer), gs, u⟩ (call (.ref 78) [.ref o, .str k kt]) Q E s := by
  simp only [List.nodup_cons, List.mem_cons, List.not_mem_nil, or_false, not_or, not_false_eq_true, List.nodup_nil, and_true] at hnd
  obtain ⟨⟨n1, n2, n3, n4, n5, n6, n7, n8⟩, ⟨n9, n10, n11, n12, n13, n14, n15⟩, ⟨n16, n17, n18, n19, n20, n21⟩, ⟨n22, n23, n24, n25, n26⟩, ⟨n27, n28, n29, n30⟩, ⟨n31, n32, n33⟩, ⟨n34, n35⟩, n36⟩ := hnd
  refine wpAny_call ?_
  k_enter
  k_steps
  refine kda_in (knd := PySem.strKind _ _) (by k_asm) (by k_mem) (by k_asm) (by k_asm) (strKind_is _ _ _ _) true (by rw [hk]; rfl) ?_
  k_steps
  refine' kob_pop (knd := PySem.strKind _ _) (more := []) ?F ?N ?U ?d (strKind_is _ _ _ _) (.inl rfl) (by rfl) (PySem.F.args_dict_pop_2 _ _) hk ?z ?_
  case F => k_asm
  case N => k_asm
  case U => k_updF
  case d => k_asm
  case z => rw [sizeLine_eq]; omega
  intro h' o' F' N' hd'
  try dsimp only at N'
  k_steps
  rename News _ _ _ _ => kN
  exact hQ _ _ _ hd' (by assumption) (News.sub kN (by k_allIn))

theorem disc_PN {a d : Addr} {b1 b2 b3 : Tok} {vk : Value} {q qd v vd : Addr} {c1 c2 c3 d1 d2 d3 : Tok} {rp rn qp qk vn vkk : Value}
    (N : News h₀ L s.heap ((o, instObj OSa od) :: (od, setD w t1 t2 r md) :: (md, om) :: (r, instObj LKa rd) :: (rd, lnkD w a1 a2 a3 rp rn .none) :: (q, instObj LKa qd) :: (qd, lnkD w c1 c2 c3 qp (.ref a) qk) :: (a, instObj LKa d) :: (d, lnkD w b1 b2 b3 (.ref q) (.ref v) vk) :: (v, instObj LKa vd) :: (vd, lnkD w d1 d2 d3 (.ref a) vn vkk) :: own))
    (hmd : om.IsDictOf (strKind prog w) kvs) (hk : valueAt kvs k = some (.ref a)) (lo : (md == sysModules) = false) (hsz : kvs.length ≤ 1000)
    (hnd : [o, od, md, r, rd, a, d, q, qd, v, vd].Nodup) (hoff : OwnOff own [o, od, md, r, rd, a, d, q, qd, v, vd])
    (hQ : ∀ h' tk om', om'.IsDictOf (strKind prog w) (without kvs k) → Fr h₀ L h' m →
      News h₀ L h' ((o, instObj OSa od) :: (od, setD w t1 t2 r md) :: (md, om') :: (r, instObj LKa rd) :: (rd, lnkD w a1 a2 a3 rp rn .none) :: (q, instObj LKa qd) :: (qd, lnkD w c1 c2 c3 qp (.ref v) qk) :: (v, instObj LKa vd) :: (vd, lnkD w d1 d2 d3 (.ref q) vn vkk) :: own) → Q .none { s with heap := h', toks := tk })
    : wpAny (model prog w) ⟨none, dp, some (env :: outer), gs, u⟩ (call (.ref 78) [.ref o, .str k kt]) Q E s := by
  simp only [List.nodup_cons, List.mem_cons, List.not_mem_nil, or_false, not_or, not_false_eq_true, List.nodup_nil, and_true] at hnd
  obtain ⟨⟨n1, n2, n3, n4, n5, n6, n7, n8, n9, n10⟩, ⟨n11, n12, n13, n14, n15, n16, n17, n18, n19⟩, ⟨n20, n21, n22, n23, n24, n25, n26, n27⟩, ⟨n28, n29, n30, n31, n32, n33, n34⟩, ⟨n35, n36, n37, n38, n39, n40⟩, ⟨n41, n42, n43, n44, n45⟩, ⟨n46, n47, n48, n49⟩, ⟨n50, n51, n52⟩, ⟨n53, n54⟩, n55⟩ := hnd
  refine wpAny_call ?_
  k_enter
  k_steps
  refine kda_in (knd := PySem.strKind _ _) (by k_asm) (by k_mem) (by k_asm) (by k_asm) (strKind_is _ _ _ _) true (by rw [hk]; rfl) ?_
  k_steps
  refine' kob_pop (knd := PySem.strKind _ _) (more := []) ?F ?N ?U ?d (strKind_is _ _ _ _) (.inl rfl) (by rfl) (PySem.F.args_dict_pop_2 _ _) hk ?z ?_
  case F => k_asm
  case N => k_asm
  case U => k_updF
  case d => k_asm
  case z => rw [sizeLine_eq]; omega
  intro h' o' F' N' hd'
  try dsimp only at N'
  k_steps
  rename News _ _ _ _ => kN
  exact hQ _ _ _ hd' (by assumption) (News.sub kN (by k_allIn))

end

end SOsDisc2
section SOsCt
local macro_rules | `(tactic| k_room) => `(tactic| (show (_ : Nat) < _; (try simp only [depth_under_make, depth_under_kw, depth_in1, depth_deeper, depth_caller]); (try simp only [show recursionLimit = 1000 from rfl]); omega))
local macro_rules | `(tactic| k_ne) => `(tactic| (refine neN ?_; first | assumption | (refine Ne.symm ?_; assumption) | ((try dsimp only); omega)))
local macro_rules | `(tactic| k_all) => `(tactic| first | exact own_ne (by assumption) (by intro p hp; k_ownIn) | exact own_ne' (by assumption) (by assumption) (by intro p hp; k_ownIn))
local macro_rules | `(tactic| k_all) => `(tactic| exact OwnOff.ne (by assumption) (by k_memK))
local macro_rules | `(tactic| k_all) => `(tactic| (refine' List.forall_mem_cons.mpr ⟨?a, ?b⟩; (case a => k_ne); (case b => k_all)))
local macro_rules | `(tactic| k_lt $h:ident) => `(tactic| (have l0 : AllBelow _ _ := $h; replace $h := allLt_of $h; (try simp only [AllLt, and_true] at $h:ident)))

local macro_rules | `(tactic| k_allIn) => `(tactic| (intro p hp; k_ownIn))
local macro_rules | `(tactic| k_allIn) => `(tactic| (refine List.forall_mem_cons.mpr ⟨by k_memK, ?_⟩; k_allIn))


local macro_rules | `(tactic| k_enter) => `(tactic| (refine' code_def ?k1 ?k2 ?k3 ?k4 ?k5 ?kA ?kF ?kK ?k6 ?k7 ?k8 ?k9 ?kB ?kZ ?c2 ?c3 ?c4 ?c5; (case kA => exact rfl); (case kF => (first | exact rfl | assumption)); (case kK => (first | exact rfl | assumption)); (case k1 => k_asm); (case k2 => k_asm); (case k3 => k_asm); (case k4 => k_asm); (case k5 => k_asm); (case k6 => k_is); (case k7 => k_is); (case k8 => k_room); (case k9 => (first | exact BindsTo.of_eq rfl | exact binds_K (by k_in) rfl (by k_is) rfl rfl rfl)); (case c5 => decide); (case kB => exact locs rfl); (case c2 => exact rfl); (case c3 => exact rfl); (case c4 => exact rfl); k_whole; intro g' L' h' FG' F' N' B' X' T'; (try dsimp only); (try k_fold)))

local macro_rules | `(tactic| walk_at "call ref") => `(tactic| ((with_reducible first | (show wpAny _ _ (call (Value.ref 57) _ _) _ _ _) | (show wpAny _ _ (call (Value.ref 64) _ _) _ _ _) | (show wpAny _ _ (call (Value.ref 71) _ _) _ _ _) | (show wpAny _ _ (call (Value.ref 78) _ _) _ _ _) | (show wpAny _ _ (call (Value.ref 100) _ _) _ _ _) | (show wpAny _ _ (call (Value.ref 107) _ _) _ _ _) | (show wpAny _ _ (call (Value.ref 110) _ _) _ _ _)); refine stop_intro ?_))
local macro_rules | `(tactic| walk_at "exec For") => `(tactic| refine stop_intro ?_)
local macro_rules | `(tactic| walk_at "exec For Name") => `(tactic| refine stop_intro ?_)
local macro_rules | `(tactic| walk_at "exec For Name Name") => `(tactic| refine stop_intro ?_)
local macro_rules | `(tactic| walk_at "exec For Name Name cons") => `(tactic| refine stop_intro ?_)
local macro_rules | `(tactic| walk_at "exec For Name Name cons nil") => `(tactic| refine stop_intro ?_)
local macro_rules | `(tactic| walk_at "exec For Name Subscript cons nil") => `(tactic| refine stop_intro ?_)
theorem ownOff_led {w : World} {S : Os} {adr : List Addr} : OwnOff (S.led w) adr ↔ Off S.adr adr := by
  rw [← Os.led_adr (w := w)]
  simp only [OwnOff, Off, List.mem_map, forall_exists_index, and_imp, forall_apply_eq_imp_iff₂]
theorem ownOff_chain {w : World} {e p : Addr} {l : List Lk} {adr : List Addr} : OwnOff (chain w e p l) adr ↔ Off (chainA l) adr := by
  rw [← chain_adr (w := w) (e := e) (p := p)]
  simp only [OwnOff, Off, List.mem_map, forall_exists_index, and_imp, forall_apply_eq_imp_iff₂]
theorem ownOff_append {a b : List (Addr × Obj)} {adr : List Addr} : OwnOff (a ++ b) adr ↔ OwnOff a adr ∧ OwnOff b adr := by
  simp only [OwnOff, List.forall_mem_append]
theorem off_symm {xs ys : List Addr} (h : Off xs ys) : Off ys xs := fun x hx y hy e => h y hy x hx e.symm
theorem ownOff_of_off {pre : List (Addr × Obj)} {adr : List Addr} (h : Off adr (pre.map (·.1))) : OwnOff pre adr :=
  fun p hp b hb e => h b hb p.1 (List.mem_map_of_mem hp) e.symm
theorem off_sub {xs xs' ys : List Addr} (h : Off xs ys) (hs : ∀ x ∈ xs', x ∈ xs) : Off xs' ys := fun x hx => h x (hs x hx)

theorem kvsOf_map {l : List Lk} : (kvsOf l).map (·.1) = l.map (·.k) := by simp [kvsOf]
theorem kvsOf_length {l : List Lk} : (kvsOf l).length = l.length := by simp [kvsOf]
theorem kvsOf_append {l1 l2 : List Lk} : kvsOf (l1 ++ l2) = kvsOf l1 ++ kvsOf l2 := by simp [kvsOf]
theorem valueAt_none {kvs : List (Str × Value)} {k : Str} (h : k ∉ kvs.map (·.1)) : valueAt kvs k = none := by
  unfold valueAt
  rw [Option.map_eq_none_iff, List.find?_eq_none]
  intro x hx e
  exact h (List.mem_map.mpr ⟨x, hx, of_decide_eq_true e⟩)
theorem valueAt_some {kvs : List (Str × Value)} {k : Str} (h : k ∈ kvs.map (·.1)) : ∃ v, valueAt kvs k = some v := by
  unfold valueAt
  obtain ⟨x, hx, e⟩ := List.mem_map.mp h
  cases q : kvs.find? (fun kv => decide (kv.1 = k)) with
  | some y => exact ⟨y.2, rfl⟩
  | none => exact absurd (decide_eq_true e) (List.find?_eq_none.mp q x hx)
theorem stored_new {kvs : List (Str × Value)} {k : Str} {v : Value} (h : k ∉ kvs.map (·.1)) : stored kvs k v = kvs ++ [(k, v)] := by
  unfold stored
  rw [if_neg]
  intro e
  obtain ⟨x, hx, e⟩ := List.any_eq_true.mp e
  exact h (List.mem_map.mpr ⟨x, hx, of_decide_eq_true e⟩)
theorem keys_nodup {prog : Program} {w : World} {om : Obj} {kvs : List (Str × Value)} (h : om.IsDictOf (strKind prog w) kvs) : (kvs.map (·.1)).Nodup := by
  obtain ⟨_, _, _, _, _, _, h⟩ := h
  exact h
theorem SetAt.nodup {prog : Program} {w : World} {G : List (Addr × Obj)} {o : Addr} {ks : List Str} (h : SetAt prog w G o ks) : ks.Nodup := by
  obtain ⟨S, _, rfl, ok, _⟩ := h
  rw [← kvsOf_map]
  exact keys_nodup ok.map

theorem mem_more {α : Type} {e1 e2 e3 e4 e5 e6 e7 e8 e9 : α} {c pre post : List α} : ∀ p ∈ pre ++ ((e1 :: e2 :: e3 :: e4 :: e5 :: (c ++ [e6, e7, e8, e9])) ++ post), p ∈ e1 :: e2 :: e3 :: e4 :: e5 :: e6 :: e7 :: e8 :: e9 :: (c ++ (pre ++ post)) := by
  intro p
  simp only [List.mem_append, List.mem_cons, List.not_mem_nil, or_false]
  grind
theorem mem_first {α : Type} {e1 e2 e3 e4 e5 : α} {pre post : List α} : ∀ p ∈ e1 :: e2 :: e3 :: e4 :: e5 :: (pre ++ post), p ∈ pre ++ ((e1 :: e2 :: e3 :: e4 :: e5 :: []) ++ post) := by
  intro p
  simp only [List.mem_append, List.mem_cons, List.not_mem_nil, or_false]
  grind
theorem mem_first' {α : Type} {e1 e2 e3 e4 e5 e6 e7 : α} {pre post : List α} : ∀ p ∈ pre ++ ((e1 :: e2 :: e3 :: e4 :: e5 :: e6 :: e7 :: []) ++ post), p ∈ e1 :: e2 :: e3 :: e4 :: e5 :: e6 :: e7 :: (pre ++ post) := by
  intro p
  simp only [List.mem_append, List.mem_cons, List.not_mem_nil, or_false]
  grind
theorem mem_more' {α : Type} {e1 e2 e3 e4 e5 e6 e7 : α} {c pre post : List α} : ∀ p ∈ e1 :: e2 :: e3 :: e4 :: e5 :: e6 :: e7 :: (c ++ (pre ++ post)), p ∈ pre ++ ((e1 :: e2 :: e3 :: e4 :: e5 :: (c ++ [e6, e7])) ++ post) := by
  intro p
  simp only [List.mem_append, List.mem_cons, List.not_mem_nil, or_false]
  grind

section
variable {prog : Program} {w : World} {A₀ : Around} {base h₀ : Heap} {outer : List Env} {env : Env} {L : Addr} {m mg mb : Str → Option Value} {p : Program} {loose : List Str} {mean : ExcName → Option Value} {s : Shared} {E : Value → Shared → Prop} {Q : Value → Shared → Prop}
    {u : Nat} {gs : Option (List Code)} {dp : Nat} {pre post G : List (Addr × Obj)} {o : Addr} {ks : List Str} {kt : Tok} {k : Str}
variable (B : Below A₀ base outer h₀) (F : Fr h₀ L s.heap m) (KX : (Mine.hd.heap_39 w.params).In h₀) (T : Top p loose mean mg mb h₀) (hf : env.frame = some L) (hke : env.scope.kind = .function) (hdp : dp < 500)
include B F KX T hf hke hdp

theorem add_ct (N : News h₀ L s.heap (pre ++ (G ++ post))) (hG : SetAt prog w G o ks) (hlen : ks.length ≤ 100) (hoff : OwnOff G ((pre ++ post).map (·.1)))
    (hQ : ∀ h' tk G', SetAt prog w G' o (if k ∈ ks then ks else ks ++ [k]) → OwnOff G' ((pre ++ post).map (·.1)) → Fr h₀ L h' m → News h₀ L h' (pre ++ (G' ++ post)) → Q .none { s with heap := h', toks := tk }) :
    wpAny (model prog w) ⟨none, dp, some (env :: outer), gs, u⟩ (call (.ref 71) [.ref o, .str k kt]) Q E s := by
  obtain ⟨S, rfl, rfl, ok, rfl⟩ := hG
  obtain ⟨o, od, md, r, rd, om, t1, t2, a1, a2, a3, ls⟩ := S
  obtain ⟨hmap, lo, nd⟩ := ok
  rw [ownOff_led] at hoff
  dsimp only at hmap lo nd hoff hQ hlen ⊢
  rw [List.length_map] at hlen
  by_cases hk : k ∈ ls.map (·.k)
  · rw [if_pos hk] at hQ
    obtain ⟨v, hv⟩ := valueAt_some (kvs := kvsOf ls) (k := k) (by rw [kvsOf_map]; exact hk)
    refine add_held (od := od) (r := r) (t1 := t1) (t2 := t2) (own := pre ++ (Os.led w ⟨o, od, md, r, rd, om, t1, t2, a1, a2, a3, ls⟩ ++ post)) B F KX T hf hke hdp (News.sub N ?_) hmap hv lo fun h' tk F' N' => ?_
    · intro p hp
      simp only [Os.led, List.mem_append, List.mem_cons] at hp ⊢
      grind
    · exact hQ h' tk _ ⟨⟨o, od, md, r, rd, om, t1, t2, a1, a2, a3, ls⟩, rfl, rfl, ⟨hmap, lo, nd⟩, rfl⟩ (ownOff_led.mpr hoff) F' (News.sub N' fun p hp => .tail _ (.tail _ (.tail _ hp)))
  · rw [if_neg hk] at hQ
    have hkn : k ∉ (kvsOf ls).map (·.1) := by rw [kvsOf_map]; exact hk
    rcases List.eq_nil_or_concat ls with rfl | ⟨l1, x, rfl⟩
    · have hoff' := ownOff_of_off hoff
      refine add_first (a1 := a1) (a2 := a2) (a3 := a3) (t1 := t1) (t2 := t2) (own := pre ++ post) B F KX T hf hke hdp (News.sub N mem_first) hmap (valueAt_none hkn) lo (by decide) nd hoff' fun h' tk om' x d c1 c2 c3 hd' l0 l1 F' N' => ?_
      · rw [stored_new hkn] at hd'
        have hnew : ∀ q ∈ [o, od, md, r, rd] ++ (pre ++ post).map (·.1), q < d := by
          simp only [AllBelow, List.forall_mem_cons, List.forall_mem_append, List.mem_map, forall_exists_index, and_imp, forall_apply_eq_imp_iff₂, List.not_mem_nil, false_implies, implies_true, true_and, and_true, List.map_append] at l0 ⊢
          exact ⟨⟨l0.1, l0.2.1, l0.2.2.1, l0.2.2.2.1, l0.2.2.2.2.1⟩, l0.2.2.2.2.2.1, l0.2.2.2.2.2.2⟩
        refine hQ h' tk (Os.led w ⟨o, od, md, r, rd, om', t1, t2, a1, a2, a3, [⟨x, d, k, kt, c1, c2, c3⟩]⟩) ⟨_, rfl, rfl, ⟨hd', lo, ?_⟩, rfl⟩ (ownOff_led.mpr ?_) F' (News.sub N' ?_)
        · simp only [Os.adr, chainA] at nd ⊢
          have e : [o, od, md, r, rd, x, d] = [o, od, md, r, rd] ++ [x, d] := rfl
          rw [e, List.nodup_append]
          refine ⟨nd, by simp only [List.nodup_cons, List.mem_cons, List.not_mem_nil, or_false, not_false_eq_true, List.nodup_nil, and_true]; exact fun e => Nat.lt_irrefl _ (e ▸ l1), fun a ha b hb => ?_⟩
          have := hnew a (List.mem_append_left _ ha)
          simp only [List.mem_cons, List.not_mem_nil, or_false] at hb
          show (a : Nat) ≠ b
          rcases hb with rfl | rfl
          · exact Nat.ne_of_lt (Nat.lt_trans this l1)
          · exact Nat.ne_of_lt this
        · intro a ha b hb
          have hb' := hnew b (List.mem_append_right _ hb)
          have ha' : a ∈ [o, od, md, r, rd] ++ [x, d] := ha
          show (a : Nat) ≠ b
          rcases List.mem_append.mp ha' with h | h
          · exact hoff a h b hb
          · simp only [List.mem_cons, List.not_mem_nil, or_false] at h
            rcases h with rfl | rfl
            · exact Nat.ne_of_gt (Nat.lt_trans hb' l1)
            · exact Nat.ne_of_gt hb'
        · exact mem_first'
    · rw [List.concat_eq_append] at *
      have hadr : ∀ (om : Obj), Os.adr ⟨o, od, md, r, rd, om, t1, t2, a1, a2, a3, l1 ++ [x]⟩ = o :: od :: md :: r :: rd :: (chainA l1 ++ [x.a, x.d]) := fun _ => by simp only [Os.adr, chainA_append, chainA]
      rw [hadr] at nd hoff
      have hled : Os.led w ⟨o, od, md, r, rd, om, t1, t2, a1, a2, a3, l1 ++ [x]⟩ = (o, instObj OSa od) :: (od, setD w t1 t2 r md) :: (md, om) :: (r, instObj LKa rd) :: (rd, lnkD w a1 a2 a3 (.ref x.a) (.ref (hdA l1 x.a)) .none) ::
          (chain w x.a r l1 ++ [(x.a, instObj LKa x.d), (x.d, lnkD w x.t1 x.t2 x.t3 (.ref (ltA l1 r)) (.ref r) (.str x.k x.kt))]) := by
        simp only [Os.led, chain_append, chain_cons, chain_nil, ltA_append, ltA_cons, ltA_nil, hdA_append, hdA_cons, hdA_nil]
      rw [hled] at N
      have nd7 : [o, od, md, r, rd, x.a, x.d].Nodup := nd.sublist (((((List.sublist_append_right _ _).cons_cons _).cons_cons _).cons_cons _).cons_cons _ |>.cons_cons _)
      have off7 : Off (chainA l1) [o, od, md, r, rd, x.a, x.d] := by
        intro a ha b hb
        have h1 : (o :: od :: md :: r :: rd :: (chainA l1 ++ [x.a, x.d])) = [o, od, md, r, rd] ++ (chainA l1 ++ [x.a, x.d]) := rfl
        rw [h1, List.nodup_append, List.nodup_append] at nd
        rcases List.mem_append.mp (show b ∈ [o, od, md, r, rd] ++ [x.a, x.d] from hb) with h | h
        · exact fun e => nd.2.2 b h a (List.mem_append_left _ ha) e.symm
        · exact nd.2.1.2.2 a ha b h
      refine add_more (a1 := a1) (a2 := a2) (a3 := a3) (t1 := t1) (t2 := t2) (b1 := x.t1) (b2 := x.t2) (b3 := x.t3) (rn := .ref (hdA l1 x.a)) (lp := .ref (ltA l1 r)) (lk := .str x.k x.kt) (own := chain w x.a r l1 ++ (pre ++ post)) B F KX T hf hke hdp (News.sub N mem_more') hmap (valueAt_none hkn) lo (by rw [kvsOf_length]; omega) nd7
        (ownOff_append.mpr ⟨ownOff_chain.mpr off7, ownOff_of_off (off_sub hoff ?_)⟩) fun h' tk om' y d c1 c2 c3 hd' l0 l2 F' N' => ?_
      · intro a ha
        simp only [List.mem_cons, List.mem_append, List.not_mem_nil, or_false] at ha ⊢
        grind
      · rw [stored_new hkn] at hd'
        have hadr' : ∀ (om : Obj), Os.adr ⟨o, od, md, r, rd, om, t1, t2, a1, a2, a3, l1 ++ [x] ++ [⟨y, d, k, kt, c1, c2, c3⟩]⟩ = (o :: od :: md :: r :: rd :: (chainA l1 ++ [x.a, x.d])) ++ [y, d] := fun _ => by
          simp only [Os.adr, chainA_append, chainA, List.cons_append]
        have hnew : ∀ q ∈ (o :: od :: md :: r :: rd :: (chainA l1 ++ [x.a, x.d])) ++ (pre ++ post).map (·.1), q < d := by
          have hc : ∀ q ∈ chainA l1, q < d := by
            rw [← chain_adr (w := w) (e := x.a) (p := r)]
            intro q hq
            obtain ⟨p, hp, rfl⟩ := List.mem_map.mp hq
            exact l0 p (by simp only [List.mem_cons, List.mem_append]; grind)
          simp only [AllBelow, List.forall_mem_cons, List.forall_mem_append, List.mem_map, forall_exists_index, and_imp, forall_apply_eq_imp_iff₂, List.not_mem_nil, false_implies, implies_true, true_and, and_true, List.map_append] at l0 ⊢
          obtain ⟨q1, q2, q3, q4, q5, q6, q7, q8, q9, q10⟩ := l0
          exact ⟨⟨q1, q2, q3, q4, q5, hc, q6, q7⟩, q9, q10⟩
        refine hQ h' tk (Os.led w ⟨o, od, md, r, rd, om', t1, t2, a1, a2, a3, l1 ++ [x] ++ [⟨y, d, k, kt, c1, c2, c3⟩]⟩) ⟨_, rfl, by simp only [List.map_append, List.map_cons, List.map_nil], ⟨?_, lo, ?_⟩, rfl⟩ (ownOff_led.mpr ?_) F' (News.sub N' ?_)
        · rw [kvsOf_append]; exact hd'
        · rw [hadr', List.nodup_append]
          refine ⟨nd, by simp only [List.nodup_cons, List.mem_cons, List.not_mem_nil, or_false, not_false_eq_true, List.nodup_nil, and_true]; exact fun e => Nat.lt_irrefl _ (e ▸ l2), fun a ha b hb => ?_⟩
          have := hnew a (List.mem_append_left _ ha)
          simp only [List.mem_cons, List.not_mem_nil, or_false] at hb
          show (a : Nat) ≠ b
          rcases hb with rfl | rfl
          · exact Nat.ne_of_lt (Nat.lt_trans this l2)
          · exact Nat.ne_of_lt this
        · intro a ha b hb
          have hb' := hnew b (List.mem_append_right _ hb)
          rw [hadr'] at ha
          show (a : Nat) ≠ b
          rcases List.mem_append.mp ha with h | h
          · exact hoff a h b hb
          · simp only [List.mem_cons, List.not_mem_nil, or_false] at h
            rcases h with rfl | rfl
            · exact Nat.ne_of_gt (Nat.lt_trans hb' l2)
            · exact Nat.ne_of_gt hb'
        · have hled' : Os.led w ⟨o, od, md, r, rd, om', t1, t2, a1, a2, a3, l1 ++ [x] ++ [⟨y, d, k, kt, c1, c2, c3⟩]⟩ = (o, instObj OSa od) :: (od, setD w t1 t2 r md) :: (md, om') :: (r, instObj LKa rd) :: (rd, lnkD w a1 a2 a3 (.ref y) (.ref (hdA l1 x.a)) .none) ::
              (chain w x.a r l1 ++ [(x.a, instObj LKa x.d), (x.d, lnkD w x.t1 x.t2 x.t3 (.ref (ltA l1 r)) (.ref y) (.str x.k x.kt)), (y, instObj LKa d), (d, lnkD w c1 c2 c3 (.ref x.a) (.ref r) (.str k kt))]) := by
            simp only [Os.led, List.append_assoc, List.cons_append, List.nil_append, chain_append, chain_cons, chain_nil, ltA_append, ltA_cons, ltA_nil, hdA_append, hdA_cons, hdA_nil]
          rw [hled']
          exact mem_more
end

end SOsCt
section SOsCt2
local macro_rules | `(tactic| k_room) => `(tactic| (show (_ : Nat) < _; (try simp only [depth_under_make, depth_under_kw, depth_in1, depth_deeper, depth_caller]); (try simp only [show recursionLimit = 1000 from rfl]); omega))
local macro_rules | `(tactic| k_ne) => `(tactic| (refine neN ?_; first | assumption | (refine Ne.symm ?_; assumption) | ((try dsimp only); omega)))
local macro_rules | `(tactic| k_all) => `(tactic| first | exact own_ne (by assumption) (by intro p hp; k_ownIn) | exact own_ne' (by assumption) (by assumption) (by intro p hp; k_ownIn))
local macro_rules | `(tactic| k_all) => `(tactic| exact OwnOff.ne (by assumption) (by k_memK))
local macro_rules | `(tactic| k_all) => `(tactic| (refine' List.forall_mem_cons.mpr ⟨?a, ?b⟩; (case a => k_ne); (case b => k_all)))
local macro_rules | `(tactic| k_lt $h:ident) => `(tactic| (have l0 : AllBelow _ _ := $h; replace $h := allLt_of $h; (try simp only [AllLt, and_true] at $h:ident)))

local macro_rules | `(tactic| k_allIn) => `(tactic| (intro p hp; k_ownIn))
local macro_rules | `(tactic| k_allIn) => `(tactic| (refine List.forall_mem_cons.mpr ⟨by k_memK, ?_⟩; k_allIn))


local macro_rules | `(tactic| k_enter) => `(tactic| (refine' code_def ?k1 ?k2 ?k3 ?k4 ?k5 ?kA ?kF ?kK ?k6 ?k7 ?k8 ?k9 ?kB ?kZ ?c2 ?c3 ?c4 ?c5; (case kA => exact rfl); (case kF => (first | exact rfl | assumption)); (case kK => (first | exact rfl | assumption)); (case k1 => k_asm); (case k2 => k_asm); (case k3 => k_asm); (case k4 => k_asm); (case k5 => k_asm); (case k6 => k_is); (case k7 => k_is); (case k8 => k_room); (case k9 => (first | exact BindsTo.of_eq rfl | exact binds_K (by k_in) rfl (by k_is) rfl rfl rfl)); (case c5 => decide); (case kB => exact locs rfl); (case c2 => exact rfl); (case c3 => exact rfl); (case c4 => exact rfl); k_whole; intro g' L' h' FG' F' N' B' X' T'; (try dsimp only); (try k_fold)))

local macro_rules | `(tactic| walk_at "call ref") => `(tactic| ((with_reducible first | (show wpAny _ _ (call (Value.ref 57) _ _) _ _ _) | (show wpAny _ _ (call (Value.ref 64) _ _) _ _ _) | (show wpAny _ _ (call (Value.ref 71) _ _) _ _ _) | (show wpAny _ _ (call (Value.ref 78) _ _) _ _ _) | (show wpAny _ _ (call (Value.ref 100) _ _) _ _ _) | (show wpAny _ _ (call (Value.ref 107) _ _) _ _ _) | (show wpAny _ _ (call (Value.ref 110) _ _) _ _ _)); refine stop_intro ?_))
local macro_rules | `(tactic| walk_at "exec For") => `(tactic| refine stop_intro ?_)
local macro_rules | `(tactic| walk_at "exec For Name") => `(tactic| refine stop_intro ?_)
local macro_rules | `(tactic| walk_at "exec For Name Name") => `(tactic| refine stop_intro ?_)
local macro_rules | `(tactic| walk_at "exec For Name Name cons") => `(tactic| refine stop_intro ?_)
local macro_rules | `(tactic| walk_at "exec For Name Name cons nil") => `(tactic| refine stop_intro ?_)
local macro_rules | `(tactic| walk_at "exec For Name Subscript cons nil") => `(tactic| refine stop_intro ?_)
theorem filter_mid {l1 l2 : List Lk} {x : Lk} (hn : ((l1 ++ x :: l2).map (·.k)).Nodup) : ((l1 ++ x :: l2).map (·.k)).filter (fun y => decide (y ≠ x.k)) = (l1 ++ l2).map (·.k) := by
  simp only [List.map_append, List.map_cons, List.nodup_append, List.nodup_cons, List.mem_cons, forall_eq_or_imp] at hn
  obtain ⟨h1, ⟨h2, h3⟩, h4⟩ := hn
  rw [List.map_append, List.map_append, List.map_cons, List.filter_append, List.filter_cons]
  have e1 : (l1.map (·.k)).filter (fun y => decide (y ≠ x.k)) = l1.map (·.k) := List.filter_eq_self.mpr fun a ha => decide_eq_true (h4 a ha).1
  have e2 : (l2.map (·.k)).filter (fun y => decide (y ≠ x.k)) = l2.map (·.k) := List.filter_eq_self.mpr fun a ha => decide_eq_true fun e => h2 (e ▸ ha)
  rw [e1, e2]
  simp
theorem without_mid {l1 l2 : List Lk} {x : Lk} (hn : ((l1 ++ x :: l2).map (·.k)).Nodup) : without (kvsOf (l1 ++ x :: l2)) x.k = kvsOf (l1 ++ l2) := by
  simp only [List.map_append, List.map_cons, List.nodup_append, List.nodup_cons, List.mem_cons, forall_eq_or_imp] at hn
  obtain ⟨h1, ⟨h2, h3⟩, h4⟩ := hn
  unfold without
  have e0 : kvsOf (l1 ++ x :: l2) = kvsOf l1 ++ (x.k, .ref x.a) :: kvsOf l2 := by simp [kvsOf]
  rw [e0, kvsOf_append, List.filter_append, List.filter_cons]
  have e1 : (kvsOf l1).filter (fun kv => decide (kv.1 ≠ x.k)) = kvsOf l1 := List.filter_eq_self.mpr fun a ha => by
    obtain ⟨y, hy, rfl⟩ := List.mem_map.mp ha
    exact decide_eq_true (h4 y.k (List.mem_map_of_mem hy)).1
  have e2 : (kvsOf l2).filter (fun kv => decide (kv.1 ≠ x.k)) = kvsOf l2 := List.filter_eq_self.mpr fun a ha => by
    obtain ⟨y, hy, rfl⟩ := List.mem_map.mp ha
    exact decide_eq_true fun e => h2 (List.mem_map.mpr ⟨y, hy, e⟩)
  rw [e1, e2]
  simp
theorem valueAt_mid {l1 l2 : List Lk} {x : Lk} (hn : ((l1 ++ x :: l2).map (·.k)).Nodup) : valueAt (kvsOf (l1 ++ x :: l2)) x.k = some (.ref x.a) := by
  simp only [List.map_append, List.map_cons, List.nodup_append, List.nodup_cons, List.mem_cons, forall_eq_or_imp] at hn
  obtain ⟨h1, ⟨h2, h3⟩, h4⟩ := hn
  have e0 : kvsOf (l1 ++ x :: l2) = kvsOf l1 ++ (x.k, .ref x.a) :: kvsOf l2 := by simp [kvsOf]
  unfold valueAt
  rw [e0, List.find?_append]
  have e1 : (kvsOf l1).find? (fun kv => decide (kv.1 = x.k)) = none := List.find?_eq_none.mpr fun a ha e => by
    obtain ⟨y, hy, rfl⟩ := List.mem_map.mp ha
    exact (h4 y.k (List.mem_map_of_mem hy)).1 (of_decide_eq_true e)
  rw [e1]
  simp

theorem mem_RR {α : Type} {e1 e2 e3 e4 e5 e6 e7 : α} {pre post : List α} : ∀ p ∈ e1 :: e2 :: e3 :: e4 :: e5 :: e6 :: e7 :: (pre ++ post), p ∈ pre ++ ((e1 :: e2 :: e3 :: e4 :: e5 :: e6 :: e7 :: []) ++ post) := by
  intro p
  simp only [List.mem_append, List.mem_cons, List.not_mem_nil, or_false]
  grind
theorem mem_RR' {α : Type} {e1 e2 e3 e4 e5 : α} {pre post : List α} : ∀ p ∈ pre ++ ((e1 :: e2 :: e3 :: e4 :: e5 :: []) ++ post), p ∈ e1 :: e2 :: e3 :: e4 :: e5 :: (pre ++ post) := by
  intro p
  simp only [List.mem_append, List.mem_cons, List.not_mem_nil, or_false]
  grind
theorem mem_RN {α : Type} {e1 e2 e3 e4 e5 e6 e7 e8 e9 : α} {c pre post : List α} : ∀ p ∈ e1 :: e2 :: e3 :: e4 :: e5 :: e6 :: e7 :: e8 :: e9 :: (c ++ (pre ++ post)), p ∈ pre ++ ((e1 :: e2 :: e3 :: e4 :: e5 :: e6 :: e7 :: e8 :: e9 :: c) ++ post) := by
  intro p
  simp only [List.mem_append, List.mem_cons, List.not_mem_nil, or_false]
  grind
theorem mem_RN' {α : Type} {e1 e2 e3 e4 e5 e8 e9 : α} {c pre post : List α} : ∀ p ∈ pre ++ ((e1 :: e2 :: e3 :: e4 :: e5 :: e8 :: e9 :: c) ++ post), p ∈ e1 :: e2 :: e3 :: e4 :: e5 :: e8 :: e9 :: (c ++ (pre ++ post)) := by
  intro p
  simp only [List.mem_append, List.mem_cons, List.not_mem_nil, or_false]
  grind
theorem mem_PR {α : Type} {e1 e2 e3 e4 e5 e6 e7 e8 e9 : α} {c pre post : List α} : ∀ p ∈ e1 :: e2 :: e3 :: e4 :: e5 :: e6 :: e7 :: e8 :: e9 :: (c ++ (pre ++ post)), p ∈ pre ++ ((e1 :: e2 :: e3 :: e4 :: e5 :: (c ++ [e6, e7, e8, e9])) ++ post) := by
  intro p
  simp only [List.mem_append, List.mem_cons, List.not_mem_nil, or_false]
  grind
theorem mem_PR' {α : Type} {e1 e2 e3 e4 e5 e6 e7 : α} {c pre post : List α} : ∀ p ∈ pre ++ ((e1 :: e2 :: e3 :: e4 :: e5 :: (c ++ [e6, e7])) ++ post), p ∈ e1 :: e2 :: e3 :: e4 :: e5 :: e6 :: e7 :: (c ++ (pre ++ post)) := by
  intro p
  simp only [List.mem_append, List.mem_cons, List.not_mem_nil, or_false]
  grind
theorem mem_PN {α : Type} {e1 e2 e3 e4 e5 e6 e7 e8 e9 e10 e11 : α} {c c' pre post : List α} : ∀ p ∈ e1 :: e2 :: e3 :: e4 :: e5 :: e6 :: e7 :: e8 :: e9 :: e10 :: e11 :: (c ++ (c' ++ (pre ++ post))), p ∈ pre ++ ((e1 :: e2 :: e3 :: e4 :: e5 :: (c ++ e6 :: e7 :: e8 :: e9 :: e10 :: e11 :: c')) ++ post) := by
  intro p
  simp only [List.mem_append, List.mem_cons, List.not_mem_nil, or_false]
  grind
theorem mem_PN' {α : Type} {e1 e2 e3 e4 e5 e6 e7 e10 e11 : α} {c c' pre post : List α} : ∀ p ∈ pre ++ ((e1 :: e2 :: e3 :: e4 :: e5 :: (c ++ e6 :: e7 :: e10 :: e11 :: c')) ++ post), p ∈ e1 :: e2 :: e3 :: e4 :: e5 :: e6 :: e7 :: e10 :: e11 :: (c ++ (c' ++ (pre ++ post))) := by
  intro p
  simp only [List.mem_append, List.mem_cons, List.not_mem_nil, or_false]
  grind
theorem adr_of_sub {xs ys zs : List Addr} (nd : (xs ++ ys).Nodup) (hz : ∀ z ∈ zs, z ∈ xs) : Off ys zs := by
  rw [List.nodup_append] at nd
  exact fun a ha b hb e => nd.2.2 b (hz b hb) a ha e.symm

section
variable {prog : Program} {w : World} {A₀ : Around} {base h₀ : Heap} {outer : List Env} {env : Env} {L : Addr} {m mg mb : Str → Option Value} {p : Program} {loose : List Str} {mean : ExcName → Option Value} {s : Shared} {E : Value → Shared → Prop} {Q : Value → Shared → Prop}
    {u : Nat} {gs : Option (List Code)} {dp : Nat} {pre post G : List (Addr × Obj)} {o : Addr} {ks : List Str} {kt : Tok} {k : Str}
variable (B : Below A₀ base outer h₀) (F : Fr h₀ L s.heap m) (KX : (Mine.hd.heap_39 w.params).In h₀) (T : Top p loose mean mg mb h₀) (hf : env.frame = some L) (hke : env.scope.kind = .function) (hdp : dp < 500)
include B F KX T hf hke hdp

theorem disc_ct (N : News h₀ L s.heap (pre ++ (G ++ post))) (hG : SetAt prog w G o ks) (hlen : ks.length ≤ 100) (hoff : OwnOff G ((pre ++ post).map (·.1)))
    (hQ : ∀ h' tk G', SetAt prog w G' o (ks.filter fun y => decide (y ≠ k)) → OwnOff G' ((pre ++ post).map (·.1)) → Fr h₀ L h' m → News h₀ L h' (pre ++ (G' ++ post)) → Q .none { s with heap := h', toks := tk }) :
    wpAny (model prog w) ⟨none, dp, some (env :: outer), gs, u⟩ (call (.ref 78) [.ref o, .str k kt]) Q E s := by
  have hnd := hG.nodup
  obtain ⟨S, rfl, rfl, ok, rfl⟩ := hG
  obtain ⟨o, od, md, r, rd, om, t1, t2, a1, a2, a3, ls⟩ := S
  obtain ⟨hmap, lo, nd⟩ := ok
  rw [ownOff_led] at hoff
  dsimp only at hmap lo nd hoff hQ hlen hnd ⊢
  rw [List.length_map] at hlen
  by_cases hk : k ∈ ls.map (·.k)
  · obtain ⟨x, hx, rfl⟩ := List.mem_map.mp hk
    obtain ⟨l1, l2, rfl⟩ := List.append_of_mem hx
    have hv := valueAt_mid hnd
    rw [filter_mid hnd] at hQ
    have hwo := without_mid hnd
    have hsz : (kvsOf (l1 ++ x :: l2)).length ≤ 1000 := by rw [kvsOf_length]; omega
    have ndS : ∀ om', Os.adr ⟨o, od, md, r, rd, om', t1, t2, a1, a2, a3, l1 ++ l2⟩ |>.Nodup := fun _ => by
      refine nd.sublist ?_
      simp only [Os.adr, chainA_append, chainA]
      exact (((((List.Sublist.append_left ((List.sublist_cons_self _ _).trans (List.sublist_cons_self _ _)) _).cons_cons _).cons_cons _).cons_cons _).cons_cons _).cons_cons _
    have offS : ∀ om', Off (Os.adr ⟨o, od, md, r, rd, om', t1, t2, a1, a2, a3, l1 ++ l2⟩) ((pre ++ post).map (·.1)) := fun _ => off_sub hoff (by
      intro a ha
      simp only [Os.adr, chainA_append, chainA, List.mem_cons, List.mem_append] at ha ⊢
      grind)
    rcases List.eq_nil_or_concat l1 with rfl | ⟨l1, q, rfl⟩
    · cases l2 with
      | nil =>
        refine disc_RR (a := x.a) (d := x.d) (b1 := x.t1) (b2 := x.t2) (b3 := x.t3) (vk := .str x.k x.kt) (a1 := a1) (a2 := a2) (a3 := a3) (t1 := t1) (t2 := t2) (own := pre ++ post) B F KX T hf hke hdp (News.sub N mem_RR) hmap hv lo hsz nd (ownOff_of_off hoff) fun h' tk om' hd' F' N' => ?_
        rw [hwo] at hd'
        exact hQ h' tk _ ⟨_, rfl, rfl, ⟨hd', lo, ndS om'⟩, rfl⟩ (ownOff_led.mpr (offS om')) F' (News.sub N' mem_RR')
      | cons v l2 =>
        have hadr : ∀ om, Os.adr ⟨o, od, md, r, rd, om, t1, t2, a1, a2, a3, [] ++ x :: v :: l2⟩ = [o, od, md, r, rd, x.a, x.d, v.a, v.d] ++ chainA l2 := fun _ => rfl
        rw [hadr] at nd hoff
        refine disc_RN (a := x.a) (d := x.d) (q := v.a) (qd := v.d) (b1 := x.t1) (b2 := x.t2) (b3 := x.t3) (c1 := v.t1) (c2 := v.t2) (c3 := v.t3) (vk := .str x.k x.kt) (qk := .str v.k v.kt) (qn := .ref (hdA l2 r)) (rp := .ref (ltA l2 v.a)) (a1 := a1) (a2 := a2) (a3 := a3) (t1 := t1) (t2 := t2) (own := chain w r v.a l2 ++ (pre ++ post)) B F KX T hf hke hdp (News.sub N mem_RN) hmap hv lo hsz
          (List.nodup_append.mp nd).1 (ownOff_append.mpr ⟨ownOff_chain.mpr (adr_of_sub nd fun _ h => h), ownOff_of_off (off_sub hoff fun _ h => List.mem_append_left _ h)⟩) fun h' tk om' hd' F' N' => ?_
        rw [hwo] at hd'
        exact hQ h' tk _ ⟨_, rfl, rfl, ⟨hd', lo, ndS om'⟩, rfl⟩ (ownOff_led.mpr (offS om')) F' (News.sub N' mem_RN')
    · rw [List.concat_eq_append] at *
      cases l2 with
      | nil =>
        have hadr : ∀ om, Os.adr ⟨o, od, md, r, rd, om, t1, t2, a1, a2, a3, l1 ++ [q] ++ [x]⟩ = o :: od :: md :: r :: rd :: (chainA l1 ++ [q.a, q.d, x.a, x.d]) := fun _ => by
          simp only [Os.adr, chainA_append, chainA, List.append_assoc, List.cons_append, List.nil_append]
        have hled : Os.led w ⟨o, od, md, r, rd, om, t1, t2, a1, a2, a3, l1 ++ [q] ++ [x]⟩ = (o, instObj OSa od) :: (od, setD w t1 t2 r md) :: (md, om) :: (r, instObj LKa rd) :: (rd, lnkD w a1 a2 a3 (.ref x.a) (.ref (hdA l1 q.a)) .none) ::
            (chain w q.a r l1 ++ [(q.a, instObj LKa q.d), (q.d, lnkD w q.t1 q.t2 q.t3 (.ref (ltA l1 r)) (.ref x.a) (.str q.k q.kt)), (x.a, instObj LKa x.d), (x.d, lnkD w x.t1 x.t2 x.t3 (.ref q.a) (.ref r) (.str x.k x.kt))]) := by
          simp only [Os.led, List.append_assoc, List.cons_append, List.nil_append, chain_append, chain_cons, chain_nil, ltA_append, ltA_cons, ltA_nil, hdA_append, hdA_cons, hdA_nil]
        have hled' : ∀ om', Os.led w ⟨o, od, md, r, rd, om', t1, t2, a1, a2, a3, l1 ++ [q] ++ []⟩ = (o, instObj OSa od) :: (od, setD w t1 t2 r md) :: (md, om') :: (r, instObj LKa rd) :: (rd, lnkD w a1 a2 a3 (.ref q.a) (.ref (hdA l1 q.a)) .none) ::
            (chain w q.a r l1 ++ [(q.a, instObj LKa q.d), (q.d, lnkD w q.t1 q.t2 q.t3 (.ref (ltA l1 r)) (.ref r) (.str q.k q.kt))]) := fun _ => by
          simp only [Os.led, List.append_nil, List.append_assoc, List.cons_append, List.nil_append, chain_append, chain_cons, chain_nil, ltA_append, ltA_cons, ltA_nil, hdA_append, hdA_cons, hdA_nil]
        rw [hadr] at nd hoff
        rw [hled] at N
        have nd' : ([o, od, md, r, rd] ++ (chainA l1 ++ [q.a, q.d, x.a, x.d])).Nodup := nd
        have nd9 : [o, od, md, r, rd, x.a, x.d, q.a, q.d].Nodup := by
          rw [List.nodup_append, List.nodup_append] at nd'
          obtain ⟨h1, ⟨h2, h3, h4⟩, h5⟩ := nd'
          have e : [o, od, md, r, rd, x.a, x.d, q.a, q.d] = [o, od, md, r, rd] ++ [x.a, x.d, q.a, q.d] := rfl
          rw [e, List.nodup_append]
          refine ⟨h1, ?_, fun a ha b hb => h5 a ha b ?_⟩
          · simp only [List.nodup_cons, List.mem_cons, List.not_mem_nil, or_false, not_or, not_false_eq_true, List.nodup_nil, and_true] at h3 ⊢
            obtain ⟨⟨g1, g2, g3⟩, ⟨g4, g5⟩, g6⟩ := h3
            exact ⟨⟨g6, Ne.symm g2, Ne.symm g4⟩, ⟨Ne.symm g3, Ne.symm g5⟩, g1⟩
          · simp only [List.mem_append, List.mem_cons, List.not_mem_nil, or_false] at hb ⊢
            grind
        have off9 : Off (chainA l1) [o, od, md, r, rd, x.a, x.d, q.a, q.d] := by
          rw [List.nodup_append, List.nodup_append] at nd'
          obtain ⟨h1, ⟨h2, h3, h4⟩, h5⟩ := nd'
          intro a ha b hb
          rcases List.mem_append.mp (show b ∈ [o, od, md, r, rd] ++ [x.a, x.d, q.a, q.d] from hb) with h | h
          · exact fun e => h5 b h a (List.mem_append_left _ ha) e.symm
          · refine h4 a ha b ?_
            simp only [List.mem_cons, List.not_mem_nil, or_false] at h ⊢
            grind
        refine disc_PR (a := x.a) (d := x.d) (q := q.a) (qd := q.d) (b1 := x.t1) (b2 := x.t2) (b3 := x.t3) (c1 := q.t1) (c2 := q.t2) (c3 := q.t3) (vk := .str x.k x.kt) (qk := .str q.k q.kt) (qp := .ref (ltA l1 r)) (rn := .ref (hdA l1 q.a)) (a1 := a1) (a2 := a2) (a3 := a3) (t1 := t1) (t2 := t2) (own := chain w q.a r l1 ++ (pre ++ post)) B F KX T hf hke hdp
          (News.sub N fun p hp => mem_PR (e6 := (q.a, instObj LKa q.d)) p (by simp only [List.mem_cons, List.mem_append] at hp ⊢; grind)) hmap hv lo hsz
          nd9 (ownOff_append.mpr ⟨ownOff_chain.mpr off9, ownOff_of_off (off_sub hoff (by intro a ha; simp only [List.mem_cons, List.mem_append, List.not_mem_nil, or_false] at ha ⊢; grind))⟩) fun h' tk om' hd' F' N' => ?_
        rw [hwo] at hd'
        refine hQ h' tk _ ⟨_, rfl, rfl, ⟨hd', lo, ndS om'⟩, rfl⟩ (ownOff_led.mpr (offS om')) F' ?_
        rw [hled' om']
        exact News.sub N' mem_PR'
      | cons v l2 =>
        have hadr : ∀ om, Os.adr ⟨o, od, md, r, rd, om, t1, t2, a1, a2, a3, l1 ++ [q] ++ x :: v :: l2⟩ = [o, od, md, r, rd] ++ (chainA l1 ++ ([q.a, q.d, x.a, x.d, v.a, v.d] ++ chainA l2)) := fun _ => by
          simp only [Os.adr, chainA_append, chainA, List.append_assoc, List.cons_append, List.nil_append]
        have hled : Os.led w ⟨o, od, md, r, rd, om, t1, t2, a1, a2, a3, l1 ++ [q] ++ x :: v :: l2⟩ = (o, instObj OSa od) :: (od, setD w t1 t2 r md) :: (md, om) :: (r, instObj LKa rd) :: (rd, lnkD w a1 a2 a3 (.ref (ltA l2 v.a)) (.ref (hdA l1 q.a)) .none) ::
            (chain w q.a r l1 ++ (q.a, instObj LKa q.d) :: (q.d, lnkD w q.t1 q.t2 q.t3 (.ref (ltA l1 r)) (.ref x.a) (.str q.k q.kt)) :: (x.a, instObj LKa x.d) :: (x.d, lnkD w x.t1 x.t2 x.t3 (.ref q.a) (.ref v.a) (.str x.k x.kt)) ::
              (v.a, instObj LKa v.d) :: (v.d, lnkD w v.t1 v.t2 v.t3 (.ref x.a) (.ref (hdA l2 r)) (.str v.k v.kt)) :: chain w r v.a l2) := by
          simp only [Os.led, List.append_assoc, List.cons_append, List.nil_append, chain_append, chain_cons, chain_nil, ltA_append, ltA_cons, ltA_nil, hdA_append, hdA_cons, hdA_nil]
        have hled' : ∀ om', Os.led w ⟨o, od, md, r, rd, om', t1, t2, a1, a2, a3, l1 ++ [q] ++ v :: l2⟩ = (o, instObj OSa od) :: (od, setD w t1 t2 r md) :: (md, om') :: (r, instObj LKa rd) :: (rd, lnkD w a1 a2 a3 (.ref (ltA l2 v.a)) (.ref (hdA l1 q.a)) .none) ::
            (chain w q.a r l1 ++ (q.a, instObj LKa q.d) :: (q.d, lnkD w q.t1 q.t2 q.t3 (.ref (ltA l1 r)) (.ref v.a) (.str q.k q.kt)) ::
              (v.a, instObj LKa v.d) :: (v.d, lnkD w v.t1 v.t2 v.t3 (.ref q.a) (.ref (hdA l2 r)) (.str v.k v.kt)) :: chain w r v.a l2) := fun _ => by
          simp only [Os.led, List.append_nil, List.append_assoc, List.cons_append, List.nil_append, chain_append, chain_cons, chain_nil, ltA_append, ltA_cons, ltA_nil, hdA_append, hdA_cons, hdA_nil]
        rw [hadr] at nd hoff
        rw [hled] at N
        have nd' := nd
        rw [List.nodup_append, List.nodup_append, List.nodup_append] at nd'
        obtain ⟨h1, ⟨h2, ⟨h3, h3', h3''⟩, h4⟩, h5⟩ := nd'
        have nd11 : [o, od, md, r, rd, x.a, x.d, q.a, q.d, v.a, v.d].Nodup := by
          have e : [o, od, md, r, rd, x.a, x.d, q.a, q.d, v.a, v.d] = [o, od, md, r, rd] ++ [x.a, x.d, q.a, q.d, v.a, v.d] := rfl
          rw [e, List.nodup_append]
          refine ⟨h1, ?_, fun a ha b hb => h5 a ha b ?_⟩
          · simp only [List.nodup_cons, List.mem_cons, List.not_mem_nil, or_false, not_or, not_false_eq_true, List.nodup_nil, and_true] at h3 ⊢
            obtain ⟨⟨g1, g2, g3, g4, g5⟩, ⟨g6, g7, g8, g9⟩, ⟨g10, g11, g12⟩, ⟨g13, g14⟩, g15⟩ := h3
            exact ⟨⟨g10, Ne.symm g2, Ne.symm g6, g11, g12⟩, ⟨Ne.symm g3, Ne.symm g7, g13, g14⟩, ⟨g1, g4, g5⟩, ⟨g8, g9⟩, g15⟩
          · simp only [List.mem_append, List.mem_cons, List.not_mem_nil, or_false] at hb ⊢
            grind
        have off11 : Off (chainA l1) [o, od, md, r, rd, x.a, x.d, q.a, q.d, v.a, v.d] := by
          intro a ha b hb
          rcases List.mem_append.mp (show b ∈ [o, od, md, r, rd] ++ [x.a, x.d, q.a, q.d, v.a, v.d] from hb) with h | h
          · exact fun e => h5 b h a (List.mem_append_left _ ha) e.symm
          · refine h4 a ha b (List.mem_append_left _ ?_)
            simp only [List.mem_cons, List.not_mem_nil, or_false] at h ⊢
            grind
        have off11' : Off (chainA l2) [o, od, md, r, rd, x.a, x.d, q.a, q.d, v.a, v.d] := by
          intro a ha b hb
          rcases List.mem_append.mp (show b ∈ [o, od, md, r, rd] ++ [x.a, x.d, q.a, q.d, v.a, v.d] from hb) with h | h
          · exact fun e => h5 b h a (List.mem_append_right _ (List.mem_append_right _ ha)) e.symm
          · refine fun e => h3'' b ?_ a ha e.symm
            simp only [List.mem_cons, List.not_mem_nil, or_false] at h ⊢
            grind
        refine disc_PN (a := x.a) (d := x.d) (q := q.a) (qd := q.d) (v := v.a) (vd := v.d) (b1 := x.t1) (b2 := x.t2) (b3 := x.t3) (c1 := q.t1) (c2 := q.t2) (c3 := q.t3) (d1 := v.t1) (d2 := v.t2) (d3 := v.t3) (vk := .str x.k x.kt) (qk := .str q.k q.kt) (qp := .ref (ltA l1 r)) (rn := .ref (hdA l1 q.a)) (rp := .ref (ltA l2 v.a)) (vn := .ref (hdA l2 r)) (vkk := .str v.k v.kt) (a1 := a1) (a2 := a2) (a3 := a3) (t1 := t1) (t2 := t2)
          (own := chain w q.a r l1 ++ (chain w r v.a l2 ++ (pre ++ post))) B F KX T hf hke hdp
          (News.sub N fun p hp => mem_PN (e6 := (q.a, instObj LKa q.d)) p (by simp only [List.mem_cons, List.mem_append] at hp ⊢; grind)) hmap hv lo hsz
          nd11 (ownOff_append.mpr ⟨ownOff_chain.mpr off11, ownOff_append.mpr ⟨ownOff_chain.mpr off11', ownOff_of_off (off_sub hoff (by intro a ha; simp only [List.mem_cons, List.mem_append, List.not_mem_nil, or_false] at ha ⊢; grind))⟩⟩) fun h' tk om' hd' F' N' => ?_
        rw [hwo] at hd'
        refine hQ h' tk _ ⟨_, rfl, rfl, ⟨hd', lo, ndS om'⟩, rfl⟩ (ownOff_led.mpr (offS om')) F' ?_
        rw [hled' om']
        exact News.sub N' mem_PN'
  · have hkn : k ∉ (kvsOf ls).map (·.1) := by rw [kvsOf_map]; exact hk
    have e : (ls.map (·.k)).filter (fun y => decide (y ≠ k)) = ls.map (·.k) := List.filter_eq_self.mpr fun a ha => decide_eq_true fun e => hk (e ▸ ha)
    rw [e] at hQ
    refine disc_absent (od := od) (r := r) (t1 := t1) (t2 := t2) (own := pre ++ (Os.led w ⟨o, od, md, r, rd, om, t1, t2, a1, a2, a3, ls⟩ ++ post)) B F KX T hf hke hdp (News.sub N ?_) hmap (valueAt_none hkn) lo fun h' tk F' N' => ?_
    · intro p hp
      simp only [Os.led, List.mem_append, List.mem_cons] at hp ⊢
      grind
    · exact hQ h' tk _ ⟨⟨o, od, md, r, rd, om, t1, t2, a1, a2, a3, ls⟩, rfl, rfl, ⟨hmap, lo, nd⟩, rfl⟩ (ownOff_led.mpr hoff) F' (News.sub N' fun p hp => .tail _ (.tail _ (.tail _ hp)))

omit B KX T hf hke hdp in
theorem SetAt.look (N : News h₀ L s.heap pre) (hG : SetAt prog w G o ks) (hs : ∀ p ∈ G, p ∈ pre) :
    ∃ od md r om t1 t2 ls, News h₀ L s.heap ((o, instObj OSa od) :: (od, setD w t1 t2 r md) :: (md, om) :: pre) ∧ ks = ls.map (·.k) ∧ om.IsDictOf (strKind prog w) (kvsOf ls) ∧ (md == sysModules) = false := by
  obtain ⟨S, rfl, rfl, ok, rfl⟩ := hG
  refine ⟨S.od, S.md, S.r, S.om, S.t1, S.t2, S.ls, ?_, rfl, ok.map, ok.lo⟩
  intro q hq
  rcases List.mem_cons.mp hq with rfl | hq
  · exact N _ (hs _ (.head _))
  rcases List.mem_cons.mp hq with rfl | hq
  · exact N _ (hs _ (.tail _ (.head _)))
  rcases List.mem_cons.mp hq with rfl | hq
  · exact N _ (hs _ (.tail _ (.tail _ (.head _))))
  exact N _ hq

theorem len_ct (N : News h₀ L s.heap pre) (hG : SetAt prog w G o ks) (hs : ∀ p ∈ G, p ∈ pre) (hlen : ks.length ≤ 100)
    (hQ : ∀ h' tk t, Fr h₀ L h' m → News h₀ L h' pre → Q (.int ks.length t) { s with heap := h', toks := tk }) :
    wpAny (model prog w) ⟨none, dp, some (env :: outer), gs, u⟩ (call (.ref 57) [.ref o]) Q E s := by
  obtain ⟨od, md, r, om, t1, t2, ls, N', rfl, hd, lo⟩ := SetAt.look F N hG hs
  rw [List.length_map] at hlen hQ
  refine len_at B F KX T hf hke hdp N' hd lo (by rw [kvsOf_length]; omega) fun h' tk t F' N' => ?_
  rw [kvsOf_length]
  exact hQ h' tk t F' (News.sub N' fun p hp => .tail _ (.tail _ (.tail _ hp)))

theorem has_ct (N : News h₀ L s.heap pre) (hG : SetAt prog w G o ks) (hs : ∀ p ∈ G, p ∈ pre)
    (hQ : ∀ h' tk, Fr h₀ L h' m → News h₀ L h' pre → Q (.bool (decide (k ∈ ks))) { s with heap := h', toks := tk }) :
    wpAny (model prog w) ⟨none, dp, some (env :: outer), gs, u⟩ (call (.ref 64) [.ref o, .str k kt]) Q E s := by
  obtain ⟨od, md, r, om, t1, t2, ls, N', rfl, hd, lo⟩ := SetAt.look F N hG hs
  refine has_at B F KX T hf hke hdp N' hd lo fun h' tk F' N' => ?_
  have e : (valueAt (kvsOf ls) k).isSome = decide (k ∈ ls.map (·.k)) := by
    by_cases hk : k ∈ ls.map (·.k)
    · obtain ⟨v, hv⟩ := valueAt_some (kvs := kvsOf ls) (k := k) (by rw [kvsOf_map]; exact hk)
      rw [hv, decide_eq_true hk]; rfl
    · rw [valueAt_none (by rw [kvsOf_map]; exact hk), decide_eq_false hk]; rfl
  rw [e]
  exact hQ h' tk F' (News.sub N' fun p hp => .tail _ (.tail _ (.tail _ hp)))
end

end SOsCt2
section SOsIter
local macro_rules | `(tactic| k_room) => `(tactic| (show (_ : Nat) < _; (try simp only [depth_under_make, depth_under_kw, depth_in1, depth_deeper, depth_caller]); (try simp only [show recursionLimit = 1000 from rfl]); omega))
local macro_rules | `(tactic| k_ne) => `(tactic| (refine neN ?_; first | assumption | (refine Ne.symm ?_; assumption) | ((try dsimp only); omega)))
local macro_rules | `(tactic| k_all) => `(tactic| first | exact own_ne (by assumption) (by intro p hp; k_ownIn) | exact own_ne' (by assumption) (by assumption) (by intro p hp; k_ownIn))
local macro_rules | `(tactic| k_all) => `(tactic| exact OwnOff.ne (by assumption) (by k_memK))
local macro_rules | `(tactic| k_all) => `(tactic| (refine' List.forall_mem_cons.mpr ⟨?a, ?b⟩; (case a => k_ne); (case b => k_all)))
local macro_rules | `(tactic| k_lt $h:ident) => `(tactic| (have l0 : AllBelow _ _ := $h; replace $h := allLt_of $h; (try simp only [AllLt, and_true] at $h:ident)))

local macro_rules | `(tactic| k_allIn) => `(tactic| (intro p hp; k_ownIn))
local macro_rules | `(tactic| k_allIn) => `(tactic| (refine List.forall_mem_cons.mpr ⟨by k_memK, ?_⟩; k_allIn))


local macro_rules | `(tactic| k_enter) => `(tactic| (refine' code_def ?k1 ?k2 ?k3 ?k4 ?k5 ?kA ?kF ?kK ?k6 ?k7 ?k8 ?k9 ?kB ?kZ ?c2 ?c3 ?c4 ?c5; (case kA => exact rfl); (case kF => (first | exact rfl | assumption)); (case kK => (first | exact rfl | assumption)); (case k1 => k_asm); (case k2 => k_asm); (case k3 => k_asm); (case k4 => k_asm); (case k5 => k_asm); (case k6 => k_is); (case k7 => k_is); (case k8 => k_room); (case k9 => (first | exact BindsTo.of_eq rfl | exact binds_K (by k_in) rfl (by k_is) rfl rfl rfl)); (case c5 => decide); (case kB => exact locs rfl); (case c2 => exact rfl); (case c3 => exact rfl); (case c4 => exact rfl); k_whole; intro g' L' h' FG' F' N' B' X' T'; (try dsimp only); (try k_fold)))

local macro_rules | `(tactic| walk_at "call ref") => `(tactic| ((with_reducible first | (show wpAny _ _ (call (Value.ref 57) _ _) _ _ _) | (show wpAny _ _ (call (Value.ref 64) _ _) _ _ _) | (show wpAny _ _ (call (Value.ref 71) _ _) _ _ _) | (show wpAny _ _ (call (Value.ref 78) _ _) _ _ _) | (show wpAny _ _ (call (Value.ref 100) _ _) _ _ _) | (show wpAny _ _ (call (Value.ref 107) _ _) _ _ _) | (show wpAny _ _ (call (Value.ref 110) _ _) _ _ _)); refine stop_intro ?_))
local macro_rules | `(tactic| walk_at "exec For") => `(tactic| refine stop_intro ?_)
local macro_rules | `(tactic| walk_at "exec For Name") => `(tactic| refine stop_intro ?_)
local macro_rules | `(tactic| walk_at "exec For Name Name") => `(tactic| refine stop_intro ?_)
local macro_rules | `(tactic| walk_at "exec For Name Name cons") => `(tactic| refine stop_intro ?_)
local macro_rules | `(tactic| walk_at "exec For Name Name cons nil") => `(tactic| refine stop_intro ?_)
local macro_rules | `(tactic| walk_at "exec For Name Subscript cons nil") => `(tactic| refine stop_intro ?_)
theorem code_gen {prog : Program} {w : World} {A : Around} {s : Shared} {K : Frag} {R : Result → Shared → Prop} {name qual : Str} {params : Arguments} {body : List Stmt} {scope : Scope} {dV kV doc pm cdv ct oc : Value} {an od : Option Addr} {osl : Array (Option Value)} {f : Addr} {args : Args} {binds : List (Str × Value)}
    (hl : s.heap.NoLimit) (X : K.In s.heap) (ho : K.lookup f = some ⟨oc, od, .func (fnOf name qual params body scope dV kV doc pm an cdv ct), osl⟩) (hcd : codeIn K cdv qual = true) (hroom : A.depth < recursionLimit)
    (hbind : BindsTo s (fnOf name qual params body scope dV kV doc pm an cdv ct) args binds) (hloc : ∀ y ∈ binds, scope.names.lookup y.1 = some .local)
    (hco : scope.isCoroutine = false) (hgen : scope.isGenerator = true) (hk : scope.kind = .function) (hcell : ∀ x ∈ scope.names, x.2 ≠ .cell)
    (h : ∀ (h₁ : Heap) (tk : Nat), h₁.Ns s.heap.objs.size (fun x => binds.reverse.lookup x) → (∀ b o, s.heap.get? b = some o → h₁.get? b = some o) → h₁.objs.size = s.heap.objs.size + 1 →
      R (.ok (.ret (.ref (s.heap.objs.size + 1)))) ⟨h₁.push { cls := .type "generator", data := .fields #[.int s.gens.size 0, .str name (s.toks + binds.length), .str qual (s.toks + binds.length + 1)] },
        s.gens.push (.fresh (.func body (envOf qual scope s.heap.objs.size f cdv))), s.drawn, tk, s.os⟩) :
    codeAny (model prog w) A (.call (.ref f) args) R s := by
  refine codeAny_call_generator (fd := fnOf name qual params body scope dV kV doc pm an cdv ct) (body := body) hroom (X _ _ ho) rfl hco hgen rfl (codeRec_of X hcd) (hbind _ _ _ _ ?_)
  refine wpAny_newFunctionEnv hcell hloc (fun h₁ hns hsb => ⟨hl.fresh _ hsb, ?_⟩) hk
  have hsz : h₁.objs.size = s.heap.objs.size + 1 := by rw [hsb.1, Heap.size_push]
  have := h h₁ (s.toks + binds.length + 1 + 1) hns (fun b o e => hsb.extBut b o (Nat.ne_of_lt (Heap.lt_size e)) (Heap.get?_push_of_some _ e)) hsz
  rw [hsz]
  exact this

def othersOf (base : Heap) (C : Addr) (H : Heap) : List (Addr × Obj) :=
  (List.range H.objs.size).filterMap fun b => if b = C ∨ (base.get? b).isSome = true then none else (H.get? b).map fun o => (b, o)
theorem othersOf_news {base H : Heap} {C : Addr} : News base C H (othersOf base C H) := by
  intro p hp
  obtain ⟨b, _, hb⟩ := List.mem_filterMap.mp hp
  split at hb
  · cases hb
  · rename_i hn
    simp only [not_or, Bool.not_eq_true, Option.isSome_eq_false_iff, Option.isNone_iff_eq_none] at hn
    obtain ⟨o, ho, rfl⟩ := Option.map_eq_some_iff.mp hb
    exact ⟨ho, hn.1, hn.2⟩
theorem othersOf_mem {base H : Heap} {C b : Addr} {o : Obj} (e : H.get? b = some o) (hb : b ≠ C) (hn : base.get? b = none) : (b, o) ∈ othersOf base C H := by
  refine List.mem_filterMap.mpr ⟨b, List.mem_range.mpr (Heap.lt_size e), ?_⟩
  rw [if_neg (by simp [hb, hn]), e]
  rfl
theorem othersOf_kept {base H H' : Heap} {C : Addr} {m : Str → Option Value} (F : Fr base C H' m) (N : News base C H' (othersOf base C H)) (hk : base.StaysIn H) : ∀ b o, b ≠ C → H.get? b = some o → H'.get? b = some o := by
  intro b o hb e
  cases q : base.get? b with
  | none => exact (N _ (othersOf_mem e hb q)).1
  | some o' =>
    have e' := hk b o' q
    rw [e] at e'
    rw [Option.some.inj e']
    exact F.keep b o' q

theorem isNot_insts {M : Model} {A : Around} {E : Value → Shared → Prop} {s : Shared} {Q : Value → Shared → Prop} {x y C D dx dy : Addr} (hx : s.heap.get? x = some (instObj C dx)) (hy : s.heap.get? y = some (instObj D dy))
    (h : Q (.bool (decide (x ≠ y))) s) : wpAny M A (compareOp .IsNot (.ref x) (.ref y)) Q E s := by
  by_cases e : x = y
  · subst e
    have h' : Q (.bool false) s := by simpa using h
    exact wpAny_isNot_ref_self h'
  · rw [decide_eq_true e] at h
    show wpAny M A (isSame (.ref x) (.ref y) >>= fun b => pure (.bool (!b))) Q E s
    refine wpAny_bind ?_
    unfold isSame
    dsimp only
    rw [if_neg (by simpa using e)]
    exact wpAny_bind (wpAny_load hx (wpAny_bind (wpAny_load hy (wpAny_pure (wpAny_pure h)))))
theorem hd_mem {w : World} {S : Os} {done rest : List Lk} (h : S.ls = done ++ rest) : ∃ d, (hdA rest S.r, instObj LKa d) ∈ S.led w := by
  cases rest with
  | nil => exact ⟨S.rd, by simp [Os.led, hdA_nil]⟩
  | cons x rest => exact ⟨x.d, by simp only [Os.led, h, chain_append, chain_cons, List.mem_cons, List.mem_append, hdA_cons]; simp⟩
def keptOf (h : Heap) : List Addr := (List.range h.objs.size).filter fun b => (h.get? b).isSome
theorem keptOf_mem {h : Heap} {b : Addr} : b ∈ keptOf h ↔ ∃ o, h.get? b = some o := by
  simp only [keptOf, List.mem_filter, List.mem_range, Option.isSome_iff_exists]
  exact ⟨fun h => h.2, fun ⟨o, e⟩ => ⟨Heap.lt_size e, o, e⟩⟩
def Good (base : Heap) (C : Addr) (w : World) (S : Os) (H : Heap) (cur : Addr) : Prop :=
  base.StaysIn H ∧ (∀ p ∈ S.led w, H.get? p.1 = some p.2) ∧ (∃ d, (cur, instObj LKa d) ∈ S.led w) ∧ ∃ m : Str → Option Value, H.Ns C (fun y => if y = "root" then some (.ref S.r) else if y = "curr" then some (.ref cur) else m y)

section
variable {prog : Program} {w : World} {h₀ : Heap} {outer : List Env} {L : Addr} {m mg mb : Str → Option Value} {p : Program} {loose : List Str} {mean : ExcName → Option Value} {s : Shared} {E : Value → Shared → Prop} {Q : Value → Shared → Prop}
    {u : Nat} {gs : Option (List Code)} {dp : Nat}
variable (F : Fr h₀ L s.heap m) (KX : (Mine.hd.heap_39 w.params).In h₀) (T : Top p loose mean mg mb h₀) (hdp : dp < 500)
include F KX T hdp

set_option pp.deepTerms false
set_option pp.deepTerms.threshold 6
theorem iter_raw {S : Os} (N : News h₀ L s.heap (S.led w)) (ok : S.Ok prog w)
    (hQ : ∀ (I C : Addr) (gs' : GenState) (h' : Heap) (tk : Nat), gs'.bare = true → s.heap.objs.size ≤ C → s.heap.objs.size ≤ I → I < h'.objs.size → C < h'.objs.size → (∀ b o, s.heap.get? b = some o → h'.get? b = some o) →
      (∀ A' : Around, A'.handled = none → GenAtO prog w A' I s.gens.size C (C :: (S.adr ++ keptOf h₀)) S.ls 0 ⟨h', s.gens.push gs', s.drawn, tk, s.os⟩) → I ≠ C →
      Q (.ref I) ⟨h', s.gens.push gs', s.drawn, tk, s.os⟩) :
    wpAny (model prog w) ⟨none, dp, some outer, gs, u⟩ (pyIter (.ref S.o)) Q E s := by
  have hI : InstAt s.heap S.o (instObj OSa S.od) OSa (some (setD w S.t1 S.t2 S.r S.md)) := InstAt.of_news N (.head _) (.tail _ (.head _))
  refine' owit_iter F KX hI ?k1 ?k2 ?k3
  case k1 => k_is
  case k2 => k_is
  case k3 =>
  refine wpAny_call ?_
  refine' code_gen (binds := [("self", .ref S.o)]) (T.nolimit.keeps F.keep) (KX.keeps F.keep) ?k4 ?k5 ?k6 ?k7 ?k8 ?k9 ?k10 ?k11 ?k12 ?k13
  case k4 => k_is
  case k5 => k_is
  case k6 => k_room
  case k7 => exact BindsTo.of_eq rfl
  case k8 => exact locs rfl
  case k9 => rfl
  case k10 => rfl
  case k11 => rfl
  case k12 => decide
  case k13 =>
  intro h₁ tk hns hk hsz
  have hCL : L < s.heap.objs.size := F.ns.lt
  have hC0 : h₀.objs.size ≤ s.heap.objs.size := Nat.le_of_lt (Nat.lt_of_le_of_lt F.above hCL)
  have hNC : ∀ p ∈ S.led w, p.1 ≠ s.heap.objs.size := fun p hp => Nat.ne_of_lt (Heap.lt_size (N p hp).1)
  generalize hgo : Obj.mk _ _ _ _ = go
  have hkg : ∀ b o, s.heap.get? b = some o → (h₁.push go).get? b = some o := fun b o e => Heap.get?_push_of_some _ (hk b o e)
  have hIg : (h₁.push go).get? (s.heap.objs.size + 1) = some go := by
    rw [← hsz]
    exact Heap.get?_push_size _ (by subst hgo; rfl)
  have hgen : (h₁.push go).IsGen (s.heap.objs.size + 1) s.gens.size := ⟨go, _, _, hIg, by subst hgo; rfl, by subst hgo; rfl, by subst hgo; rfl⟩
  have hsz2 : (h₁.push go).objs.size = s.heap.objs.size + 1 + 1 := by rw [Heap.size_push, hsz]
  refine wpAny_specialOf (T := "generator") ⟨go, hIg, by subst hgo; rfl⟩ slot_gen_next.lookup ?_
  refine hQ _ s.heap.objs.size _ _ _ rfl (Nat.le_refl _) (Nat.le_succ _) (by rw [hsz2]; exact Nat.lt_succ_self _) (by rw [hsz2]; exact Nat.lt_succ_of_lt (Nat.lt_succ_self _)) hkg (fun A' hh' => ?_) (Nat.succ_ne_self _)
  refine ⟨fun b hb => ?_, hgen, (T.nolimit.keeps F.keep).keeps hkg, _, Array.getElem?_push_size .., fun s'' hal => ⟨rfl, ?_⟩⟩
  · rcases List.mem_cons.mp hb with rfl | hb
    · exact ⟨go, hIg⟩
    rcases List.mem_cons.mp hb with rfl | hb
    · obtain ⟨o, _, _, e, _⟩ := hns
      exact ⟨o, Heap.get?_push_of_some _ e⟩
    rcases List.mem_append.mp hb with hb | hb
    · rw [← Os.led_adr (w := w)] at hb
      obtain ⟨p, hp, rfl⟩ := List.mem_map.mp hb
      exact ⟨_, hkg _ _ (N p hp).1⟩
    · obtain ⟨o, e⟩ := keptOf_mem.mp hb
      exact ⟨o, hkg _ _ (F.keep b o e)⟩
  have hled : ∀ p ∈ S.led w, s''.heap.get? p.1 = some p.2 := fun p hp => hal p.1 (List.mem_cons_of_mem _ (List.mem_append_left _ (by rw [← Os.led_adr (w := w)]; exact List.mem_map_of_mem hp))) _ (hkg _ _ (N p hp).1)
  have hst : h₀.StaysIn s''.heap := fun b o e => hal b (List.mem_cons_of_mem _ (List.mem_append_right _ (keptOf_mem.mpr ⟨o, e⟩))) _ (hkg _ _ (F.keep b o e))
  have hns2 : s''.heap.Ns s.heap.objs.size (fun y => [(Str.ofString "self", Value.ref S.o)].reverse.lookup y) := (Heap.Ns.keeps hns fun b o e => Heap.get?_push_of_some go e).at' fun o e => hal _ (.head _) o e
  generalize hCdef : s.heap.objs.size = C at *
  have F₁ : Fr h₀ C s''.heap (fun y => [(Str.ofString "self", Value.ref S.o)].reverse.lookup y) := ⟨hns2, hst, hC0⟩
  have N₁ : News h₀ C s''.heap ((S.o, instObj OSa S.od) :: (S.od, setD w S.t1 S.t2 S.r S.md) :: (S.r, instObj LKa S.rd) :: (S.rd, lnkD w S.a1 S.a2 S.a3 (.ref (ltA S.ls S.r)) (.ref (hdA S.ls S.r)) .none) :: othersOf h₀ C s''.heap) := by
    have one : ∀ p ∈ S.led w, s''.heap.get? p.1 = some p.2 ∧ p.1 ≠ C ∧ h₀.get? p.1 = none := fun p hp => ⟨hled p hp, hNC p hp, (N p hp).2.2⟩
    intro q hq
    rcases List.mem_cons.mp hq with rfl | hq
    · exact one _ (.head _)
    rcases List.mem_cons.mp hq with rfl | hq
    · exact one _ (.tail _ (.head _))
    rcases List.mem_cons.mp hq with rfl | hq
    · exact one _ (.tail _ (.tail _ (.tail _ (.head _))))
    rcases List.mem_cons.mp hq with rfl | hq
    · exact one _ (.tail _ (.tail _ (.tail _ (.tail _ (.head _)))))
    exact othersOf_news q hq
  clear hkg hIg hgen hns hk
  refine seg_func ?_
  refine seg_execs_cons ?_
  refine seg_wrap (wpAny_mono (Q := fun f s' => f = .next ∧ ∃ h' tk, s' = { s'' with heap := h', toks := tk } ∧ Fr h₀ C h' (fun y => if y = "root" then some (.ref S.r) else [(Str.ofString "self", Value.ref S.o)].reverse.lookup y) ∧ News h₀ C h' ((S.o, instObj OSa S.od) :: (S.od, setD w S.t1 S.t2 S.r S.md) :: (S.r, instObj LKa S.rd) :: (S.rd, lnkD w S.a1 S.a2 S.a3 (.ref (ltA S.ls S.r)) (.ref (hdA S.ls S.r)) .none) :: othersOf h₀ C s''.heap)) (E := fun _ _ => False) ?w1 (fun f s' h => ?_) fun _ _ x => x.elim)
  case w1 =>
    clear F N hI
    k_steps
    all_goals assumption
  obtain ⟨rfl, h₂, tk₂, rfl, F₂, N₂⟩ := h
  refine seg_execs_cons ?_
  refine seg_wrap (wpAny_mono (Q := fun f s' => f = .next ∧ ∃ h' tk, s' = { s'' with heap := h', toks := tk } ∧ Fr h₀ C h' (fun y => if y = "curr" then some (.ref (hdA S.ls S.r)) else if y = "root" then some (.ref S.r) else [(Str.ofString "self", Value.ref S.o)].reverse.lookup y) ∧ News h₀ C h' ((S.o, instObj OSa S.od) :: (S.od, setD w S.t1 S.t2 S.r S.md) :: (S.r, instObj LKa S.rd) :: (S.rd, lnkD w S.a1 S.a2 S.a3 (.ref (ltA S.ls S.r)) (.ref (hdA S.ls S.r)) .none) :: othersOf h₀ C s''.heap)) (E := fun _ _ => False) ?w2 (fun f s' h => ?_) fun _ _ x => x.elim)
  case w2 =>
    clear F N hI F₁ N₁
    k_steps
    all_goals assumption
  obtain ⟨rfl, h₃, tk₃, rfl, F₃, N₃⟩ := h
  refine seg_execs_cons ?_
  refine seg_While fun p => ?_
  refine seg_iterLoop (r := S.r) (Good := Good h₀ C w S) ?stab ?test ?key ?step ?cob ?rne ?fs ?fg ?co ?int ?fin S.ls [] _ _ rfl ?good ?since
  case stab =>
    rintro H H' cur ⟨g1, g2, gd, m', g3⟩ hk
    refine ⟨fun b o e => hk b (List.mem_cons_of_mem _ (List.mem_append_right _ (keptOf_mem.mpr ⟨o, e⟩))) _ (g1 b o e), fun p hp => hk p.1 (List.mem_cons_of_mem _ (List.mem_append_left _ (by rw [← Os.led_adr (w := w)]; exact List.mem_map_of_mem hp))) _ (g2 p hp), gd, m', g3.at' fun o e => hk _ (.head _) o e⟩
  case test =>
    rintro A₁ E₁ cur s₁ ⟨g1, g2, gd, m', g3⟩
    have F₄ : Fr h₀ C s₁.heap (fun y => if y = "root" then some (.ref S.r) else if y = "curr" then some (.ref cur) else m' y) := ⟨g3, g1, hC0⟩
    have N₄ : News h₀ C s₁.heap (S.led w) := fun p hp => ⟨g2 p hp, hNC p hp, (N p hp).2.2⟩
    clear F N hI F₁ N₁ F₂ N₂ F₃ N₃
    refine wpAny_mono (Q := fun b s' => b = decide (cur ≠ S.r) ∧ ∃ tk, s' = { s₁ with toks := tk }) (E := fun _ _ => False) ?_ (fun _ _ h => h) fun _ _ h => h.elim
    k_steps
    obtain ⟨dc, hdc⟩ := gd
    refine isNot_insts (g2 _ hdc) (g2 (S.r, instObj LKa S.rd) (by simp [Os.led])) ?_
    k_steps
  case key =>
    rintro A₁ E₁ x done rest s₁ hls ⟨g1, g2, gd, m', g3⟩
    have F₄ : Fr h₀ C s₁.heap (fun y => if y = "root" then some (.ref S.r) else if y = "curr" then some (.ref x.a) else m' y) := ⟨g3, g1, hC0⟩
    have N₄ : News h₀ C s₁.heap ((x.a, instObj LKa x.d) :: (x.d, lnkD w x.t1 x.t2 x.t3 (.ref (ltA done S.r)) (.ref (hdA rest S.r)) (.str x.k x.kt)) :: S.led w) := by
      have N₅ : News h₀ C s₁.heap (S.led w) := fun p hp => ⟨g2 p hp, hNC p hp, (N p hp).2.2⟩
      refine News.sub N₅ fun p hp => ?_
      simp only [Os.led, hls, chain_append, chain_cons, List.mem_cons, List.mem_append] at hp ⊢
      rcases hp with rfl | rfl | hp
      · simp
      · simp
      · exact hp
    clear F N hI F₁ N₁ F₂ N₂ F₃ N₃
    refine wpAny_mono (Q := fun v s' => v = .str x.k x.kt ∧ ∃ tk, s' = { s₁ with toks := tk }) (E := fun _ _ => False) ?_ (fun _ _ h => h) fun _ _ h => h.elim
    k_steps
    all_goals assumption
  case step =>
    rintro A₁ E₁ x done rest s₁ hls ⟨g1, g2, gd, m', g3⟩
    have F₄ : Fr h₀ C s₁.heap (fun y => if y = "root" then some (.ref S.r) else if y = "curr" then some (.ref x.a) else m' y) := ⟨g3, g1, hC0⟩
    have N₄ : News h₀ C s₁.heap ((x.a, instObj LKa x.d) :: (x.d, lnkD w x.t1 x.t2 x.t3 (.ref (ltA done S.r)) (.ref (hdA rest S.r)) (.str x.k x.kt)) :: othersOf h₀ C s₁.heap) := by
      have N₅ : News h₀ C s₁.heap (S.led w) := fun p hp => ⟨g2 p hp, hNC p hp, (N p hp).2.2⟩
      intro p hp
      rcases List.mem_cons.mp hp with rfl | hp
      · exact N₅ _ (by simp only [Os.led, hls, chain_append, chain_cons, List.mem_cons, List.mem_append]; simp)
      rcases List.mem_cons.mp hp with rfl | hp
      · exact N₅ _ (by simp only [Os.led, hls, chain_append, chain_cons, List.mem_cons, List.mem_append]; simp)
      · exact othersOf_news p hp
    refine wpAny_mono (Q := fun f s' => f = .next ∧ ∃ h' tk, s' = { s₁ with heap := h', toks := tk } ∧ Fr h₀ C h' (fun y => if y = "curr" then some (.ref (hdA rest S.r)) else if y = "root" then some (.ref S.r) else if y = "curr" then some (.ref x.a) else m' y) ∧ News h₀ C h' ((x.a, instObj LKa x.d) :: (x.d, lnkD w x.t1 x.t2 x.t3 (.ref (ltA done S.r)) (.ref (hdA rest S.r)) (.str x.k x.kt)) :: othersOf h₀ C s₁.heap)) (E := fun _ _ => False) ?w5 (fun f s' h => ?_) fun _ _ h => h.elim
    case w5 =>
      clear F N hI F₁ N₁ F₂ N₂ F₃ N₃
      k_steps
      all_goals assumption
    obtain ⟨rfl, h', tk', rfl, F', N'⟩ := h
    have hkeep := othersOf_kept F' (News.sub N' fun p hp => .tail _ (.tail _ hp)) g1
    refine ⟨rfl, h', tk', rfl, ⟨F'.keep, fun p hp => hkeep _ _ (hNC p hp) (g2 p hp), hd_mem (done := done ++ [x]) (by rw [hls]; simp), m', ?_⟩, hkeep⟩
    have e := F'.ns
    refine (congrArg (Heap.Ns h' C) (funext fun y => ?_)).mp e
    by_cases h1 : y = "root"
    · subst h1; rfl
    · rw [if_neg h1, if_neg h1]
      by_cases h2 : y = "curr"
      · rw [if_pos h2, if_pos h2]
      · rw [if_neg h2, if_neg h2, if_neg h2]
  case cob =>
    rintro H cur ⟨g1, g2, gd, m', o, es, ep, g3, _⟩
    exact ⟨o, g3⟩
  case rne =>
    intro x hx e
    have hnd := ok.nd
    obtain ⟨l1, l2, hls⟩ := List.append_of_mem hx
    simp only [Os.adr, hls, chainA_append, chainA, List.nodup_cons, List.mem_cons, List.mem_append, not_or] at hnd
    exact hnd.2.2.2.1.2.2.1 e.symm
  case fs => rfl
  case fg => rfl
  case co => rfl
  case int => rfl
  case fin =>
    intro s₀ s₁ hs
    refine seg_leaf (.ok .next) ?_
    exact seg_end (.ok (.ret .none)) ⟨rfl, rfl, hs⟩
  case good =>
    refine ⟨F₃.keep, fun p hp => ?_, hd_mem (done := []) rfl, fun y => [(Str.ofString "self", Value.ref S.o)].reverse.lookup y, (congrArg (Heap.Ns h₃ C) (funext fun y => ?_)).mp F₃.ns⟩
    · exact othersOf_kept F₃ (News.sub N₃ fun p hp => .tail _ (.tail _ (.tail _ (.tail _ hp)))) hst p.1 p.2 (hNC p hp) (hled p hp)
    · by_cases h1 : y = "root"
      · subst h1; rfl
      · rw [if_neg h1, if_neg h1]
  case since =>
    exact ⟨h₃, tk₃, rfl, fun b o hb _ e => othersOf_kept F₃ (News.sub N₃ fun p hp => .tail _ (.tail _ (.tail _ (.tail _ hp)))) hst b o hb e⟩
end

end SOsIter
section SOsComp
local macro_rules | `(tactic| k_room) => `(tactic| (show (_ : Nat) < _; (try simp only [depth_under_make, depth_under_kw, depth_in1, depth_deeper, depth_caller]); (try simp only [show recursionLimit = 1000 from rfl]); omega))
local macro_rules | `(tactic| k_ne) => `(tactic| (refine neN ?_; first | assumption | (refine Ne.symm ?_; assumption) | ((try dsimp only); omega)))
local macro_rules | `(tactic| k_all) => `(tactic| first | exact own_ne (by assumption) (by intro p hp; k_ownIn) | exact own_ne' (by assumption) (by assumption) (by intro p hp; k_ownIn))
local macro_rules | `(tactic| k_all) => `(tactic| exact OwnOff.ne (by assumption) (by k_memK))
local macro_rules | `(tactic| k_all) => `(tactic| (refine' List.forall_mem_cons.mpr ⟨?a, ?b⟩; (case a => k_ne); (case b => k_all)))
local macro_rules | `(tactic| k_lt $h:ident) => `(tactic| (have l0 : AllBelow _ _ := $h; replace $h := allLt_of $h; (try simp only [AllLt, and_true] at $h:ident)))

local macro_rules | `(tactic| k_allIn) => `(tactic| (intro p hp; k_ownIn))
local macro_rules | `(tactic| k_allIn) => `(tactic| (refine List.forall_mem_cons.mpr ⟨by k_memK, ?_⟩; k_allIn))


local macro_rules | `(tactic| k_enter) => `(tactic| (refine' code_def ?k1 ?k2 ?k3 ?k4 ?k5 ?kA ?kF ?kK ?k6 ?k7 ?k8 ?k9 ?kB ?kZ ?c2 ?c3 ?c4 ?c5; (case kA => exact rfl); (case kF => (first | exact rfl | assumption)); (case kK => (first | exact rfl | assumption)); (case k1 => k_asm); (case k2 => k_asm); (case k3 => k_asm); (case k4 => k_asm); (case k5 => k_asm); (case k6 => k_is); (case k7 => k_is); (case k8 => k_room); (case k9 => (first | exact BindsTo.of_eq rfl | exact binds_K (by k_in) rfl (by k_is) rfl rfl rfl)); (case c5 => decide); (case kB => exact locs rfl); (case c2 => exact rfl); (case c3 => exact rfl); (case c4 => exact rfl); k_whole; intro g' L' h' FG' F' N' B' X' T'; (try dsimp only); (try k_fold)))

local macro_rules | `(tactic| walk_at "call ref") => `(tactic| ((with_reducible first | (show wpAny _ _ (call (Value.ref 57) _ _) _ _ _) | (show wpAny _ _ (call (Value.ref 64) _ _) _ _ _) | (show wpAny _ _ (call (Value.ref 71) _ _) _ _ _) | (show wpAny _ _ (call (Value.ref 78) _ _) _ _ _) | (show wpAny _ _ (call (Value.ref 100) _ _) _ _ _) | (show wpAny _ _ (call (Value.ref 107) _ _) _ _ _) | (show wpAny _ _ (call (Value.ref 110) _ _) _ _ _)); refine stop_intro ?_))
local macro_rules | `(tactic| walk_at "exec For") => `(tactic| refine stop_intro ?_)
local macro_rules | `(tactic| walk_at "exec For Name") => `(tactic| refine stop_intro ?_)
local macro_rules | `(tactic| walk_at "exec For Name Name") => `(tactic| refine stop_intro ?_)
local macro_rules | `(tactic| walk_at "exec For Name Name cons") => `(tactic| refine stop_intro ?_)
local macro_rules | `(tactic| walk_at "exec For Name Name cons nil") => `(tactic| refine stop_intro ?_)
local macro_rules | `(tactic| walk_at "exec For Name Subscript cons nil") => `(tactic| refine stop_intro ?_)
abbrev lstO (ys : List Value) : Obj := { cls := .type "list", data := .seq ys.toArray ys.length }
theorem lstO_snoc (ys : List Value) (y : Value) : ({ cls := .type "list", data := .seq (ys.toArray.push y) (ys.length + 1) } : Obj) = lstO (ys ++ [y]) := by
  simp only [lstO, List.push_toArray, List.length_append, List.length_singleton]

section
variable {prog : Program} {w : World} {A : Around} {E : Value → Shared → Prop} {env : Env}

def CompTests (prog : Program) (w : World) (A : Around) (env : Env) (scope : Scope) (cl : List (Str × Addr)) (x : Str) (ifs : List Expr) (wr : List Addr) (P : Nat → Value → Prop) (p : Value → Bool) (s₂ : Shared) : Prop :=
  ∀ C i v (s₃ : Shared) m₃ E', s₂.heap.objs.size ≤ C → P i v → s₃.heap.Ns C m₃ → m₃ x = some v → (∀ b o, b ∉ wr → s₂.heap.get? b = some o → s₃.heap.get? b = some o) →
    wpAny (model prog w) A (forIn ifs true fun c r => if r = true then do let ok ← isTrue c (compEnvC scope cl C env) (eval c (compEnvC scope cl C env)); pure (ForInStep.yield ok) else pure (ForInStep.yield r))
      (fun ok s₄ => ok = p v ∧ Keeps s₃ s₄) E' s₃
def CompElt (prog : Program) (w : World) (A : Around) (env : Env) (scope : Scope) (cl : List (Str × Addr)) (x : Str) (elt : Expr) (wr : List Addr) (P : Nat → Value → Prop) (p : Value → Bool) (Fv : Value → Value → Prop) (s₂ : Shared) : Prop :=
  ∀ C i v (s₃ : Shared) m₃ E', s₂.heap.objs.size ≤ C → P i v → p v = true → s₃.heap.Ns C m₃ → m₃ x = some v → (∀ b o, b ∉ wr → s₂.heap.get? b = some o → s₃.heap.get? b = some o) →
    wpAny (model prog w) A (eval elt (compEnvC scope cl C env)) (fun y s₄ => Fv v y ∧ Keeps s₃ s₄) E' s₃

theorem comp_blockS {elt iter : Expr} {x : Str} {px : Pos} {ifs : List Expr} {scope : Scope} {cl : List (Str × Addr)} {pos : Pos} {s₂ : Shared} {I : Addr} {fp wr : List Addr} {G : Array GenState → Array GenState → Prop} {n : Nat} {P : Nat → Value → Prop} {St : Nat → Shared → Prop}
    (W : WalksS prog w A I fp wr G n P St) (hsz : n ≤ sizeLine) (p : Value → Bool) (Fv : Value → Value → Prop) {RR : Value → Addr → Result → Shared → Prop}
    (hcell : ∀ y ∈ scope.names, y.2 ≠ .cell) (hkind : scope.kind = .function) (hx : scope.names.lookup x = some .local) (hst : St 0 s₂) (hfp : ∀ b ∈ fp, b < s₂.heap.objs.size)
    (tests : CompTests prog w A env scope cl x ifs wr P p s₂) (elts : CompElt prog w A env scope cl x elt wr P p Fv s₂)
    (hRR : ∀ D C s' m' ys (vs : List Value), s₂.heap.objs.size ≤ D → s₂.heap.objs.size ≤ C → D ≠ C → s'.heap.Ns C m' → s'.heap.get? D = some (lstO ys) → vs.length = n → (∀ j v, vs[j]? = some v → P j v) → Paired Fv (vs.filter p) ys →
      Moved wr G s₂ s' → RR (.ref D) C (.ok .next) s') :
    wpAny (model prog w) A (newList []) (fun acc s₃ => wpAny (model prog w) A (newFunctionEnv scope env.globals cl [] env.qual none .none (some env)) (fun cenv s₄ =>
      codeAny (model prog w) A (.compStart (.ListComp elt [⟨.Name x px, iter, ifs, 0⟩] scope pos) 0 (.ref I) acc { cenv with scope := relabel scope env }) (RR acc cenv.locals) s₄) E s₃) E s₂ := by
  refine wpAny_newObj_type (wpAny_newFunctionEnv hcell (by intro y hy; simp at hy) (fun h₁ hns₁ hsb₁ => ?_) hkind)
  dsimp only at hns₁ hsb₁ ⊢
  generalize hH2 : s₂.heap.push { cls := .type "list", dict := none, data := .seq ([] : List Value).toArray } = H2 at hns₁ hsb₁ ⊢
  have hC : H2.objs.size = s₂.heap.objs.size + 1 := by rw [← hH2, Heap.size_push]
  have hDC : s₂.heap.objs.size ≠ H2.objs.size := by rw [hC]; exact Nat.ne_of_lt (Nat.lt_succ_self _)
  have below : ∀ b, b < s₂.heap.objs.size → b ≠ H2.objs.size ∧ b ≠ s₂.heap.objs.size := fun b hb => ⟨by rw [hC]; exact Nat.ne_of_lt (Nat.lt_succ_of_lt hb), Nat.ne_of_lt hb⟩
  have hDf : s₂.heap.objs.size ∉ fp := fun hm => Nat.lt_irrefl _ (hfp _ hm)
  have hCf : H2.objs.size ∉ fp := fun hm => by have := hfp _ hm; rw [hC] at this; exact Nat.lt_irrefl _ (Nat.lt_of_succ_lt this)
  have hDw : s₂.heap.objs.size ∉ wr := fun hm => hDf (W.sub _ hm)
  have hCw : H2.objs.size ∉ wr := fun hm => hCf (W.sub _ hm)
  have hCge : s₂.heap.objs.size ≤ H2.objs.size := by rw [hC]; exact Nat.le_succ _
  have old : ∀ b o, s₂.heap.get? b = some o → h₁.get? b = some o := fun b o e => hsb₁.extBut b o (below b (Heap.lt_size e)).1 (Heap.get?_push_of_some _ (hH2 ▸ Heap.get?_push_of_some _ e))
  have hacc : h₁.get? s₂.heap.objs.size = some (lstO []) := hsb₁.extBut _ _ hDC (Heap.get?_push_of_some _ (hH2 ▸ Heap.get?_push_size _ rfl))
  generalize hs3 : ({ s₂ with heap := h₁, toks := s₂.toks + ([] : List (Str × Value)).length } : Shared) = s3
  have hst₁ : St 0 s3 := by subst hs3; exact W.frame _ _ _ _ hst (Nat.le_add_right _ _) fun b _ o e => old b o e
  have mv₁ : Moved wr G s₂ s3 := by subst hs3; exact (Moved.refl W.grefl).then_heap (Nat.le_add_right _ _) fun b o _ e => old b o e
  have loop : codeAny (model prog w) A (.compLoop (.ListComp elt [⟨.Name x px, iter, ifs, 0⟩] scope pos) 0 (.ref I) (.ref s₂.heap.objs.size) (compEnvC scope cl H2.objs.size env))
        (RR (.ref s₂.heap.objs.size) H2.objs.size) s3 := by
    refine codeAny_compLoop_tests
      (fun k s' => ∃ m' ys, ∃ vs : List Value, Moved wr G s₂ s' ∧ St vs.length s' ∧ s'.heap.get? s₂.heap.objs.size = some (lstO ys) ∧ s'.heap.Ns H2.objs.size m' ∧ (∀ j v, vs[j]? = some v → P j v) ∧
        Paired Fv (vs.filter p) ys ∧ vs.length ≤ n ∧ k = n + 1 - vs.length) ?_ (n + 1)
      ⟨_, [], [], mv₁, hst₁, by subst hs3; exact hacc, by subst hs3; exact hns₁, by simp, .nil, Nat.zero_le _, rfl⟩
    rintro k s' ⟨m', ys, vs, mv, hst', hacc', hn', hP, hF, hi, rfl⟩
    by_cases hlt : vs.length < n
    · refine W.item vs.length _ _ _ hlt hst' fun v s₁ hPv hst₁ mv₁ => ?_
      have hn₁ := hn'.at' fun o e => mv₁.heap _ o hCw e
      refine wpAny_assign_Name (wpAny_storeName_local (lookup_relabel_local hx) hn₁ (fun h₃ hn₃ hs₃ => ?_) (by simp [compEnvC, relabel, hkind]))
      have mv₂ := mv.trans W.gtrans mv₁
      have up₃ : ∀ b o, b ∉ wr → b ≠ H2.objs.size → s'.heap.get? b = some o → h₃.get? b = some o := fun b o hb hbC e => hs₃.extBut b o hbC (mv₁.heap b o hb e)
      have kp₃ : ∀ b o, b ∉ wr → s₂.heap.get? b = some o → h₃.get? b = some o := fun b o hb e => hs₃.extBut b o (below b (Heap.lt_size e)).1 (mv₂.heap b o hb e)
      have hst₃ : St (vs.length + 1) { s₁ with heap := h₃, toks := s₁.toks + 1 } := W.frame _ _ _ _ hst₁ (Nat.le_succ _) fun b hb o e => hs₃.extBut b o (fun q => hCf (by have q' : b = H2.objs.size := q; rw [← q']; exact hb)) e
      refine wpAny_with_toks (n := s₁.toks) (Nat.le_succ _) (wpAny_mono (tests H2.objs.size vs.length v _ _ _ hCge hPv hn₃ (by simp) kp₃) (fun ok s₄ h₄ htk₄ => ?_) fun _ _ e _ => e)
      obtain ⟨rfl, h₄, tk₄, rfl, hk₄⟩ := h₄
      have hst₄ : St (vs.length + 1) { s₁ with heap := h₄, toks := tk₄ } := W.frame _ _ _ _ hst₁ htk₄ fun b hb o e => hk₄ b o (hs₃.extBut b o (fun q => hCf (by have q' : b = H2.objs.size := q; rw [← q']; exact hb)) e)
      have hacc₄ : h₄.get? s₂.heap.objs.size = some (lstO ys) := hk₄ _ _ (up₃ _ _ hDw hDC hacc')
      have hn₄ := hn₃.keeps hk₄
      have mv₄ : Moved wr G s₂ { s₁ with heap := h₄, toks := tk₄ } := ⟨fun b o hb e => hk₄ b o (kp₃ b o hb e), mv₂.gens, mv₂.drawn, mv₂.os, Nat.le_trans mv₂.toks htk₄⟩
      have hP' : ∀ j u, (vs ++ [v])[j]? = some u → P j u := fun j u hj => by
        rcases Nat.lt_trichotomy j vs.length with h | h | h
        · exact hP j u (by rwa [List.getElem?_append_left h] at hj)
        · subst h; simp at hj; subst hj; exact hPv
        · have hnone : (vs ++ [v])[j]? = none := List.getElem?_eq_none (by rw [List.length_append, List.length_singleton]; omega)
          rw [hnone] at hj; cases hj
      cases hpv : p v with
      | false =>
        simp only [Bool.false_eq_true, if_false]
        refine ⟨n + 1 - (vs.length + 1), by omega, _, ys, vs ++ [v], mv₄, by simpa using hst₄, hacc₄, hn₄, hP', ?_, (by rw [List.length_append, List.length_singleton]; exact hlt), by rw [List.length_append, List.length_singleton]⟩
        rw [List.filter_append]; simpa [hpv] using hF
      | true =>
        simp only [if_true]
        refine wpAny_with_toks (n := s₁.toks) htk₄ (wpAny_mono (elts H2.objs.size vs.length v _ _ _ hCge hPv hpv hn₄ (by simp) fun b o hb e => hk₄ b o (kp₃ b o hb e)) (fun y s₅ h₅ htk₅ => ?_) fun _ _ e _ => e)
        obtain ⟨hFy, h₅, tk₅, rfl, hk₅⟩ := h₅
        have hys : ys.length ≤ sizeLine := by
          have e1 := hF.length
          have e2 : (vs.filter p).length ≤ vs.length := List.length_filter_le _ _
          omega
        refine append_at (hsz := by rw [List.size_toArray]; exact hys) (hk₅ _ _ hacc₄) fun h₆ hs₆ hD₆ => ?_
        refine ⟨n + 1 - (vs.length + 1), by omega, _, ys ++ [y], vs ++ [v], ⟨fun b o hb e => hs₆.extBut b o (below b (Heap.lt_size e)).2 (hk₅ b o (hk₄ b o (kp₃ b o hb e))), mv₂.gens, mv₂.drawn, mv₂.os, Nat.le_trans mv₂.toks htk₅⟩, ?_,
          hD₆.trans (congrArg some (lstO_snoc ys y)), (hn₄.keeps hk₅).sameBut hs₆ (Ne.symm hDC), hP', ?_, (by rw [List.length_append, List.length_singleton]; exact hlt), by rw [List.length_append, List.length_singleton]⟩
        · have := W.frame _ _ h₆ tk₅ hst₁ htk₅ fun b hb o e => hs₆.extBut b o (fun q => hDf (q ▸ hb)) (hk₅ b o (hk₄ b o (hs₃.extBut b o (fun q => hCf (by have q' : b = H2.objs.size := q; rw [← q']; exact hb)) e)))
          simpa using this
        · rw [List.filter_append]; simpa [hpv] using hF.snoc hFy
    · have hin : vs.length = n := by omega
      refine W.done _ _ _ (hin ▸ hst') fun s₁ mv₁ => ?_
      exact hRR _ _ s₁ m' ys vs (Nat.le_refl _) hCge hDC (hn'.at' fun o e => mv₁.heap _ o hCw e) (mv₁.heap _ _ hDw hacc') hin hP hF (mv.trans W.gtrans mv₁)
  exact codeAny_compStart_list loop (W.self 0 _ _ _ hst₁ loop)

def CompAt (prog : Program) (w : World) (A : Around) (env : Env) (scope : Scope) (cl : List (Str × Addr)) (x : Str) (ifs : List Expr) (elt : Expr) (Fin : Nat → (Nat → Value → Prop) → (Value → Bool) → (Value → Value → Prop) → List Addr → (Array GenState → Array GenState → Prop) → Shared → Prop) (it : Value) (s₂ : Shared) : Prop :=
  ∃ I fp wr G n P St p Fv, it = .ref I ∧ WalksS prog w A I fp wr G n P St ∧ n ≤ sizeLine ∧ St 0 s₂ ∧ (∀ b ∈ fp, b < s₂.heap.objs.size) ∧ CompTests prog w A env scope cl x ifs wr P p s₂ ∧ CompElt prog w A env scope cl x elt wr P p Fv s₂ ∧ Fin n P p Fv wr G s₂
def CompGot (n : Nat) (P : Nat → Value → Prop) (p : Value → Bool) (Fv : Value → Value → Prop) (wr : List Addr) (G : Array GenState → Array GenState → Prop) (s₂ : Shared) (D : Addr) (ys : List Value) (s' : Shared) : Prop :=
  ∃ vs : List Value, vs.length = n ∧ (∀ j v, vs[j]? = some v → P j v) ∧ Paired Fv (vs.filter p) ys ∧ s₂.heap.objs.size ≤ D ∧ s'.heap.get? D = some (lstO ys) ∧
    (∀ b o, b ∉ wr → s₂.heap.get? b = some o → s'.heap.get? b = some o) ∧ G s₂.gens s'.gens ∧ s'.os = s₂.os

theorem comp_evalS {elt iter : Expr} {x : Str} {px : Pos} {ifs : List Expr} {scope : Scope} {cl : List (Str × Addr)} {pos : Pos} {s : Shared} {Q : Value → Shared → Prop}
    (hclos : closureFor scope env = pure cl) (hcell : ∀ y ∈ scope.names, y.2 ≠ .cell) (hkind : scope.kind = .function)
    (hnames : ∀ y ∈ scope.names, y.2 = .local → scope.names.lookup y.1 = some .local) (hx : scope.names.lookup x = some .local)
    (h : wpAny (model prog w) A (eval iter env) (fun xv s₁ => wpAny (model prog w) A (pyIter xv) (CompAt prog w A env scope cl x ifs elt
      fun n P p Fv wr G s₂ => ∀ D ys s', CompGot n P p Fv wr G s₂ D ys s' → Q (.ref D) s') E s₁) E s)
    (hs : ∀ x, foldedSetIterable iter env x = pure x := by intro _; rfl) :
    wpAny (model prog w) A (eval (.ListComp elt [⟨.Name x px, iter, ifs, 0⟩] scope pos) env) Q E s := by
  rw [eval_ListComp]
  refine wpAny_comprehension_free (use := none) rfl hs hclos hkind hnames (wpAny_mono h (fun xv s₁ h₁ => wpAny_mono h₁ (fun it s₂ h₂ => ?_) fun _ _ e => e) fun _ _ e => e)
  obtain ⟨I, fp, wr, G, n, P, St, p, Fv, rfl, W, hsz, hst, hfp, tests, elts, fin⟩ := h₂
  refine comp_blockS W hsz p Fv hcell hkind hx hst hfp tests elts fun D C s' m' ys vs hD hC hDC hnC hlD hlen hP hF mv => ?_
  have hDn : ∀ b o, b ∉ wr → s₂.heap.get? b = some o → b ≠ C := fun b o _ e q => absurd (Heap.lt_size e) (by rw [q]; exact Nat.not_lt.mpr hC)
  exact ⟨m', hnC, fun h' hs' => fin D ys _ ⟨vs, hlen, hP, hF, hD, hs'.extBut _ _ hDC hlD, fun b o hb e => hs'.extBut b o (hDn b o hb e) (mv.heap b o hb e), mv.gens, mv.os⟩⟩

theorem comp_assignS {elt iter : Expr} {x y : Str} {px py : Pos} {ifs : List Expr} {scope : Scope} {cl : List (Str × Addr)} {pos spos : Pos} {s : Shared} {Q : Flow → Shared → Prop}
    (hsw : swapsWith (.ListComp elt [⟨.Name x px, iter, ifs, 0⟩] scope pos) (some (.Name y py)) spos.line env = pure true)
    (hclos : closureFor scope env = pure cl) (hcell : ∀ y ∈ scope.names, y.2 ≠ .cell) (hkind : scope.kind = .function)
    (hnames : ∀ y ∈ scope.names, y.2 = .local → scope.names.lookup y.1 = some .local) (hx : scope.names.lookup x = some .local)
    (h : wpAny (model prog w) A (eval iter env) (fun xv s₁ => wpAny (model prog w) A (pyIter xv) (CompAt prog w A env scope cl x ifs elt
      fun n P p Fv wr G s₂ => ∀ D C ys s', CompGot n P p Fv wr G s₂ D ys s' → s₂.heap.objs.size ≤ C → D ≠ C → wpAny (model prog w) A (storeName env y (.ref D)) (fun _ s'' => (∀ o, s'.heap.get? C = some o → s''.heap.get? C = some o) ∧
        ∀ h', Heap.SameBut C s''.heap h' → Q .next { s'' with heap := h' }) E s') E s₁) E s)
    (hs : ∀ x, foldedSetIterable iter env x = pure x := by intro _; rfl) :
    wpAny (model prog w) A (exec (.Assign [.Name y py] (.ListComp elt [⟨.Name x px, iter, ifs, 0⟩] scope pos) spos) env) Q E s := by
  rw [exec_Assign_Name_used _ _ _ _ hsw]
  refine wpAny_bind (wpAny_standAt (wpAny_bind ?_))
  show wpAny _ A (do let _ ← comprehension (.ListComp elt [⟨.Name x px, iter, ifs, 0⟩] scope pos) scope env _ (newList []) false (eval iter env) (some (assign (.Name y py) env))) _ _ s
  refine wpAny_bind (wpAny_mono (wpAny_comprehension_free (use := some (assign (.Name y py) env)) (Q := fun _ s' => Q .next s') rfl hs hclos hkind hnames
    (wpAny_mono h (fun xv s₁ h₁ => wpAny_mono h₁ (fun it s₂ h₂ => ?_) fun _ _ e => e) fun _ _ e => e)) (fun _ s' hq => wpAny_pure (wpAny_pure hq)) fun _ _ e => e)
  obtain ⟨I, fp, wr, G, n, P, St, p, Fv, rfl, W, hsz, hst, hfp, tests, elts, fin⟩ := h₂
  refine comp_blockS W hsz p Fv hcell hkind hx hst hfp tests elts fun D C s' m' ys vs hD hC hDC hnC hlD hlen hP hF mv => ?_
  show wpAny _ A (assign (.Name y py) env (.ref D)) _ _ _
  refine wpAny_assign_Name (wpAny_mono (fin D C ys s' ⟨vs, hlen, hP, hF, hD, hlD, mv.heap, mv.gens, mv.os⟩ hC hDC) (fun _ s'' h => ?_) fun _ _ e => e)
  exact ⟨m', hnC.at' h.1, h.2⟩
end

end SOsComp
section SOsFor
local macro_rules | `(tactic| k_room) => `(tactic| (show (_ : Nat) < _; (try simp only [depth_under_make, depth_under_kw, depth_in1, depth_deeper, depth_caller]); (try simp only [show recursionLimit = 1000 from rfl]); omega))
local macro_rules | `(tactic| k_ne) => `(tactic| (refine neN ?_; first | assumption | (refine Ne.symm ?_; assumption) | ((try dsimp only); omega)))
local macro_rules | `(tactic| k_all) => `(tactic| first | exact own_ne (by assumption) (by intro p hp; k_ownIn) | exact own_ne' (by assumption) (by assumption) (by intro p hp; k_ownIn))
local macro_rules | `(tactic| k_all) => `(tactic| exact OwnOff.ne (by assumption) (by k_memK))
local macro_rules | `(tactic| k_all) => `(tactic| (refine' List.forall_mem_cons.mpr ⟨?a, ?b⟩; (case a => k_ne); (case b => k_all)))
local macro_rules | `(tactic| k_lt $h:ident) => `(tactic| (have l0 : AllBelow _ _ := $h; replace $h := allLt_of $h; (try simp only [AllLt, and_true] at $h:ident)))

local macro_rules | `(tactic| k_allIn) => `(tactic| (intro p hp; k_ownIn))
local macro_rules | `(tactic| k_allIn) => `(tactic| (refine List.forall_mem_cons.mpr ⟨by k_memK, ?_⟩; k_allIn))


local macro_rules | `(tactic| k_enter) => `(tactic| (refine' code_def ?k1 ?k2 ?k3 ?k4 ?k5 ?kA ?kF ?kK ?k6 ?k7 ?k8 ?k9 ?kB ?kZ ?c2 ?c3 ?c4 ?c5; (case kA => exact rfl); (case kF => (first | exact rfl | assumption)); (case kK => (first | exact rfl | assumption)); (case k1 => k_asm); (case k2 => k_asm); (case k3 => k_asm); (case k4 => k_asm); (case k5 => k_asm); (case k6 => k_is); (case k7 => k_is); (case k8 => k_room); (case k9 => (first | exact BindsTo.of_eq rfl | exact binds_K (by k_in) rfl (by k_is) rfl rfl rfl)); (case c5 => decide); (case kB => exact locs rfl); (case c2 => exact rfl); (case c3 => exact rfl); (case c4 => exact rfl); k_whole; intro g' L' h' FG' F' N' B' X' T'; (try dsimp only); (try k_fold)))

local macro_rules | `(tactic| walk_at "call ref") => `(tactic| ((with_reducible first | (show wpAny _ _ (call (Value.ref 57) _ _) _ _ _) | (show wpAny _ _ (call (Value.ref 64) _ _) _ _ _) | (show wpAny _ _ (call (Value.ref 71) _ _) _ _ _) | (show wpAny _ _ (call (Value.ref 78) _ _) _ _ _) | (show wpAny _ _ (call (Value.ref 100) _ _) _ _ _) | (show wpAny _ _ (call (Value.ref 107) _ _) _ _ _) | (show wpAny _ _ (call (Value.ref 110) _ _) _ _ _)); refine stop_intro ?_))
local macro_rules | `(tactic| walk_at "exec For") => `(tactic| refine stop_intro ?_)
local macro_rules | `(tactic| walk_at "exec For Name") => `(tactic| refine stop_intro ?_)
local macro_rules | `(tactic| walk_at "exec For Name Name") => `(tactic| refine stop_intro ?_)
local macro_rules | `(tactic| walk_at "exec For Name Name cons") => `(tactic| refine stop_intro ?_)
local macro_rules | `(tactic| walk_at "exec For Name Name cons nil") => `(tactic| refine stop_intro ?_)
local macro_rules | `(tactic| walk_at "exec For Name Subscript cons nil") => `(tactic| refine stop_intro ?_)
section
variable {prog : Program} {w : World} {A : Around} {E : Value → Shared → Prop} {env : Env} {s : Shared}
def ForAt (prog : Program) (w : World) (A : Around) (env : Env) (x : Str) (body : List Stmt) (Q : Flow → Shared → Prop) (it : Value) (s₂ : Shared) : Prop :=
  ∃ (I : Addr) (fp wr : List Addr) (G : Array GenState → Array GenState → Prop) (n : Nat) (P : Nat → Value → Prop) (St : Nat → Shared → Prop) (J : Nat → Shared → Prop),
    it = .ref I ∧ WalksS prog w A I fp wr G n P St ∧ St 0 s₂ ∧ J 0 s₂ ∧ (∀ i s s', J i s → Moved wr G s s' → J i s') ∧
    (∀ i v s₁, i < n → P i v → J i s₁ → St (i + 1) s₁ → wpAny (model prog w) A (storeName env x v) (fun _ s₂ => wpAny (model prog w) A (execs body env) (fun f s₃ => match f with
        | .next | .cont => J (i + 1) s₃ ∧ St (i + 1) s₃
        | .brk => Q .next s₃
        | .ret v => Q (.ret v) s₃) (fun _ _ => False) s₂) (fun _ _ => False) s₁) ∧
    ∀ s₁, J n s₁ → Q .next s₁

theorem for_any {x : Str} {px pos : Pos} {iter : Expr} {body : List Stmt} {Q : Flow → Shared → Prop}
    (h : wpAny (model prog w) A (eval iter env) (fun xv s₁ => wpAny (model prog w) A (pyIter xv) (ForAt prog w A env x body Q) E s₁) E s)
    (hs : ∀ x, foldedSetIterable iter env x = pure x := by intro _; rfl) :
    wpAny (model prog w) A (exec (.For (.Name x px) iter body [] pos) env) Q E s := by
  refine wpAny_For (wpAny_mono h (fun xv s₁ h₁ => wpAny_mono h₁ (fun it s₂ h₂ => ?_) fun _ _ e => e) fun _ _ e => e) hs
  obtain ⟨I, fp, wr, G, n, P, St, J, rfl, W, hst, hJ, stab, turn, done⟩ := h₂
  refine codeAny_forLoop (fun k s' => ∃ i, i ≤ n ∧ k = n + 1 - i ∧ J i s' ∧ St i s') ?_ (n + 1) ⟨0, Nat.zero_le _, rfl, hJ, hst⟩
  rintro k s' ⟨i, hi, rfl, hJ', hst'⟩
  by_cases hlt : i < n
  · refine W.item i _ _ _ hlt hst' fun v s₁ hP hst₁ mv => ?_
    refine wpAny_assign_Name (wpAny_mono (turn i v s₁ hlt hP (stab _ _ _ hJ' mv) hst₁) (fun _ s₂ h₂ => wpAny_mono h₂ (fun f s₃ h₃ => ?_) fun _ _ e => e.elim) fun _ _ e => e.elim)
    cases f with
    | next => exact ⟨n + 1 - (i + 1), by omega, i + 1, hlt, rfl, h₃.1, h₃.2⟩
    | cont => exact ⟨n + 1 - (i + 1), by omega, i + 1, hlt, rfl, h₃.1, h₃.2⟩
    | brk => exact h₃
    | ret v => exact h₃
  · obtain rfl : i = n := by omega
    refine W.done _ _ _ hst' fun s₁ mv => wpAny_execs_nil ?_
    exact done s₁ (stab _ _ _ hJ' mv)
end

end SOsFor
section SOsSrc
local macro_rules | `(tactic| k_room) => `(tactic| (show (_ : Nat) < _; (try simp only [depth_under_make, depth_under_kw, depth_in1, depth_deeper, depth_caller]); (try simp only [show recursionLimit = 1000 from rfl]); omega))
local macro_rules | `(tactic| k_ne) => `(tactic| (refine neN ?_; first | assumption | (refine Ne.symm ?_; assumption) | ((try dsimp only); omega)))
local macro_rules | `(tactic| k_all) => `(tactic| first | exact own_ne (by assumption) (by intro p hp; k_ownIn) | exact own_ne' (by assumption) (by assumption) (by intro p hp; k_ownIn))
local macro_rules | `(tactic| k_all) => `(tactic| exact OwnOff.ne (by assumption) (by k_memK))
local macro_rules | `(tactic| k_all) => `(tactic| (refine' List.forall_mem_cons.mpr ⟨?a, ?b⟩; (case a => k_ne); (case b => k_all)))
local macro_rules | `(tactic| k_lt $h:ident) => `(tactic| (have l0 : AllBelow _ _ := $h; replace $h := allLt_of $h; (try simp only [AllLt, and_true] at $h:ident)))

local macro_rules | `(tactic| k_allIn) => `(tactic| (intro p hp; k_ownIn))
local macro_rules | `(tactic| k_allIn) => `(tactic| (refine List.forall_mem_cons.mpr ⟨by k_memK, ?_⟩; k_allIn))


local macro_rules | `(tactic| k_enter) => `(tactic| (refine' code_def ?k1 ?k2 ?k3 ?k4 ?k5 ?kA ?kF ?kK ?k6 ?k7 ?k8 ?k9 ?kB ?kZ ?c2 ?c3 ?c4 ?c5; (case kA => exact rfl); (case kF => (first | exact rfl | assumption)); (case kK => (first | exact rfl | assumption)); (case k1 => k_asm); (case k2 => k_asm); (case k3 => k_asm); (case k4 => k_asm); (case k5 => k_asm); (case k6 => k_is); (case k7 => k_is); (case k8 => k_room); (case k9 => (first | exact BindsTo.of_eq rfl | exact binds_K (by k_in) rfl (by k_is) rfl rfl rfl)); (case c5 => decide); (case kB => exact locs rfl); (case c2 => exact rfl); (case c3 => exact rfl); (case c4 => exact rfl); k_whole; intro g' L' h' FG' F' N' B' X' T'; (try dsimp only); (try k_fold)))

local macro_rules | `(tactic| walk_at "call ref") => `(tactic| ((with_reducible first | (show wpAny _ _ (call (Value.ref 57) _ _) _ _ _) | (show wpAny _ _ (call (Value.ref 64) _ _) _ _ _) | (show wpAny _ _ (call (Value.ref 71) _ _) _ _ _) | (show wpAny _ _ (call (Value.ref 78) _ _) _ _ _) | (show wpAny _ _ (call (Value.ref 100) _ _) _ _ _) | (show wpAny _ _ (call (Value.ref 107) _ _) _ _ _) | (show wpAny _ _ (call (Value.ref 110) _ _) _ _ _)); refine stop_intro ?_))
local macro_rules | `(tactic| walk_at "exec For") => `(tactic| refine stop_intro ?_)
local macro_rules | `(tactic| walk_at "exec For Name") => `(tactic| refine stop_intro ?_)
local macro_rules | `(tactic| walk_at "exec For Name Name") => `(tactic| refine stop_intro ?_)
local macro_rules | `(tactic| walk_at "exec For Name Name cons") => `(tactic| refine stop_intro ?_)
local macro_rules | `(tactic| walk_at "exec For Name Name cons nil") => `(tactic| refine stop_intro ?_)
local macro_rules | `(tactic| walk_at "exec For Name Subscript cons nil") => `(tactic| refine stop_intro ?_)
inductive Names : List Value → List Str → Prop
  | nil : Names [] []
  | cons {k : Str} {vs : List Value} {ks : List Str} (t : Tok) : Names vs ks → Names (.str k t :: vs) (k :: ks)
theorem Names.length {vs : List Value} {ks : List Str} (h : Names vs ks) : vs.length = ks.length := by
  induction h with
  | nil => rfl
  | cons _ _ ih => rw [List.length_cons, List.length_cons, ih]
theorem Names.get {vs : List Value} {ks : List Str} (h : Names vs ks) : ∀ (i : Nat) (v : Value), vs[i]? = some v → ∃ k t, ks[i]? = some k ∧ v = Value.str k t := by
  induction h with
  | nil => intro i v e; simp at e
  | cons t _ ih =>
    intro i v e
    cases i with
    | zero => simp only [List.getElem?_cons_zero, Option.some.injEq] at e; exact ⟨_, t, rfl, e.symm⟩
    | succ i => simp only [List.getElem?_cons_succ] at e ⊢; exact ih i v e
theorem Names.append {vs vs' : List Value} {ks ks' : List Str} (h : Names vs ks) (h' : Names vs' ks') : Names (vs ++ vs') (ks ++ ks') := by
  induction h with
  | nil => exact h'
  | cons t _ ih => exact .cons t ih
theorem Names.of {vs : List Value} {ks : List Str} (hl : vs.length = ks.length) (h : ∀ (i : Nat) (v : Value), vs[i]? = some v → ∃ k t, ks[i]? = some k ∧ v = Value.str k t) : Names vs ks := by
  induction vs generalizing ks with
  | nil => cases ks with
    | nil => exact .nil
    | cons k ks => simp at hl
  | cons v vs ih => cases ks with
    | nil => simp at hl
    | cons k ks =>
      obtain ⟨k', t, e1, rfl⟩ := h 0 v rfl
      simp only [List.getElem?_cons_zero, Option.some.injEq] at e1
      subst e1
      exact .cons t (ih (by simpa using hl) fun i v e => by have := h (i + 1) v (by simpa using e); simpa using this)

structure SrcGot (prog : Program) (w : World) (ksrc : List Str) (h₀ : Heap) (news : List (Addr × Obj)) (s s' : Shared) (I : Addr) (fp wr : List Addr) (G : Array GenState → Array GenState → Prop) (St : Around → Nat → Shared → Prop) : Prop where
  W : ∀ A : Around, A.handled = none → A.depth < 600 → WalksS prog w A I fp wr G ksrc.length (fun i v => ∃ k t, ksrc[i]? = some k ∧ v = Value.str k t) (St A)
  st : ∀ A : Around, A.handled = none → St A 0 s'
  ob : ∀ A i s₁, St A i s₁ → ∀ b ∈ fp, ∃ o, s₁.heap.get? b = some o
  keep : ∀ b o, s.heap.get? b = some o → s'.heap.get? b = some o
  wrn : ∀ b ∈ wr, s.heap.objs.size ≤ b
  fpn : ∀ b ∈ fp, s.heap.objs.size ≤ b ∨ (∃ o, (b, o) ∈ news) ∨ ∃ o, h₀.get? b = some o
  bare : ∀ a b, G a b → AllBare a → AllBare b
  gens : AllBare s.gens → AllBare s'.gens
  os : s'.os = s.os

def Src (prog : Program) (w : World) (l : Addr) (ksrc : List Str) (news : List (Addr × Obj)) : Prop :=
  ∀ {p : Program} {loose : List Str} {mean : ExcName → Option Value} {mg mb : Str → Option Value} {h₀ : Heap} {L : Addr} {m : Str → Option Value} {s : Shared} {outer : List Env} {gs : Option (List Code)} {u dp : Nat} {Q : Value → Shared → Prop} {E : Value → Shared → Prop},
    (Mine.hd.heap_39 w.params).In h₀ → Top p loose mean mg mb h₀ → Fr h₀ L s.heap m → News h₀ L s.heap news → dp < 500 →
    (∀ I fp wr G St s', SrcGot prog w ksrc h₀ news s s' I fp wr G St → Q (.ref I) s') → wpAny (model prog w) ⟨none, dp, some outer, gs, u⟩ (pyIter (.ref l)) Q E s

theorem src_set {prog : Program} {w : World} {G news : List (Addr × Obj)} {o : Addr} {ks : List Str} (hG : SetAt prog w G o ks) (hs : ∀ p ∈ G, p ∈ news) : Src prog w o ks news := by
  intro p loose mean mg mb h₀ L m s outer gs u dp Q E KX T F N hdp hQ
  obtain ⟨S, rfl, rfl, ok, rfl⟩ := hG
  refine iter_raw F KX T hdp (News.sub N hs) ok fun I C gs' h' tk hbare hC hI hIs hCs hk hst hIC => ?_
  refine hQ I (I :: C :: (S.adr ++ keptOf h₀)) [C] (GenOnlyQ s.gens.size) (fun A => GenAtO prog w A I s.gens.size C (C :: (S.adr ++ keptOf h₀)) S.ls) _ ⟨fun A hh hd => ?_, fun A hh => hst A hh, fun A i s₁ st => st.1, hk, fun b hb => by rw [List.mem_singleton.mp hb]; exact hC, fun b hb => ?_, fun a b g ha => GenOnlyQ.bare g ha, fun ha => AllBare.push ha hbare, rfl⟩
  · obtain ⟨mc, hns, _⟩ := T.nolimit
    obtain ⟨oc, _, _, ec, _⟩ := hns
    have hcs : cStatics ∈ keptOf h₀ := keptOf_mem.mpr ⟨oc, ec⟩
    have hcl : cStatics < s.heap.objs.size := Heap.lt_size (F.keep _ _ ec)
    have hd' : A.depth < recursionLimit := Nat.lt_trans hd (by decide)
    have W := walks_gen (prog := prog) (w := w) (I := I) (g := s.gens.size) (C := C) (fp := C :: (S.adr ++ keptOf h₀)) (ls := S.ls) hh hd' (.head _) (.tail _ (List.mem_append_right _ hcs)) hIC (Nat.ne_of_lt (Nat.lt_of_lt_of_le hcl hC))
    have e : (S.ls.map (·.k)).length = S.ls.length := List.length_map _
    rw [e]
    exact { sub := W.sub, grefl := W.grefl, gtrans := W.gtrans, frame := W.frame, done := W.done, self := W.self, item := fun i s Q E hi st hQ => W.item i s Q E hi st fun v s' hP => hQ v s' (by
      obtain ⟨x, hx, rfl⟩ := hP
      exact ⟨x.k, x.kt, by rw [List.getElem?_map, hx]; rfl, rfl⟩) }
  · rcases List.mem_cons.mp hb with rfl | hb
    · exact .inl hI
    rcases List.mem_cons.mp hb with rfl | hb
    · exact .inl hC
    rcases List.mem_append.mp hb with hb | hb
    · rw [← Os.led_adr (w := w)] at hb
      obtain ⟨q, hq, rfl⟩ := List.mem_map.mp hb
      exact .inr (.inl ⟨q.2, hs q hq⟩)
    · exact .inr (.inr (keptOf_mem.mp hb))

theorem src_list {prog : Program} {w : World} {news : List (Addr × Obj)} {l : Addr} {vs : List Value} {n : Nat} {ks : List Str} (hl : (l, listOf vs.toArray n) ∈ news) (hv : Names vs ks) : Src prog w l ks news := by
  intro p loose mean mg mb h₀ L m s outer gs u dp Q E KX T F N hdp hQ
  have hls : s.heap.IsList l vs.toArray := ⟨_, (N _ hl).1, rfl, _, rfl⟩
  have hlt : l < s.heap.objs.size := Heap.lt_size (N _ hl).1
  refine wpAny_pyIter_list hls ?_
  have up : ∀ b o, s.heap.get? b = some o → (s.heap.push { cls := .type "list_iterator", data := .fields #[.ref l, .int 0 0] }).get? b = some o := fun b o e => Heap.get?_push_of_some _ e
  refine hQ s.heap.objs.size [s.heap.objs.size, l] [s.heap.objs.size] (fun a b => b = a) (fun _ i s₁ => s₁.heap.IsListIter s.heap.objs.size l i ∧ s₁.heap.IsList l vs.toArray) _
    ⟨fun A hh _ => ?_, fun _ _ => ⟨⟨_, Heap.get?_push_size _ rfl, rfl, rfl⟩, hls.push _⟩, fun A i s₁ st b hb => ?_, up, fun b hb => by rw [List.mem_singleton.mp hb]; exact Nat.le_refl _, fun b hb => ?_, fun a b e ha => by rw [e]; exact ha, id, rfl⟩
  · have W := (Walks.list (prog := prog) (w := w) hh s.heap.objs.size l (Nat.ne_of_lt hlt) vs.toArray).toS
    have e : vs.toArray.size = ks.length := by rw [List.size_toArray, hv.length]
    rw [e] at W
    exact { sub := W.sub, grefl := W.grefl, gtrans := W.gtrans, frame := W.frame, done := W.done, self := W.self, item := fun i s Q E hi st hQ => W.item i s Q E hi st fun v s' hP => hQ v s' (hv.get i v (by simpa using hP)) }
  · rcases List.mem_cons.mp hb with rfl | hb
    · obtain ⟨⟨o, e, _⟩, _⟩ := st
      exact ⟨o, e⟩
    · rw [List.mem_singleton.mp hb]
      obtain ⟨_, ⟨o, e, _⟩⟩ := st
      exact ⟨o, e⟩
  · rcases List.mem_cons.mp hb with rfl | hb
    · exact .inl (Nat.le_refl _)
    · rw [List.mem_singleton.mp hb]
      exact .inr (.inl ⟨_, hl⟩)

end SOsSrc
section SOsInit
local macro_rules | `(tactic| k_room) => `(tactic| (show (_ : Nat) < _; (try simp only [depth_under_make, depth_under_kw, depth_in1, depth_deeper, depth_caller]); (try simp only [show recursionLimit = 1000 from rfl]); omega))
local macro_rules | `(tactic| k_ne) => `(tactic| (refine neN ?_; first | assumption | (refine Ne.symm ?_; assumption) | ((try dsimp only); omega)))
local macro_rules | `(tactic| k_all) => `(tactic| first | exact own_ne (by assumption) (by intro p hp; k_ownIn) | exact own_ne' (by assumption) (by assumption) (by intro p hp; k_ownIn))
local macro_rules | `(tactic| k_all) => `(tactic| exact OwnOff.ne (by assumption) (by k_memK))
local macro_rules | `(tactic| k_all) => `(tactic| (refine' List.forall_mem_cons.mpr ⟨?a, ?b⟩; (case a => k_ne); (case b => k_all)))
local macro_rules | `(tactic| k_lt $h:ident) => `(tactic| (have l0 : AllBelow _ _ := $h; replace $h := allLt_of $h; (try simp only [AllLt, and_true] at $h:ident)))

local macro_rules | `(tactic| k_allIn) => `(tactic| (intro p hp; k_ownIn))
local macro_rules | `(tactic| k_allIn) => `(tactic| (refine List.forall_mem_cons.mpr ⟨by k_memK, ?_⟩; k_allIn))


local macro_rules | `(tactic| k_enter) => `(tactic| (refine' code_def ?k1 ?k2 ?k3 ?k4 ?k5 ?kA ?kF ?kK ?k6 ?k7 ?k8 ?k9 ?kB ?kZ ?c2 ?c3 ?c4 ?c5; (case kA => exact rfl); (case kF => (first | exact rfl | assumption)); (case kK => (first | exact rfl | assumption)); (case k1 => k_asm); (case k2 => k_asm); (case k3 => k_asm); (case k4 => k_asm); (case k5 => k_asm); (case k6 => k_is); (case k7 => k_is); (case k8 => k_room); (case k9 => (first | exact BindsTo.of_eq rfl | exact binds_K (by k_in) rfl (by k_is) rfl rfl rfl)); (case c5 => decide); (case kB => exact locs rfl); (case c2 => exact rfl); (case c3 => exact rfl); (case c4 => exact rfl); k_whole; intro g' L' h' FG' F' N' B' X' T'; (try dsimp only); (try k_fold)))

local macro_rules | `(tactic| walk_at "call ref") => `(tactic| ((with_reducible first | (show wpAny _ _ (call (Value.ref 57) _ _) _ _ _) | (show wpAny _ _ (call (Value.ref 64) _ _) _ _ _) | (show wpAny _ _ (call (Value.ref 71) _ _) _ _ _) | (show wpAny _ _ (call (Value.ref 78) _ _) _ _ _) | (show wpAny _ _ (call (Value.ref 100) _ _) _ _ _) | (show wpAny _ _ (call (Value.ref 107) _ _) _ _ _) | (show wpAny _ _ (call (Value.ref 110) _ _) _ _ _)); refine stop_intro ?_))
local macro_rules | `(tactic| walk_at "exec For") => `(tactic| refine stop_intro ?_)
local macro_rules | `(tactic| walk_at "exec For Name") => `(tactic| refine stop_intro ?_)
local macro_rules | `(tactic| walk_at "exec For Name Name") => `(tactic| refine stop_intro ?_)
local macro_rules | `(tactic| walk_at "exec For Name Name cons") => `(tactic| refine stop_intro ?_)
local macro_rules | `(tactic| walk_at "exec For Name Name cons nil") => `(tactic| refine stop_intro ?_)
local macro_rules | `(tactic| walk_at "exec For Name Subscript cons nil") => `(tactic| refine stop_intro ?_)
def addK (acc : List Str) (k : Str) : List Str := if k ∈ acc then acc else acc ++ [k]
theorem addK_len : ∀ (ks acc : List Str), (ks.foldl addK acc).length ≤ acc.length + ks.length
  | [], acc => Nat.le_refl _
  | k :: r, acc => by
    refine Nat.le_trans (addK_len r (addK acc k)) ?_
    have : (addK acc k).length ≤ acc.length + 1 := by
      unfold addK
      split
      · exact Nat.le_succ _
      · simp
    simp only [List.length_cons]
    omega

theorem init_loop {prog : Program} {w : World} {A : Around} {env' : Env} {g : Heap} {L' x' I : Addr} {m₁ : Str → Option Value} {body : List Stmt} {s₁ s₂ : Shared} {news G₀ : List (Addr × Obj)} {fp wr : List Addr} {Gr : Array GenState → Array GenState → Prop} {St : Around → Nat → Shared → Prop} {ksrc : List Str} {Q : Flow → Shared → Prop}
    (got : SrcGot prog w ksrc g news s₁ s₂ I fp wr Gr St) (hh : A.handled = none) (hdA : A.depth < 600) (hlen : ksrc.length ≤ 50)
    (F₁ : Fr g L' s₁.heap m₁) (hL : env'.locals = L') (hkey : env'.kindOf "key" = some .local) (hp : (env'.scope.kind == .class || (env'.scope.kind == .module && env'.locals != env'.globals)) = false)
    (hG₀ : SetAt prog w G₀ x' []) (N₁ : News g L' s₁.heap (G₀ ++ news)) (hoff₀ : OwnOff G₀ (news.map (·.1))) (hgb : AllBare s₁.gens)
    (hbody : ∀ (s₃ : Shared) k t ks G post, Fr g L' s₃.heap (fun y => if y = "key" then some (.str k t) else m₁ y) → News g L' s₃.heap (G ++ post) → SetAt prog w G x' ks → ks.length ≤ 90 → OwnOff G (post.map (·.1)) →
      wpAny (model prog w) A (execs body env') (fun f s₄ => Stop (f = .next ∧ ∃ h tk G', s₄ = { s₃ with heap := h, toks := tk } ∧ SetAt prog w G' x' (addK ks k) ∧ OwnOff G' (post.map (·.1)) ∧ Fr g L' h (fun y => if y = "key" then some (.str k t) else m₁ y) ∧ News g L' h (G' ++ post))) (fun _ _ => False) s₃)
    (done : ∀ s' G kv, SetAt prog w G x' (ksrc.foldl addK []) → OwnOff G (news.map (·.1)) → Fr g L' s'.heap (fun y => if y = "key" then kv else m₁ y) → News g L' s'.heap (G ++ news) → AllBare s'.gens → s'.os = s₁.os → Q .next s') :
    ForAt prog w A env' "key" body Q (.ref I) s₂ := by
  subst hL
  have W := got.W A hh hdA
  have hLs : env'.locals < s₁.heap.objs.size := F₁.ns.lt
  have wlt : ∀ b ∈ wr, ∀ o, s₁.heap.get? b = some o → False := fun b hb o e => absurd (Heap.lt_size e) (Nat.not_lt.mpr (got.wrn b hb))
  have hLw : env'.locals ∉ wr := fun h => absurd hLs (Nat.not_lt.mpr (got.wrn _ h))
  have hgw : ∀ b o, g.get? b = some o → b ∉ wr := fun b o e hb => wlt b hb o (F₁.keep b o e)
  have hnw : ∀ q ∈ news, q.1 ∉ wr := fun q hq hb => wlt q.1 hb _ (N₁ q (List.mem_append_right _ hq)).1
  have hLfp : env'.locals ∉ fp := fun hb => by
    rcases got.fpn _ hb with h | ⟨o, h⟩ | ⟨o, h⟩
    · exact absurd hLs (Nat.not_lt.mpr h)
    · exact (N₁ _ (List.mem_append_right _ h)).2.1 rfl
    · exact absurd (Heap.lt_size h) (Nat.not_lt.mpr F₁.above)
  refine ⟨I, fp, wr, Gr, ksrc.length, _, St A, fun i s => ∃ G kv, SetAt prog w G x' ((ksrc.take i).foldl addK []) ∧ OwnOff G (news.map (·.1)) ∧ (∀ q ∈ G, q.1 ∉ fp) ∧ Fr g env'.locals s.heap (fun y => if y = "key" then kv else m₁ y) ∧ News g env'.locals s.heap (G ++ news) ∧ AllBare s.gens ∧ s.os = s₁.os,
    rfl, W, got.st A hh, ⟨G₀, m₁ "key", hG₀, hoff₀, fun q hq hb => ?_, ?_, News.grown N₁ got.keep, got.gens hgb, got.os⟩, ?_, ?_, ?_⟩
  · have hq1 := N₁ q (List.mem_append_left _ hq)
    rcases got.fpn _ hb with h | ⟨o, h⟩ | ⟨o, h⟩
    · exact absurd (Heap.lt_size hq1.1) (Nat.not_lt.mpr h)
    · exact hoff₀ q hq _ (List.mem_map_of_mem h) rfl
    · rw [hq1.2.2] at h; cases h
  · have e : (fun (y : Str) => if y = "key" then m₁ "key" else m₁ y) = m₁ := by
      funext y
      by_cases h : y = "key"
      · rw [if_pos h, h]
      · rw [if_neg h]
    rw [e]
    exact Fr.keeps F₁ got.keep
  · rintro i s s' ⟨G, kv, h1, h2, h3, F, N, h4, h5⟩ mv
    refine ⟨G, kv, h1, h2, h3, ⟨F.ns.at' fun o e => mv.heap _ o hLw e, fun b o e => mv.heap b o (hgw b o e) (F.keep b o e), F.above⟩, fun q hq => ⟨mv.heap _ _ ?_ (N q hq).1, (N q hq).2⟩, got.bare _ _ mv.gens h4, mv.os.trans h5⟩
    rcases List.mem_append.mp hq with hq | hq
    · exact fun h => h3 q hq (W.sub _ h)
    · exact hnw q hq
  · rintro i v s hi ⟨k, t, hk, rfl⟩ ⟨G, kv, h1, h2, h3, F, N, h4, h5⟩ st
    have hob := got.ob A _ s st
    refine wpAny_storeName_local hkey F.ns (fun h₂ hn₂ hs₂ => ?_) hp
    have F₂ : Fr g env'.locals h₂ (fun y => if y = "key" then some (.str k t) else m₁ y) := by
      have := F.set hn₂ hs₂
      refine (congrArg (Fr g env'.locals h₂) (funext fun y => ?_)).mp this
      by_cases h : y = "key"
      · rw [if_pos h, if_pos h]
      · rw [if_neg h, if_neg h, if_neg h]
    have N₂ : News g env'.locals h₂ (G ++ (ownOf g fp h₂ ++ news)) := fun q hq => by
      rcases List.mem_append.mp hq with hq | hq
      · exact (News.set N hs₂) q (List.mem_append_left _ hq)
      rcases List.mem_append.mp hq with hq | hq
      · exact news_ownOf hLfp q hq
      · exact (News.set N hs₂) q (List.mem_append_right _ hq)
    have ob₂ : ∀ b ∈ fp, ∀ o, s.heap.get? b = some o → h₂.get? b = some o := fun b hb o e => hs₂.extBut b o (fun q => hLfp (q ▸ hb)) e
    have hks : ((ksrc.take i).foldl addK []).length ≤ 90 := by
      have := addK_len (ksrc.take i) []
      rw [List.length_take] at this
      simp only [List.length_nil] at this
      omega
    have hoff₂ : OwnOff G ((ownOf g fp h₂ ++ news).map (·.1)) := by
      intro q hq b hb
      rw [List.map_append, List.mem_append] at hb
      rcases hb with hb | hb
      · obtain ⟨p, hp, rfl⟩ := List.mem_map.mp hb
        exact fun e => h3 q hq (by rw [e]; exact ownOf_sub p hp)
      · exact h2 q hq b hb
    refine wpAny_with_toks (n := s.toks) (Nat.le_succ _) (wpAny_mono (hbody { s with heap := h₂, toks := s.toks + 1 } k t _ G _ F₂ N₂ h1 hks hoff₂) (fun f s₄ hf htk => ?_) fun _ _ e => e.elim)
    obtain ⟨rfl, h₃, tk₃, G', rfl, g1, g2, F₃, N₃⟩ := hf
    have obk : ∀ b ∈ fp, ∀ o, s.heap.get? b = some o → h₃.get? b = some o := fun b hb o e => by
      cases q : g.get? b with
      | some o' =>
        have e' := F₂.keep b o' q
        rw [ob₂ b hb o e] at e'
        rw [Option.some.inj e']
        exact F₃.keep b o' q
      | none => exact (N₃ _ (List.mem_append_right _ (List.mem_append_left _ (mem_ownOf hb q (ob₂ b hb o e))))).1
    refine ⟨⟨G', some (.str k t), ?_, fun q hq b hb => g2 q hq b ?_, fun q hq hb => ?_, F₃, News.sub N₃ fun q hq => ?_, h4, h5⟩, W.frame (i + 1) s h₃ tk₃ st htk obk⟩
    · rw [List.take_add_one, hk, Option.toList_some, List.foldl_append]
      exact g1
    · rw [List.map_append]
      exact List.mem_append_right _ hb
    · obtain ⟨o, e⟩ := hob q.1 hb
      have hq3 := N₃ q (List.mem_append_left _ hq)
      refine g2 q hq q.1 ?_ rfl
      rw [List.map_append]
      exact List.mem_append_left _ (List.mem_map_of_mem (f := (·.1)) (mem_ownOf hb hq3.2.2 (ob₂ _ hb o e)))
    · rcases List.mem_append.mp hq with hq | hq
      · exact List.mem_append_left _ hq
      · exact List.mem_append_right _ (List.mem_append_right _ hq)
  · rintro s' ⟨G, kv, h1, h2, h3, F, N, h4, h5⟩
    rw [List.take_length] at h1
    exact done s' G kv h1 h2 F N h4 h5

theorem first_set {prog : Program} {w : World} {g h : Heap} {L' x' d' dm xr dr : Addr} {om : Obj} {t1 t2 a1 a2 a3 : Tok} {news : List (Addr × Obj)}
    (kN : News g L' h ((dm, om) :: (xr, instObj LKa dr) :: (dr, lnkD w a1 a2 a3 (.ref xr) (.ref xr) .none) :: (x', instObj OSa d') :: (d', setD w t1 t2 xr dm) :: news))
    (kD : om.IsDictOf (strKind prog w) []) (klo : (dm == sysModules) = false) (o1 : @LT.lt Nat _ d' x') (o2 : @LT.lt Nat _ x' dr) (o3 : @LT.lt Nat _ dr xr) (o4 : @LT.lt Nat _ xr dm) (l0 : AllBelow d' news) :
    ∃ G₀, SetAt prog w G₀ x' [] ∧ News g L' h (G₀ ++ news) ∧ OwnOff G₀ (news.map (·.1)) := by
  refine ⟨Os.led w ⟨x', d', dm, xr, dr, om, t1, t2, a1, a2, a3, []⟩, ⟨_, rfl, rfl, ⟨kD, klo, ?_⟩, rfl⟩, News.sub kN ?_, ownOff_led.mpr ?_⟩
  · simp only [Os.adr, chainA, List.nodup_cons, List.mem_cons, List.not_mem_nil, or_false, not_or, not_false_eq_true, List.nodup_nil, and_true]
    refine ⟨⟨?_, ?_, ?_, ?_⟩, ⟨?_, ?_, ?_⟩, ⟨?_, ?_⟩, ?_⟩ <;> (refine neN ?_; omega)
  · intro p hp
    simp only [Os.led, chain_nil, ltA_nil, hdA_nil, List.mem_append, List.mem_cons, List.not_mem_nil, or_false] at hp ⊢
    rcases hp with (rfl | rfl | rfl | rfl | rfl) | hp <;> simp [*]
  · intro a ha b hb
    obtain ⟨q, hq, rfl⟩ := List.mem_map.mp hb
    have hq' := ltN (l0 q hq)
    simp only [Os.adr, chainA, List.mem_cons, List.not_mem_nil, or_false] at ha
    refine neN ?_
    rcases ha with rfl | rfl | rfl | rfl | rfl <;> omega

section
variable {prog : Program} {w : World} {A₀ : Around} {base h₀ : Heap} {outer : List Env} {env : Env} {L : Addr} {m mg mb : Str → Option Value} {p : Program} {loose : List Str} {mean : ExcName → Option Value} {s : Shared} {E : Value → Shared → Prop} {Q : Value → Shared → Prop}
    {u : Nat} {gs : Option (List Code)} {dp : Nat} {news : List (Addr × Obj)}
variable (B : Below A₀ base outer h₀) (F : Fr h₀ L s.heap m) (KX : (Mine.hd.heap_39 w.params).In h₀) (T : Top p loose mean mg mb h₀) (hf : env.frame = some L) (hke : env.scope.kind = .function) (hdp : dp < 400)
include B F KX T hf hke hdp
set_option pp.deepTerms false
set_option pp.deepTerms.threshold 6
theorem new_ct {l : Addr} {ksrc : List Str} (N : News h₀ L s.heap news) (hsrc : Src prog w l ksrc news) (hlen : ksrc.length ≤ 50) (hgb : AllBare s.gens)
    (hQ : ∀ o G s', SetAt prog w G o (ksrc.foldl addK []) → OwnOff G (news.map (·.1)) → Fr h₀ L s'.heap m → News h₀ L s'.heap (G ++ news) → AllBare s'.gens → s'.os = s.os → Q (.ref o) s') :
    wpAny (model prog w) ⟨none, dp, some (env :: outer), gs, u⟩ (call (.ref 110) [.ref l]) Q E s := by
  refine' call_cls F KX N ?k4 ?k5 ?k6 ?_
  case k4 => k_is
  case k5 => k_is
  case k6 => k_is
  intro x' d' h' F' N' l1 l2
  have l0 : AllBelow d' news := l1
  replace l2 := ltN l2
  k_enter
  (rename Below _ _ _ _ => kB; rename Frag.In _ _ => kX; rename Top _ _ _ _ _ _ => kT)
  k_steps
  unfold Stop
  refine for_any ?_
  k_steps
  (rename Fr _ _ _ _ => kF; rename News _ _ _ _ => kN; rename Obj.IsDictOf (PySem.strKind prog w) _ _ => kD; rename (_ == sysModules) = false => klo)
  refine hsrc kX kT kF (News.sub kN fun q hq => .tail _ (.tail _ (.tail _ (.tail _ (.tail _ hq))))) (by simp only [depth_under_make, depth_deeper]; omega) fun I fp wr Gr St s₂ got => ?_
  rename AllBelow _ _ => _l0'
  obtain ⟨G₀, hG₀, kN₀, hoff₀⟩ := first_set kN kD klo l2 (by omega) (by omega) (by omega) l0
  refine init_loop got rfl (by simp only [depth_under_make, depth_deeper]; omega) hlen kF rfl rfl rfl hG₀ kN₀ hoff₀ hgb ?body ?done
  case body =>
    intro s₃ k t ks G post F₃ N₃ hG hks hoff
    obtain ⟨od, md, r, om, t1, t2, ls, N₄, _, _, _⟩ := SetAt.look F₃ N₃ hG fun p hp => List.mem_append_left _ hp
    clear kF kN kN₀ N₃ F' N'
    k_steps
    unfold Stop
    (rename Fr _ _ _ _ => kF; rename News _ _ _ _ => kN)
    refine add_ct (pre := []) (post := post) (G := G) kB kF kX kT rfl rfl (by simp only [depth_under_make, depth_deeper]; omega) (News.sub kN fun p hp => .tail _ (.tail _ (.tail _ hp))) hG (by omega) hoff fun h' tk G' hG' hoff' F' N' => ?_
    clear kF kN
    k_steps
    all_goals first | exact hG' | exact hoff' | exact F' | exact N'
  case done =>
    intro s' G kv hG hoff F₃ N₃ hb ho
    clear kF kN kN₀ F' N'
    k_steps
    (rename Fr _ _ _ _ => kF; rename News _ _ _ _ => kN)
    exact hQ x' G s' hG hoff kF kN hb ho
end

end SOsInit
section SOsList
local macro_rules | `(tactic| k_room) => `(tactic| (show (_ : Nat) < _; (try simp only [depth_under_make, depth_under_kw, depth_in1, depth_deeper, depth_caller]); (try simp only [show recursionLimit = 1000 from rfl]); omega))
local macro_rules | `(tactic| k_ne) => `(tactic| (refine neN ?_; first | assumption | (refine Ne.symm ?_; assumption) | ((try dsimp only); omega)))
local macro_rules | `(tactic| k_all) => `(tactic| first | exact own_ne (by assumption) (by intro p hp; k_ownIn) | exact own_ne' (by assumption) (by assumption) (by intro p hp; k_ownIn))
local macro_rules | `(tactic| k_all) => `(tactic| exact OwnOff.ne (by assumption) (by k_memK))
local macro_rules | `(tactic| k_all) => `(tactic| (refine' List.forall_mem_cons.mpr ⟨?a, ?b⟩; (case a => k_ne); (case b => k_all)))
local macro_rules | `(tactic| k_lt $h:ident) => `(tactic| (have l0 : AllBelow _ _ := $h; replace $h := allLt_of $h; (try simp only [AllLt, and_true] at $h:ident)))

local macro_rules | `(tactic| k_allIn) => `(tactic| (intro p hp; k_ownIn))
local macro_rules | `(tactic| k_allIn) => `(tactic| (refine List.forall_mem_cons.mpr ⟨by k_memK, ?_⟩; k_allIn))


local macro_rules | `(tactic| k_enter) => `(tactic| (refine' code_def ?k1 ?k2 ?k3 ?k4 ?k5 ?kA ?kF ?kK ?k6 ?k7 ?k8 ?k9 ?kB ?kZ ?c2 ?c3 ?c4 ?c5; (case kA => exact rfl); (case kF => (first | exact rfl | assumption)); (case kK => (first | exact rfl | assumption)); (case k1 => k_asm); (case k2 => k_asm); (case k3 => k_asm); (case k4 => k_asm); (case k5 => k_asm); (case k6 => k_is); (case k7 => k_is); (case k8 => k_room); (case k9 => (first | exact BindsTo.of_eq rfl | exact binds_K (by k_in) rfl (by k_is) rfl rfl rfl)); (case c5 => decide); (case kB => exact locs rfl); (case c2 => exact rfl); (case c3 => exact rfl); (case c4 => exact rfl); k_whole; intro g' L' h' FG' F' N' B' X' T'; (try dsimp only); (try k_fold)))

local macro_rules | `(tactic| walk_at "call ref") => `(tactic| ((with_reducible first | (show wpAny _ _ (call (Value.ref 57) _ _) _ _ _) | (show wpAny _ _ (call (Value.ref 64) _ _) _ _ _) | (show wpAny _ _ (call (Value.ref 71) _ _) _ _ _) | (show wpAny _ _ (call (Value.ref 78) _ _) _ _ _) | (show wpAny _ _ (call (Value.ref 100) _ _) _ _ _) | (show wpAny _ _ (call (Value.ref 107) _ _) _ _ _) | (show wpAny _ _ (call (Value.ref 110) _ _) _ _ _)); refine stop_intro ?_))
local macro_rules | `(tactic| walk_at "exec For") => `(tactic| refine stop_intro ?_)
local macro_rules | `(tactic| walk_at "exec For Name") => `(tactic| refine stop_intro ?_)
local macro_rules | `(tactic| walk_at "exec For Name Name") => `(tactic| refine stop_intro ?_)
local macro_rules | `(tactic| walk_at "exec For Name Name cons") => `(tactic| refine stop_intro ?_)
local macro_rules | `(tactic| walk_at "exec For Name Name cons nil") => `(tactic| refine stop_intro ?_)
local macro_rules | `(tactic| walk_at "exec For Name Subscript cons nil") => `(tactic| refine stop_intro ?_)
section
variable {prog : Program} {w : World} {A₀ : Around} {base h₀ : Heap} {outer : List Env} {env : Env} {L : Addr} {m mg mb : Str → Option Value} {p : Program} {loose : List Str} {mean : ExcName → Option Value} {s : Shared} {E : Value → Shared → Prop}
    {u : Nat} {gs : Option (List Code)} {dp : Nat} {pre news G : List (Addr × Obj)} {o : Addr} {ks : List Str}
variable (B : Below A₀ base outer h₀) (F : Fr h₀ L s.heap m) (KX : (Mine.hd.heap_39 w.params).In h₀) (T : Top p loose mean mg mb h₀) (hf : env.frame = some L) (hke : env.scope.kind = .function) (hdp : dp < 400)
include B F KX T hf hke hdp
set_option pp.deepTerms false
set_option pp.deepTerms.threshold 6
theorem hint_ct {Q : Bool → Shared → Prop} (N : News h₀ L s.heap pre) (hG : SetAt prog w G o ks) (hs : ∀ p ∈ G, p ∈ pre) (hlen : ks.length ≤ 100)
    (hQ : ∀ h' tk b, Fr h₀ L h' m → News h₀ L h' pre → Q b { s with heap := h', toks := tk }) :
    wpAny (model prog w) ⟨none, dp, some (env :: outer), gs, u⟩ (Builtin.List.listLengthHint (.ref o)) Q E s := by
  obtain ⟨od, md, r, om, t1, t2, ls, N', hk, hd, lo⟩ := SetAt.look F N hG hs
  have hI : InstAt s.heap o (instObj OSa od) OSa (some (setD w t1 t2 r md)) := InstAt.of_news N' (.head _) (.tail _ (.head _))
  have hfi : findIn (Mine.hd.heap_39 w.params) (.ref OSa) "__len__" = some (some (.ref 57)) := by k_is
  have hfn : isFn (Mine.hd.heap_39 w.params) (.ref 57) = true := by k_is
  unfold Builtin.List.listLengthHint
  refine wpAny_bind (wpAny_bind (hI.type.here ((looks_findIn (KX.keeps F.keep) hfi).here ?_)))
  refine wpAny_ite_split (fun hab => absurd hab (by decide)) (fun _ => ?_)
  refine wpAny_ite_split (fun _ => ?_) (fun hab => absurd rfl hab)
  refine wpAny_bind (wpAny_rule ?_)
  refine wpAny_bind (wpAny_attempt (len_K F KX hI hfi hfn ?_))
  refine len_ct B F KX T hf hke (by simp only [depth_in1]; omega) N hG hs hlen fun h' tk t F' N' => ?_
  refine ⟨⟨by omega, by omega⟩, ?_⟩
  refine wpAny_bind (m := asInt? _) (wpAny_pure ?_)
  have htl : Builtin.List.listTooLong (((ks.length : Nat) : Int).toNat) = false := by simp [Builtin.List.listTooLong, sizeLine]; omega
  exact wpAny_ite_split (fun hab => absurd hab (by rw [htl]; decide)) (fun _ => wpAny_pure (hQ _ _ _ F' N'))

theorem list_ct {Q : Value → Shared → Prop} (N : News h₀ L s.heap news) (hG : SetAt prog w G o ks) (hs : ∀ p ∈ G, p ∈ news) (hlen : ks.length ≤ 100) (hgb : AllBare s.gens)
    (hQ : ∀ D c vs s', Names vs ks → Fr h₀ L s'.heap m → News h₀ L s'.heap ((D, listOf vs.toArray c) :: news) → AllBelow D news → AllBare s'.gens → s'.os = s.os → Q (.ref D) s') :
    wpAny (model prog w) ⟨none, dp, some (env :: outer), gs, u⟩ (call (.type "list") [.ref o]) Q E s := by
  have hDL : L ≠ s.heap.objs.size := Nat.ne_of_lt F.ns.lt
  have hD0 : h₀.get? s.heap.objs.size = none := by
    cases q : h₀.get? s.heap.objs.size with
    | none => rfl
    | some o => exact absurd (Heap.lt_size (F.keep _ _ q)) (Nat.lt_irrefl _)
  have hbelow : AllBelow s.heap.objs.size news := fun q hq => Heap.lt_size (N q hq).1
  obtain ⟨od, md, r, om, t1, t2, ls, N', hk, hd, lo⟩ := SetAt.look F N hG hs
  have hoD : o ≠ s.heap.objs.size := Nat.ne_of_lt (Heap.lt_size (N' _ (.head _)).1)
  refine callType_codes (Q₁ := fun obj s₁ => obj = .ref s.heap.objs.size ∧ s₁ = { s with heap := s.heap.push { cls := .type "list", data := .seq #[] } }) PySem.F.called_list (PySem.F.typeCall_list_1 _) PySem.F.entry_list_init
    (code_list_new _ ⟨rfl, rfl⟩) fun obj s₁ h₁ => ?_
  obtain ⟨rfl, rfl⟩ := h₁
  have hS : (s.heap.push { cls := .type "list", data := .seq #[] }).get? s.heap.objs.size = some { cls := .type "list", data := .seq #[] } := Heap.get?_push_size _ rfl
  refine ⟨⟨_, hS, rfl⟩, PySem.F.args_list_init_2 _ _, ?_⟩
  show wpAny _ _ (do let old ← Builtin.List.listItems (.ref s.heap.objs.size); Builtin.List.listUpdate (.ref s.heap.objs.size) (fun _ => #[]); letGo old.toList.reverse; Builtin.List.listExtendWith (.ref s.heap.objs.size) (.ref o) .none) _ _ _
  refine wpAny_bind ?_
  unfold Builtin.List.listItems
  refine wpAny_bind (wpAny_seqItems hS rfl (wpAny_pure ?_))
  show wpAny _ _ (updateSeq s.heap.objs.size (fun _ => #[]) >>= fun _ => letGo (#[] : Array Value).toList.reverse >>= fun _ => Builtin.List.listExtendWith (.ref s.heap.objs.size) (.ref o) .none) _ _ _
  refine wpAny_bind (wpAny_updateSeq hS rfl ?_)
  have hS₂ := Heap.get?_update_self (Obj.mapSeq (fun _ => (#[] : Array Value))) hS rfl
  have oth : ∀ b o, s.heap.get? b = some o → ((s.heap.push { cls := .type "list", data := .seq #[] }).update s.heap.objs.size (Obj.mapSeq (fun _ => (#[] : Array Value)))).get? b = some o :=
    fun b o e => (Heap.get?_update_other _ _ (Nat.ne_of_gt (Heap.lt_size e))).trans (Heap.get?_push_of_some _ e)
  refine wpAny_bind (wpAny_letGo ?_)
  generalize hH : (s.heap.push { cls := .type "list", data := .seq #[] }).update s.heap.objs.size (Obj.mapSeq (fun _ => (#[] : Array Value))) = H at hS₂ oth ⊢
  have hHs : H.objs.size = s.heap.objs.size + 1 := by rw [← hH, Heap.size_update, Heap.size_push]
  generalize hDD : s.heap.objs.size = D at *
  have F₁ : Fr h₀ L H m := F.keeps oth
  have N₁ : News h₀ L H ((D, listOf #[] 0) :: news) := fun q hq => by
    rcases List.mem_cons.mp hq with rfl | hq
    · exact ⟨hS₂, hDL.symm, hD0⟩
    · exact (News.grown N oth) q hq
  obtain ⟨od, md, r, om, t1, t2, ls, N₁', _, _, _⟩ := SetAt.look (s := { s with heap := H }) F₁ (News.sub N₁ fun p hp => .tail _ hp) hG hs
  have hI : InstAt H o (instObj OSa od) OSa (some (setD w t1 t2 r md)) := InstAt.of_news N₁' (.head _) (.tail _ (.head _))
  unfold Builtin.List.listExtendWith
  refine wpAny_bind (hI.type.here ?_)
  have h1 : Builtin.List.listSameRef (.ref D) (.ref o) = false := by simp [Builtin.List.listSameRef, Ne.symm hoD]
  have h2 : (Value.ref OSa == Value.type "list") = false := by decide
  have h3 : (Value.ref OSa == Value.type "tuple") = false := by decide
  simp only [h1, h2, h3, Bool.or_false, Bool.false_eq_true, if_false]
  refine wpAny_bind (src_set hG hs KX T F₁ (News.sub N₁ fun p hp => .tail _ hp) (by simp only [depth_in1]; omega) fun I fp wr Gr St s₂ got => ?_)
  have W := got.W (Around.in1 ⟨none, dp, some (env :: outer), gs, u⟩).in1 rfl (by simp only [depth_in1]; omega)
  have hDfp : D ∉ fp := fun hb => by
    rcases got.fpn _ hb with h | ⟨o', h⟩ | ⟨o', h⟩
    · rw [hHs] at h; exact absurd h (Nat.not_le_of_lt (Nat.lt_succ_self _))
    · exact absurd (hbelow _ h) (Nat.lt_irrefl _)
    · rw [hD0] at h; cases h
  have hLfp : L ∉ fp := fun hb => by
    rcases got.fpn _ hb with h | ⟨o', h⟩ | ⟨o', h⟩
    · exact absurd F₁.ns.lt (Nat.not_lt.mpr h)
    · exact (N _ h).2.1 rfl
    · exact absurd (Heap.lt_size h) (Nat.not_lt.mpr F.above)
  have wlt : ∀ b ∈ wr, ∀ o, H.get? b = some o → False := fun b hb o e => absurd (Heap.lt_size e) (Nat.not_lt.mpr (got.wrn b hb))
  have F₂ : Fr h₀ L s₂.heap m := F₁.keeps got.keep
  have N₂ : News h₀ L s₂.heap ((D, listOf #[] 0) :: (ownOf h₀ fp s₂.heap ++ news)) := fun q hq => by
    rcases List.mem_cons.mp hq with rfl | hq
    · exact (News.grown N₁ got.keep) _ (.head _)
    rcases List.mem_append.mp hq with hq | hq
    · exact news_ownOf hLfp q hq
    · exact (News.grown N₁ got.keep) q (.tail _ hq)
  have ob₂ : ∀ h', Fr h₀ L h' m → (∀ q ∈ ownOf h₀ fp s₂.heap, h'.get? q.1 = some q.2) → ∀ b ∈ fp, ∀ o, s₂.heap.get? b = some o → h'.get? b = some o := fun h' F' N' b hb o e => by
    cases q : h₀.get? b with
    | some o' =>
      have e' := F₂.keep b o' q
      rw [e] at e'
      rw [Option.some.inj e']
      exact F'.keep b o' q
    | none => exact N' _ (mem_ownOf hb q e)
  have wsub : ∀ b ∈ wr, b ∈ fp := W.sub
  have key : ∀ (h : Heap) (c₁ tk : Nat), s₂.toks ≤ tk → Fr h₀ L h m → h.get? D = some { cls := .type "list", dict := none, data := .seq #[] c₁, slots := #[] } → News h₀ L h (ownOf h₀ fp s₂.heap ++ news) →
      codeAny (model prog w) (Around.in1 ⟨none, dp, some (env :: outer), gs, u⟩) (.builtin "list.extend.loop" ⟨[.ref D, .ref I, .none], []⟩) (wants (fun r s₂ => r = .none ∧ Q (.ref D) s₂) E) { s₂ with heap := h, toks := tk } := by
    intro h c₁ tk htk F₃ hS₃ N₃
    have hn : ks.length ≤ sizeLine := by rw [sizeLine_eq]; omega
    refine codeAny_extend_loopS W hn D hDfp .none ks.length 0 _ #[] c₁ rfl (Nat.zero_le _) (W.frame 0 _ _ _ (got.st _ rfl) htk (ob₂ _ F₃ fun q hq => (N₃ q (List.mem_append_left _ hq)).1)) hS₃ (ItemsOf.nil _) fun s' acc' c' mv hS' hacc => ⟨rfl, ?_⟩
    have hL' : L ∉ D :: wr := fun hb => by
      rcases List.mem_cons.mp hb with e | hb
      · exact hDL e
      · exact hLfp (wsub _ hb)
    refine hQ D c' acc'.toList s' (Names.of (by rw [Array.length_toList]; exact hacc.1) fun i v e => hacc.2 i v (by rw [← Array.getElem?_toList]; exact e)) ⟨F₃.ns.at' fun o e => mv.heap _ o hL' e, fun b o e => mv.heap b o (fun hb => ?_) (F₃.keep b o e), F.above⟩ (fun q hq => ?_) hbelow (got.bare _ _ mv.gens (got.gens hgb)) (mv.os.trans got.os)
    · rcases List.mem_cons.mp hb with rfl | hb
      · rw [hD0] at e; cases e
      · exact wlt b hb _ (F₁.keep b o e)
    · rcases List.mem_cons.mp hq with rfl | hq
      · exact ⟨by rw [Array.toArray_toList]; exact hS', hDL.symm, hD0⟩
      · refine ⟨mv.heap _ _ (fun hb => ?_) (N₃ q (List.mem_append_right _ hq)).1, (N q hq).2⟩
        rcases List.mem_cons.mp hb with e | hb
        · exact absurd (hbelow q hq) (by rw [e]; exact Nat.lt_irrefl _)
        · exact wlt _ hb _ (N₁ q (.tail _ hq)).1
  refine wpAny_bind (wpAny_holding (wpAny_with_toks (n := s₂.toks) (Nat.le_refl _) (hint_ct B F₂ KX T hf hke (by simp only [depth_in1]; omega) N₂ hG (fun p hp => .tail _ (List.mem_append_right _ (hs p hp))) hlen fun h' tk b F₃ N₃ htk => ?_)))
  refine wpAny_ite_split (fun _ => ?_) (fun _ => wpAny_pure ⟨plainId_quiet PySem.F.plain_extend_loop _, key _ _ _ htk F₃ (N₃ _ (.head _)).1 (News.sub N₃ fun q hq => .tail _ hq)⟩)
  refine wpAny_bind (wpAny_rule ?_)
  refine wpAny_bind ?_
  show wpAny _ _ (updateSeq D (·.push .none) >>= fun _ => updateSeq D (·.pop)) _ _ _
  have hS₃ : h'.get? D = some { cls := .type "list", data := .seq #[] } := (N₃ _ (.head _)).1
  refine wpAny_bind (wpAny_updateSeq hS₃ rfl ?_)
  have hS₄ := Heap.get?_update_self (Obj.mapSeq (·.push Value.none)) hS₃ rfl
  refine wpAny_updateSeq (hz := by seq_fits) hS₄ rfl ?_
  have hS₅ := Heap.get?_update_self (Obj.mapSeq (·.pop)) hS₄ rfl
  have oth₅ : ∀ b o, b ≠ D → h'.get? b = some o → ((h'.update D (Obj.mapSeq (·.push Value.none))).update D (Obj.mapSeq (·.pop))).get? b = some o :=
    fun b o hb e => (Heap.get?_update_other _ _ (Ne.symm hb)).trans ((Heap.get?_update_other _ _ (Ne.symm hb)).trans e)
  refine wpAny_pure ⟨plainId_quiet PySem.F.plain_extend_loop _, key _ _ _ htk ⟨F₃.ns.at' fun o e => oth₅ _ o hDL e, fun b o e => oth₅ b o (fun q => by rw [q, hD0] at e; cases e) (F₃.keep b o e), F.above⟩ hS₅ fun q hq => ?_⟩
  · refine ⟨oth₅ _ _ (fun e => ?_) (N₃ q (.tail _ hq)).1, (N₃ q (.tail _ hq)).2⟩
    rcases List.mem_append.mp hq with hq | hq
    · exact hDfp (by rw [← e]; exact ownOf_sub q hq)
    · exact absurd (hbelow q hq) (by rw [e]; exact Nat.lt_irrefl _)
end

end SOsList
section SOsEq
local macro_rules | `(tactic| k_room) => `(tactic| (show (_ : Nat) < _; (try simp only [depth_under_make, depth_under_kw, depth_in1, depth_deeper, depth_caller]); (try simp only [show recursionLimit = 1000 from rfl]); omega))
local macro_rules | `(tactic| k_ne) => `(tactic| (refine neN ?_; first | assumption | (refine Ne.symm ?_; assumption) | ((try dsimp only); omega)))
local macro_rules | `(tactic| k_all) => `(tactic| first | exact own_ne (by assumption) (by intro p hp; k_ownIn) | exact own_ne' (by assumption) (by assumption) (by intro p hp; k_ownIn))
local macro_rules | `(tactic| k_all) => `(tactic| exact OwnOff.ne (by assumption) (by k_memK))
local macro_rules | `(tactic| k_all) => `(tactic| (refine' List.forall_mem_cons.mpr ⟨?a, ?b⟩; (case a => k_ne); (case b => k_all)))
local macro_rules | `(tactic| k_lt $h:ident) => `(tactic| (have l0 : AllBelow _ _ := $h; replace $h := allLt_of $h; (try simp only [AllLt, and_true] at $h:ident)))

local macro_rules | `(tactic| k_allIn) => `(tactic| (intro p hp; k_ownIn))
local macro_rules | `(tactic| k_allIn) => `(tactic| (refine List.forall_mem_cons.mpr ⟨by k_memK, ?_⟩; k_allIn))


local macro_rules | `(tactic| k_enter) => `(tactic| (refine' code_def ?k1 ?k2 ?k3 ?k4 ?k5 ?kA ?kF ?kK ?k6 ?k7 ?k8 ?k9 ?kB ?kZ ?c2 ?c3 ?c4 ?c5; (case kA => exact rfl); (case kF => (first | exact rfl | assumption)); (case kK => (first | exact rfl | assumption)); (case k1 => k_asm); (case k2 => k_asm); (case k3 => k_asm); (case k4 => k_asm); (case k5 => k_asm); (case k6 => k_is); (case k7 => k_is); (case k8 => k_room); (case k9 => (first | exact BindsTo.of_eq rfl | exact binds_K (by k_in) rfl (by k_is) rfl rfl rfl)); (case c5 => decide); (case kB => exact locs rfl); (case c2 => exact rfl); (case c3 => exact rfl); (case c4 => exact rfl); k_whole; intro g' L' h' FG' F' N' B' X' T'; (try dsimp only); (try k_fold)))

local macro_rules | `(tactic| walk_at "call ref") => `(tactic| ((with_reducible first | (show wpAny _ _ (call (Value.ref 57) _ _) _ _ _) | (show wpAny _ _ (call (Value.ref 64) _ _) _ _ _) | (show wpAny _ _ (call (Value.ref 71) _ _) _ _ _) | (show wpAny _ _ (call (Value.ref 78) _ _) _ _ _) | (show wpAny _ _ (call (Value.ref 100) _ _) _ _ _) | (show wpAny _ _ (call (Value.ref 107) _ _) _ _ _) | (show wpAny _ _ (call (Value.ref 110) _ _) _ _ _)); refine stop_intro ?_))
local macro_rules | `(tactic| walk_at "exec For") => `(tactic| refine stop_intro ?_)
local macro_rules | `(tactic| walk_at "exec For Name") => `(tactic| refine stop_intro ?_)
local macro_rules | `(tactic| walk_at "exec For Name Name") => `(tactic| refine stop_intro ?_)
local macro_rules | `(tactic| walk_at "exec For Name Name cons") => `(tactic| refine stop_intro ?_)
local macro_rules | `(tactic| walk_at "exec For Name Name cons nil") => `(tactic| refine stop_intro ?_)
local macro_rules | `(tactic| walk_at "exec For Name Subscript cons nil") => `(tactic| refine stop_intro ?_)
def NamesOk (ks : List Str) : Prop := ∀ k ∈ ks, PyData.strOk k = true
theorem Names.dat {news : List (Addr × Obj)} {vs : List Value} {ks : List Str} (h : Names vs ks) : DatAll news vs (ks.map Dat.str) := by
  induction h with
  | nil => exact .nil
  | cons t _ ih => exact .cons (.str _ t) ih
theorem datStr_ok {ks : List Str} (h : NamesOk ks) : ∀ d ∈ ks.map Dat.str, kqdOk 8 d = true := by
  intro d hd
  obtain ⟨k, hk, rfl⟩ := List.mem_map.mp hd
  simpa [kqdOk] using h k hk
theorem datStr_inj {ks ks' : List Str} : ks.map Dat.str = ks'.map Dat.str ↔ ks = ks' := by
  constructor
  · intro h
    induction ks generalizing ks' with
    | nil => cases ks' <;> simp_all
    | cons k r ih => cases ks' with
      | nil => simp at h
      | cons k' r' =>
        simp only [List.map_cons, List.cons.injEq, Dat.str.injEq] at h
        rw [h.1, ih h.2]
  · rintro rfl; rfl
section
variable {prog : Program} {w : World} {A : Around} {E : Value → Shared → Prop} {s : Shared} {Q : Value → Shared → Prop} {h₀ : Heap} {L a b : Addr} {xs ys : List Value} {ks ks' : List Str} {na nb : Nat} {news : List (Addr × Obj)}
theorem eq_names (N : News h₀ L s.heap news) (ma : (a, listOf xs.toArray na) ∈ news) (mb : (b, listOf ys.toArray nb) ∈ news) (hx : Names xs ks) (hy : Names ys ks') (ok : NamesOk ks) (ok' : NamesOk ks') (hu : A.units + 64 < cLine)
    (h : Q (.bool (decide (ks = ks'))) s) : wpAny (model prog w) A (compareOp .Eq (.ref a) (.ref b)) Q E s := by
  refine kqd_eq N ma rfl rfl (hx.dat (news := news)) (fun _ h => h) mb rfl rfl (hy.dat (news := news)) (fun _ h => h) (datStr_ok ok) (datStr_ok ok') hu ?_
  have e : ∀ (d : Decidable (ks.map Dat.str = ks'.map Dat.str)), @decide _ d = decide (ks = ks') := fun d => by
    by_cases hq : ks = ks'
    · rw [decide_eq_true hq]; exact @decide_eq_true _ d (datStr_inj.mpr hq)
    · rw [decide_eq_false hq]; exact @decide_eq_false _ d fun x => hq (datStr_inj.mp x)
  rw [e]; exact h
theorem ne_names (N : News h₀ L s.heap news) (ma : (a, listOf xs.toArray na) ∈ news) (mb : (b, listOf ys.toArray nb) ∈ news) (hx : Names xs ks) (hy : Names ys ks') (ok : NamesOk ks) (ok' : NamesOk ks') (hu : A.units + 64 < cLine)
    (h : Q (.bool (!decide (ks = ks'))) s) : wpAny (model prog w) A (compareOp .NotEq (.ref a) (.ref b)) Q E s := by
  refine kqd_ne N ma rfl rfl (hx.dat (news := news)) (fun _ h => h) mb rfl rfl (hy.dat (news := news)) (fun _ h => h) (datStr_ok ok) (datStr_ok ok') hu ?_
  have e : ∀ (d : Decidable (ks.map Dat.str = ks'.map Dat.str)), @decide _ d = decide (ks = ks') := fun d => by
    by_cases hq : ks = ks'
    · rw [decide_eq_true hq]; exact @decide_eq_true _ d (datStr_inj.mpr hq)
    · rw [decide_eq_false hq]; exact @decide_eq_false _ d fun x => hq (datStr_inj.mp x)
  rw [e]; exact h
theorem Names.strs {vs : List Value} {ks : List Str} (h : Names vs ks) : StrsAre vs ks := by
  induction h with
  | nil => constructor
  | cons t _ ih => constructor; exact ih
theorem in_names {k : Str} {t : Tok} (N : News h₀ L s.heap news) (ma : (a, listOf xs.toArray na) ∈ news) (hx : Names xs ks)
    (h : Q (.bool (decide (k ∈ ks))) s) : wpAny (model prog w) A (compareOp .In (.str k t) (.ref a)) Q E s := by
  refine in_list_strs (ys := ks) (vs := xs) ⟨_, (N _ ma).1, rfl, _, rfl⟩ hx.strs ?_
  have e : ks.any (· == k) = decide (k ∈ ks) := by rw [Bool.eq_iff_iff]; simp
  rw [e]; exact h
theorem notin_names {k : Str} {t : Tok} (N : News h₀ L s.heap news) (ma : (a, listOf xs.toArray na) ∈ news) (hx : Names xs ks)
    (h : Q (.bool (!decide (k ∈ ks))) s) : wpAny (model prog w) A (compareOp .NotIn (.str k t) (.ref a)) Q E s := by
  refine notin_list_strs (ys := ks) (vs := xs) ⟨_, (N _ ma).1, rfl, _, rfl⟩ hx.strs ?_
  have e : ks.any (· == k) = decide (k ∈ ks) := by rw [Bool.eq_iff_iff]; simp
  rw [e]; exact h
end
local macro_rules | `(tactic| walk_at "compareOp Eq ref ref") => `(tactic| refine stop_intro ?_)
local macro_rules | `(tactic| walk_at "compareOp NotEq ref ref") => `(tactic| refine stop_intro ?_)
local macro_rules | `(tactic| walk_at "call type:list") => `(tactic| ((with_reducible show wpAny _ _ (call (Value.type "list") [Value.ref _]) _ _ _); refine stop_intro ?_))

section
variable {prog : Program} {w : World} {A₀ : Around} {base h₀ : Heap} {outer : List Env} {env : Env} {L : Addr} {m mg mb : Str → Option Value} {p : Program} {loose : List Str} {mean : ExcName → Option Value} {s : Shared} {E : Value → Shared → Prop} {Q : Value → Shared → Prop}
    {u : Nat} {gs : Option (List Code)} {dp : Nat} {news G G' : List (Addr × Obj)} {o o' : Addr} {ks ks' : List Str}
variable (B : Below A₀ base outer h₀) (F : Fr h₀ L s.heap m) (KX : (Mine.hd.heap_39 w.params).In h₀) (T : Top p loose mean mg mb h₀) (hf : env.frame = some L) (hke : env.scope.kind = .function) (hdp : dp < 390)
include B F KX T hf hke hdp
set_option pp.deepTerms false
set_option pp.deepTerms.threshold 6
theorem eq_ct (N : News h₀ L s.heap news) (hG : SetAt prog w G o ks) (hs : ∀ p ∈ G, p ∈ news) (hG' : SetAt prog w G' o' ks') (hs' : ∀ p ∈ G', p ∈ news) (hlen : ks.length ≤ 100) (hlen' : ks'.length ≤ 100) (ok : NamesOk ks) (ok' : NamesOk ks') (hu : u + 80 < cLine) (hgb : AllBare s.gens)
    (hQ : ∀ s', Fr h₀ L s'.heap m → News h₀ L s'.heap news → AllBare s'.gens → s'.os = s.os → Q (.bool (decide (ks = ks'))) s') :
    wpAny (model prog w) ⟨none, dp, some (env :: outer), gs, u⟩ (call (.ref 107) [.ref o, .ref o']) Q E s := by
  obtain ⟨od, md, r, om, t1, t2, ls, N₁, _, _, _⟩ := SetAt.look F N hG hs
  obtain ⟨od', md', r', om', t1', t2', ls', N₂, _, _, _⟩ := SetAt.look F N₁ hG' fun p hp => .tail _ (.tail _ (.tail _ (hs' p hp)))
  clear N N₁
  refine wpAny_call ?_
  k_enter
  (rename Below _ _ _ _ => kB; rename Frag.In _ _ => kX; rename Top _ _ _ _ _ _ => kT)
  k_steps
  unfold Stop
  (rename Fr _ _ _ _ => kF; rename News _ _ _ _ => kN)
  refine len_ct kB kF kX kT rfl rfl (by simp only [depth_in1, depth_under_make, depth_deeper]; omega) kN hG (fun p hp => by simp only [List.mem_cons]; simp [hs p hp]) hlen fun h1 tk1 u1 F1 N1 => ?_
  clear kF kN
  refine ⟨⟨by omega, by omega⟩, ?_⟩
  k_steps
  unfold Stop
  (rename Fr _ _ _ _ => kF; rename News _ _ _ _ => kN)
  refine len_ct kB kF kX kT rfl rfl (by simp only [depth_in1, depth_under_make, depth_deeper]; omega) kN hG' (fun p hp => by simp only [List.mem_cons]; simp [hs' p hp]) hlen' fun h2 tk2 u2 F2 N2 => ?_
  clear kF kN
  refine ⟨⟨by omega, by omega⟩, ?_⟩
  k_steps
  · unfold Stop
    (rename Fr _ _ _ _ => kF; rename News _ _ _ _ => kN)
    refine list_ct kB kF kX kT rfl rfl (by simp only [depth_in1, depth_under_make, depth_deeper]; omega) kN hG (fun p hp => by simp only [List.mem_cons]; simp [hs p hp]) hlen hgb fun D1 c1 vs1 s1 hv1 F1 N1 l1 hb1 ho1 => ?_
    clear kF kN
    k_steps
    unfold Stop
    (rename Fr _ _ _ _ => kF; rename News _ _ _ _ => kN)
    refine list_ct kB kF kX kT rfl rfl (by simp only [depth_in1, depth_under_make, depth_deeper]; omega) kN hG' (fun p hp => by simp only [List.mem_cons]; simp [hs' p hp]) hlen' hb1 fun D2 c2 vs2 s2 hv2 F2 N2 l2 hb2 ho2 => ?_
    clear kF kN
    k_steps
    unfold Stop
    refine eq_names N2 (.tail _ (.head _)) (.head _) hv1 hv2 ok ok' (by simp only [units_deeper, units_in1]; omega) ?_
    k_steps
    (rename Fr h₀ L _ _ => kF; rename News h₀ L _ _ => kN)
    exact hQ _ kF (News.sub kN fun p hp => .tail _ (.tail _ (.tail _ (.tail _ (.tail _ (.tail _ (.tail _ (.tail _ hp)))))))) hb2 (ho2.trans ho1)
  · have e : ((ks.length : Int) == (ks'.length : Int)) = decide (ks = ks') := by
      rename (ks.length : Int) ≠ _ => hne
      rw [decide_eq_false fun h => hne (by rw [h])]
      exact beq_eq_false_iff_ne.mpr hne
    rw [e]
    (rename Fr h₀ L _ _ => kF; rename News h₀ L _ _ => kN)
    exact hQ _ kF (News.sub kN fun p hp => .tail _ (.tail _ (.tail _ (.tail _ (.tail _ (.tail _ hp)))))) hgb rfl
end

end SOsEq
section SOsPop
local macro_rules | `(tactic| k_room) => `(tactic| (show (_ : Nat) < _; (try simp only [depth_under_make, depth_under_kw, depth_in1, depth_deeper, depth_caller]); (try simp only [show recursionLimit = 1000 from rfl]); omega))
local macro_rules | `(tactic| k_ne) => `(tactic| (refine neN ?_; first | assumption | (refine Ne.symm ?_; assumption) | ((try dsimp only); omega)))
local macro_rules | `(tactic| k_all) => `(tactic| first | exact own_ne (by assumption) (by intro p hp; k_ownIn) | exact own_ne' (by assumption) (by assumption) (by intro p hp; k_ownIn))
local macro_rules | `(tactic| k_all) => `(tactic| exact OwnOff.ne (by assumption) (by k_memK))
local macro_rules | `(tactic| k_all) => `(tactic| (refine' List.forall_mem_cons.mpr ⟨?a, ?b⟩; (case a => k_ne); (case b => k_all)))
local macro_rules | `(tactic| k_lt $h:ident) => `(tactic| (have l0 : AllBelow _ _ := $h; replace $h := allLt_of $h; (try simp only [AllLt, and_true] at $h:ident)))

local macro_rules | `(tactic| k_allIn) => `(tactic| (intro p hp; k_ownIn))
local macro_rules | `(tactic| k_allIn) => `(tactic| (refine List.forall_mem_cons.mpr ⟨by k_memK, ?_⟩; k_allIn))


local macro_rules | `(tactic| k_enter) => `(tactic| (refine' code_def ?k1 ?k2 ?k3 ?k4 ?k5 ?kA ?kF ?kK ?k6 ?k7 ?k8 ?k9 ?kB ?kZ ?c2 ?c3 ?c4 ?c5; (case kA => exact rfl); (case kF => (first | exact rfl | assumption)); (case kK => (first | exact rfl | assumption)); (case k1 => k_asm); (case k2 => k_asm); (case k3 => k_asm); (case k4 => k_asm); (case k5 => k_asm); (case k6 => k_is); (case k7 => k_is); (case k8 => k_room); (case k9 => (first | exact BindsTo.of_eq rfl | exact binds_K (by k_in) rfl (by k_is) rfl rfl rfl)); (case c5 => decide); (case kB => exact locs rfl); (case c2 => exact rfl); (case c3 => exact rfl); (case c4 => exact rfl); k_whole; intro g' L' h' FG' F' N' B' X' T'; (try dsimp only); (try k_fold)))

local macro_rules | `(tactic| walk_at "call ref") => `(tactic| ((with_reducible first | (show wpAny _ _ (call (Value.ref 57) _ _) _ _ _) | (show wpAny _ _ (call (Value.ref 64) _ _) _ _ _) | (show wpAny _ _ (call (Value.ref 71) _ _) _ _ _) | (show wpAny _ _ (call (Value.ref 78) _ _) _ _ _) | (show wpAny _ _ (call (Value.ref 100) _ _) _ _ _) | (show wpAny _ _ (call (Value.ref 107) _ _) _ _ _) | (show wpAny _ _ (call (Value.ref 110) _ _) _ _ _)); refine stop_intro ?_))
local macro_rules | `(tactic| walk_at "exec For") => `(tactic| refine stop_intro ?_)
local macro_rules | `(tactic| walk_at "exec For Name") => `(tactic| refine stop_intro ?_)
local macro_rules | `(tactic| walk_at "exec For Name Name") => `(tactic| refine stop_intro ?_)
local macro_rules | `(tactic| walk_at "exec For Name Name cons") => `(tactic| refine stop_intro ?_)
local macro_rules | `(tactic| walk_at "exec For Name Name cons nil") => `(tactic| refine stop_intro ?_)
local macro_rules | `(tactic| walk_at "exec For Name Subscript cons nil") => `(tactic| refine stop_intro ?_)
theorem truthy_len {prog : Program} {w : World} {A : Around} {E : Value → Shared → Prop} {s : Shared} {K : Frag} {x C L f : Addr} {h₀ : Heap} {m : Str → Option Value} {ox : Obj} {od : Option Obj} {Q : Bool → Shared → Prop}
    (F : Fr h₀ L s.heap m) (X₀ : K.In h₀) (I : InstAt s.heap x ox C od) (hb : findIn K (.ref C) "__bool__" = some none) (hs : findIn K (.ref C) "__len__" = some (some (.ref f))) (hf : isFn K (.ref f) = true)
    (h : wpAny (model prog w) A.in1 (call (.ref f) [.ref x]) (fun r s' => ∃ n u, r = .int n u ∧ (0 ≤ n ∧ n < 2 ^ 63) ∧ ∀ tk, Q (n != 0) { s' with toks := tk }) E s) :
    wpAny (model prog w) A (truthy (.ref x)) Q E s := by
  have X := X₀.keeps F.keep
  unfold truthy
  refine wpAny_bind (m := callSpecial? (.ref x) (Str.ofString "__bool__")) (wpAny_bind (wpAny_bind (I.type.here ((looks_findIn X hb).here (wpAny_pure ?_)))))
  refine wpAny_bind (wpAny_bind (I.type.here ((looks_findIn X hs).here ?_)))
  show wpAny _ _ (runValue (.builtin "len" ⟨[.ref x], []⟩) >>= _) _ _ _
  refine wpAny_bind (wpAny_runValue (codeAny_builtin entry_len ?_))
  rw [Around.under_plainId plain_len]
  unfold Builtin.«len»
  refine wpAny_bind (m := oneArg "len" _) (wpAny_pure ?_)
  refine wpAny_bind (m := callSpecial? (.ref x) (Str.ofString "__len__")) (special_fn X I hs (beq_iff_eq.mp hf) (wpAny_mono h (fun r s' hr => ?_) fun _ _ y => y))
  obtain ⟨n, u, rfl, ⟨h0, h1⟩, hq⟩ := hr
  refine wpAny_bind (wpAny_holding (wpAny_pure ?_))
  refine wpAny_bind (wpAny_letGo ?_)
  show wpAny _ _ (if n < 0 then _ else _) _ _ _
  rw [if_neg (by omega)]
  show wpAny _ _ (if n ≥ 2 ^ 63 then _ else _) _ _ _
  rw [if_neg (by omega)]
  exact wpAny_bind (wpAny_mkInt (wpAny_pure (wpAny_pure (hq _))))
section
variable {prog : Program} {w : World} {A₀ : Around} {base h₀ : Heap} {outer : List Env} {env : Env} {L : Addr} {m mg mb : Str → Option Value} {p : Program} {loose : List Str} {mean : ExcName → Option Value} {s : Shared} {E : Value → Shared → Prop} {Q : Value → Shared → Prop}
    {u : Nat} {gs : Option (List Code)} {dp : Nat} {pre post G : List (Addr × Obj)} {o : Addr} {ks : List Str} {kt : Tok} {k : Str}
variable (B : Below A₀ base outer h₀) (F : Fr h₀ L s.heap m) (KX : (Mine.hd.heap_39 w.params).In h₀) (T : Top p loose mean mg mb h₀) (hf : env.frame = some L) (hke : env.scope.kind = .function) (hdp : dp < 400)
include B F KX T hf hke hdp
set_option pp.deepTerms false
set_option pp.deepTerms.threshold 6

theorem pop_last (N : News h₀ L s.heap (pre ++ (G ++ post))) (hG : SetAt prog w G o (ks ++ [k])) (hlen : ks.length ≤ 90) (hoff : OwnOff G ((pre ++ post).map (·.1)))
    (hQ : ∀ h' tk G' kt, SetAt prog w G' o ks → OwnOff G' ((pre ++ post).map (·.1)) → Fr h₀ L h' m → News h₀ L h' (pre ++ (G' ++ post)) → Q (.str k kt) { s with heap := h', toks := tk }) :
    wpAny (model prog w) ⟨none, dp, some (env :: outer), gs, u⟩ (call (.ref 100) [.ref o]) Q E s := by
  have hnd := hG.nodup
  have hG' := hG
  obtain ⟨S, rfl, hks, ok, hGS⟩ := hG'
  obtain ⟨l1, x, hls⟩ : ∃ l1 x, S.ls = l1 ++ [x] := by
    rcases List.eq_nil_or_concat S.ls with h | ⟨l1, x, h⟩
    · rw [h] at hks; simp at hks
    · exact ⟨l1, x, by rw [h, List.concat_eq_append]⟩
  rw [hls, List.map_append] at hks
  obtain ⟨hk1, hk2⟩ := List.append_inj' hks rfl
  simp only [List.map_cons, List.map_nil, List.cons.injEq, and_true] at hk2
  subst hk2
  have hfil : (ks ++ [x.k]).filter (fun y => decide (y ≠ x.k)) = ks := by
    rw [List.nodup_append] at hnd
    rw [List.filter_append, List.filter_eq_self.mpr fun a ha => decide_eq_true (hnd.2.2 a ha x.k (.head _))]
    simp
  have NX : News h₀ L s.heap ((S.o, instObj OSa S.od) :: (S.od, setD w S.t1 S.t2 S.r S.md) :: (S.r, instObj LKa S.rd) :: (S.rd, lnkD w S.a1 S.a2 S.a3 (.ref x.a) (.ref (hdA S.ls S.r)) .none) :: (x.a, instObj LKa x.d) :: (x.d, lnkD w x.t1 x.t2 x.t3 (.ref (ltA l1 S.r)) (.ref S.r) (.str x.k x.kt)) :: (pre ++ (G ++ post))) := by
    have hin : ∀ q ∈ S.led w, q ∈ pre ++ (G ++ post) := fun q hq => List.mem_append_right _ (List.mem_append_left _ (hGS ▸ hq))
    have e1 : ltA S.ls S.r = x.a := by rw [hls, ltA_append, ltA_cons, ltA_nil]
    refine News.sub N fun q hq => ?_
    simp only [List.mem_cons] at hq
    rcases hq with rfl | rfl | rfl | rfl | rfl | rfl | hq
    · exact hin _ (by simp [Os.led])
    · exact hin _ (by simp [Os.led])
    · exact hin _ (by simp [Os.led])
    · exact hin _ (by simp [Os.led, e1])
    · exact hin _ (by simp only [Os.led, hls, chain_append, chain_cons, chain_nil, hdA_nil, List.mem_cons, List.mem_append]; simp)
    · exact hin _ (by simp only [Os.led, hls, chain_append, chain_cons, chain_nil, hdA_nil, List.mem_cons, List.mem_append]; simp)
    · exact hq
  have hin : ∀ p ∈ G, p ∈ pre ++ (G ++ post) := fun p hp => List.mem_append_right _ (List.mem_append_left _ hp)
  clear N
  refine wpAny_call ?_
  k_enter
  k_steps
  (rename Fr _ _ _ _ => kF; rename News _ _ _ _ => kN; rename Below _ _ _ _ => kB; rename Frag.In _ _ => kX; rename Top _ _ _ _ _ _ => kT)
  refine' truthy_len (f := 57) kF kX (InstAt.of_news kN (.head _) (.tail _ (.head _))) ?k1 ?k2 ?k3 ?_
  case k1 => k_is
  case k2 => k_is
  case k3 => k_is
  refine len_ct kB kF kX kT rfl rfl (by simp only [depth_in1, depth_deeper]; omega) kN hG (fun p hp => .tail _ (.tail _ (.tail _ (.tail _ (.tail _ (.tail _ (hin p hp))))))) (by rw [List.length_append, List.length_singleton]; omega) fun h' tk t F' N' => ?_
  refine ⟨_, _, rfl, ⟨by omega, by rw [List.length_append, List.length_singleton]; omega⟩, fun tk => ?_⟩
  rw [if_neg (by rw [List.length_append, List.length_singleton]; simp; omega)]
  clear kF kN
  k_steps
  unfold Stop
  (rename Fr _ _ _ _ => kF; rename News _ _ _ _ => kN)
  refine disc_ct (pre := pre) (post := post) (G := G) kB kF kX kT rfl rfl (by simp only [depth_in1, depth_deeper]; omega) (News.sub kN fun p hp => .tail _ (.tail _ (.tail _ (.tail _ (.tail _ (.tail _ hp)))))) hG (by rw [List.length_append, List.length_singleton]; omega) hoff fun h' tk G' hG' hoff' F' N' => ?_
  rw [hfil] at hG'
  clear kF kN
  k_steps
  rename News _ _ _ _ => kN
  exact hQ _ _ _ _ hG' hoff' (by assumption) kN

theorem pop_first (N : News h₀ L s.heap (pre ++ (G ++ post))) (hG : SetAt prog w G o (k :: ks)) (hlen : ks.length ≤ 90) (hoff : OwnOff G ((pre ++ post).map (·.1)))
    (hQ : ∀ h' tk G' kt, SetAt prog w G' o ks → OwnOff G' ((pre ++ post).map (·.1)) → Fr h₀ L h' m → News h₀ L h' (pre ++ (G' ++ post)) → Q (.str k kt) { s with heap := h', toks := tk }) :
    wpAny (model prog w) ⟨none, dp, some (env :: outer), gs, u⟩ (call (.ref 100) [.ref o, .bool false]) Q E s := by
  have hnd := hG.nodup
  have hG' := hG
  obtain ⟨S, rfl, hks, ok, hGS⟩ := hG'
  obtain ⟨l1, x, hls⟩ : ∃ l1 x, S.ls = x :: l1 := by
    cases h : S.ls with
    | nil => rw [h] at hks; simp at hks
    | cons x l1 => exact ⟨l1, x, rfl⟩
  rw [hls, List.map_cons] at hks
  obtain ⟨hk2, hk1⟩ := List.cons.inj hks
  subst hk2
  have hfil : (x.k :: ks).filter (fun y => decide (y ≠ x.k)) = ks := by
    rw [List.nodup_cons] at hnd
    have h2 : ks.filter (fun y => decide (y ≠ x.k)) = ks := List.filter_eq_self.mpr fun a ha => decide_eq_true fun e => hnd.1 (by rw [← e]; exact ha)
    rw [List.filter_cons, if_neg (by simp), h2]
  have NX : News h₀ L s.heap ((S.o, instObj OSa S.od) :: (S.od, setD w S.t1 S.t2 S.r S.md) :: (S.r, instObj LKa S.rd) :: (S.rd, lnkD w S.a1 S.a2 S.a3 (.ref (ltA S.ls S.r)) (.ref x.a) .none) :: (x.a, instObj LKa x.d) :: (x.d, lnkD w x.t1 x.t2 x.t3 (.ref S.r) (.ref (hdA l1 S.r)) (.str x.k x.kt)) :: (pre ++ (G ++ post))) := by
    have hin : ∀ q ∈ S.led w, q ∈ pre ++ (G ++ post) := fun q hq => List.mem_append_right _ (List.mem_append_left _ (hGS ▸ hq))
    have e1 : hdA S.ls S.r = x.a := by rw [hls, hdA_cons]
    refine News.sub N fun q hq => ?_
    simp only [List.mem_cons] at hq
    rcases hq with rfl | rfl | rfl | rfl | rfl | rfl | hq
    · exact hin _ (by simp [Os.led])
    · exact hin _ (by simp [Os.led])
    · exact hin _ (by simp [Os.led])
    · exact hin _ (by simp [Os.led, e1])
    · exact hin _ (by simp only [Os.led, hls, chain_append, chain_cons, chain_nil, hdA_nil, List.mem_cons, List.mem_append]; simp)
    · exact hin _ (by simp only [Os.led, hls, chain_append, chain_cons, chain_nil, hdA_nil, List.mem_cons, List.mem_append]; simp)
    · exact hq
  have hin : ∀ p ∈ G, p ∈ pre ++ (G ++ post) := fun p hp => List.mem_append_right _ (List.mem_append_left _ hp)
  clear N
  refine wpAny_call ?_
  k_enter
  k_steps
  (rename Fr _ _ _ _ => kF; rename News _ _ _ _ => kN; rename Below _ _ _ _ => kB; rename Frag.In _ _ => kX; rename Top _ _ _ _ _ _ => kT)
  refine' truthy_len (f := 57) kF kX (InstAt.of_news kN (.head _) (.tail _ (.head _))) ?k1 ?k2 ?k3 ?_
  case k1 => k_is
  case k2 => k_is
  case k3 => k_is
  refine len_ct kB kF kX kT rfl rfl (by simp only [depth_in1, depth_deeper]; omega) kN hG (fun p hp => .tail _ (.tail _ (.tail _ (.tail _ (.tail _ (.tail _ (hin p hp))))))) (by rw [List.length_cons]; omega) fun h' tk t F' N' => ?_
  refine ⟨_, _, rfl, ⟨by omega, by rw [List.length_cons]; omega⟩, fun tk => ?_⟩
  rw [if_neg (by rw [List.length_cons]; simp; omega)]
  clear kF kN
  k_steps
  unfold Stop
  (rename Fr _ _ _ _ => kF; rename News _ _ _ _ => kN)
  refine disc_ct (pre := pre) (post := post) (G := G) kB kF kX kT rfl rfl (by simp only [depth_in1, depth_deeper]; omega) (News.sub kN fun p hp => .tail _ (.tail _ (.tail _ (.tail _ (.tail _ (.tail _ hp)))))) hG (by rw [List.length_cons]; omega) hoff fun h' tk G' hG' hoff' F' N' => ?_
  rw [hfil] at hG'
  clear kF kN
  k_steps
  rename News _ _ _ _ => kN
  exact hQ _ _ _ _ hG' hoff' (by assumption) kN

end

end SOsPop
section SOsPopE
local macro_rules | `(tactic| k_room) => `(tactic| (show (_ : Nat) < _; (try simp only [depth_under_make, depth_under_kw, depth_in1, depth_deeper, depth_caller]); (try simp only [show recursionLimit = 1000 from rfl]); omega))
local macro_rules | `(tactic| k_ne) => `(tactic| (refine neN ?_; first | assumption | (refine Ne.symm ?_; assumption) | ((try dsimp only); omega)))
local macro_rules | `(tactic| k_all) => `(tactic| first | exact own_ne (by assumption) (by intro p hp; k_ownIn) | exact own_ne' (by assumption) (by assumption) (by intro p hp; k_ownIn))
local macro_rules | `(tactic| k_all) => `(tactic| exact OwnOff.ne (by assumption) (by k_memK))
local macro_rules | `(tactic| k_all) => `(tactic| (refine' List.forall_mem_cons.mpr ⟨?a, ?b⟩; (case a => k_ne); (case b => k_all)))
local macro_rules | `(tactic| k_lt $h:ident) => `(tactic| (have l0 : AllBelow _ _ := $h; replace $h := allLt_of $h; (try simp only [AllLt, and_true] at $h:ident)))

local macro_rules | `(tactic| k_allIn) => `(tactic| (intro p hp; k_ownIn))
local macro_rules | `(tactic| k_allIn) => `(tactic| (refine List.forall_mem_cons.mpr ⟨by k_memK, ?_⟩; k_allIn))


local macro_rules | `(tactic| k_enter) => `(tactic| (refine' code_def ?k1 ?k2 ?k3 ?k4 ?k5 ?kA ?kF ?kK ?k6 ?k7 ?k8 ?k9 ?kB ?kZ ?c2 ?c3 ?c4 ?c5; (case kA => exact rfl); (case kF => (first | exact rfl | assumption)); (case kK => (first | exact rfl | assumption)); (case k1 => k_asm); (case k2 => k_asm); (case k3 => k_asm); (case k4 => k_asm); (case k5 => k_asm); (case k6 => k_is); (case k7 => k_is); (case k8 => k_room); (case k9 => (first | exact BindsTo.of_eq rfl | exact binds_K (by k_in) rfl (by k_is) rfl rfl rfl)); (case c5 => decide); (case kB => exact locs rfl); (case c2 => exact rfl); (case c3 => exact rfl); (case c4 => exact rfl); k_whole; intro g' L' h' FG' F' N' B' X' T'; (try dsimp only); (try k_fold)))

local macro_rules | `(tactic| walk_at "call ref") => `(tactic| ((with_reducible first | (show wpAny _ _ (call (Value.ref 57) _ _) _ _ _) | (show wpAny _ _ (call (Value.ref 64) _ _) _ _ _) | (show wpAny _ _ (call (Value.ref 71) _ _) _ _ _) | (show wpAny _ _ (call (Value.ref 78) _ _) _ _ _) | (show wpAny _ _ (call (Value.ref 100) _ _) _ _ _) | (show wpAny _ _ (call (Value.ref 107) _ _) _ _ _) | (show wpAny _ _ (call (Value.ref 110) _ _) _ _ _)); refine stop_intro ?_))
local macro_rules | `(tactic| walk_at "exec For") => `(tactic| refine stop_intro ?_)
local macro_rules | `(tactic| walk_at "exec For Name") => `(tactic| refine stop_intro ?_)
local macro_rules | `(tactic| walk_at "exec For Name Name") => `(tactic| refine stop_intro ?_)
local macro_rules | `(tactic| walk_at "exec For Name Name cons") => `(tactic| refine stop_intro ?_)
local macro_rules | `(tactic| walk_at "exec For Name Name cons nil") => `(tactic| refine stop_intro ?_)
local macro_rules | `(tactic| walk_at "exec For Name Subscript cons nil") => `(tactic| refine stop_intro ?_)
section
variable {prog : Program} {w : World} {A₀ : Around} {base h₀ : Heap} {outer : List Env} {env : Env} {L : Addr} {m mg mb : Str → Option Value} {p : Program} {loose : List Str} {mean : ExcName → Option Value} {s : Shared} {E : Value → Shared → Prop} {Q : Value → Shared → Prop}
    {u : Nat} {gs : Option (List Code)} {dp : Nat} {pre post G : List (Addr × Obj)} {o : Addr} {ks : List Str} {kt : Tok} {k : Str}
variable (B : Below A₀ base outer h₀) (F : Fr h₀ L s.heap m) (KX : (Mine.hd.heap_39 w.params).In h₀) (T : Top p loose mean mg mb h₀) (hf : env.frame = some L) (hke : env.scope.kind = .function) (hdp : dp < 400)
include B F KX T hf hke hdp
set_option pp.deepTerms false
set_option pp.deepTerms.threshold 6
theorem pop_none (N : News h₀ L s.heap (pre ++ (G ++ post))) (hG : SetAt prog w G o [])
    (hE : ∀ e g h' tk, Fr h₀ L g m → RaisedN base (env :: outer) e (.type "KeyError") (pre ++ (G ++ post)) h' → g.UpToSlots h' → E (.ref e) { s with heap := h', toks := tk }) :
    wpAny (model prog w) ⟨none, dp, some (env :: outer), gs, u⟩ (call (.ref 100) [.ref o]) Q E s := by
  have hG' := hG
  obtain ⟨S, rfl, hks, ok, hGS⟩ := hG'
  have NX : News h₀ L s.heap ((S.o, instObj OSa S.od) :: (S.od, setD w S.t1 S.t2 S.r S.md) :: (pre ++ (G ++ post))) := by
    have hin : ∀ q ∈ S.led w, q ∈ pre ++ (G ++ post) := fun q hq => List.mem_append_right _ (List.mem_append_left _ (hGS ▸ hq))
    refine News.sub N fun q hq => ?_
    simp only [List.mem_cons] at hq
    rcases hq with rfl | rfl | hq
    · exact hin _ (by simp [Os.led])
    · exact hin _ (by simp [Os.led])
    · exact hq
  have hin : ∀ p ∈ G, p ∈ pre ++ (G ++ post) := fun p hp => List.mem_append_right _ (List.mem_append_left _ hp)
  clear N
  refine wpAny_call ?_
  k_enter
  k_steps
  (rename Fr _ _ _ _ => kF; rename News _ _ _ _ => kN; rename Below _ _ _ _ => kB; rename Frag.In _ _ => kX; rename Top _ _ _ _ _ _ => kT)
  refine' truthy_len (f := 57) kF kX (InstAt.of_news kN (.head _) (.tail _ (.head _))) ?k1 ?k2 ?k3 ?_
  case k1 => k_is
  case k2 => k_is
  case k3 => k_is
  refine len_ct kB kF kX kT rfl rfl (by simp only [depth_in1, depth_deeper]; omega) kN hG (fun p hp => .tail _ (.tail _ (hin p hp))) (by decide) fun h' tk t F' N' => ?_
  refine ⟨_, _, rfl, ⟨by decide, by decide⟩, fun tk => ?_⟩
  rw [if_pos (by decide)]
  clear kF kN
  k_steps
  rename Fr h₀ L _ m => kFG
  rename RaisedN _ _ _ _ _ _ => kR
  rename Heap.UpToSlots _ _ => kU
  obtain ⟨B', a0, r1, r2, r3⟩ := kR
  exact hE _ _ _ _ kFG ⟨B', a0, r1, fun q hq => r2 q (.tail _ (.tail _ hq)), r3⟩ kU

theorem pop_noneF (N : News h₀ L s.heap (pre ++ (G ++ post))) (hG : SetAt prog w G o [])
    (hE : ∀ e g h' tk, Fr h₀ L g m → RaisedN base (env :: outer) e (.type "KeyError") (pre ++ (G ++ post)) h' → g.UpToSlots h' → E (.ref e) { s with heap := h', toks := tk }) :
    wpAny (model prog w) ⟨none, dp, some (env :: outer), gs, u⟩ (call (.ref 100) [.ref o, .bool false]) Q E s := by
  have hG' := hG
  obtain ⟨S, rfl, hks, ok, hGS⟩ := hG'
  have NX : News h₀ L s.heap ((S.o, instObj OSa S.od) :: (S.od, setD w S.t1 S.t2 S.r S.md) :: (pre ++ (G ++ post))) := by
    have hin : ∀ q ∈ S.led w, q ∈ pre ++ (G ++ post) := fun q hq => List.mem_append_right _ (List.mem_append_left _ (hGS ▸ hq))
    refine News.sub N fun q hq => ?_
    simp only [List.mem_cons] at hq
    rcases hq with rfl | rfl | hq
    · exact hin _ (by simp [Os.led])
    · exact hin _ (by simp [Os.led])
    · exact hq
  have hin : ∀ p ∈ G, p ∈ pre ++ (G ++ post) := fun p hp => List.mem_append_right _ (List.mem_append_left _ hp)
  clear N
  refine wpAny_call ?_
  k_enter
  k_steps
  (rename Fr _ _ _ _ => kF; rename News _ _ _ _ => kN; rename Below _ _ _ _ => kB; rename Frag.In _ _ => kX; rename Top _ _ _ _ _ _ => kT)
  refine' truthy_len (f := 57) kF kX (InstAt.of_news kN (.head _) (.tail _ (.head _))) ?k1 ?k2 ?k3 ?_
  case k1 => k_is
  case k2 => k_is
  case k3 => k_is
  refine len_ct kB kF kX kT rfl rfl (by simp only [depth_in1, depth_deeper]; omega) kN hG (fun p hp => .tail _ (.tail _ (hin p hp))) (by decide) fun h' tk t F' N' => ?_
  refine ⟨_, _, rfl, ⟨by decide, by decide⟩, fun tk => ?_⟩
  rw [if_pos (by decide)]
  clear kF kN
  k_steps
  rename Fr h₀ L _ m => kFG
  rename RaisedN _ _ _ _ _ _ => kR
  rename Heap.UpToSlots _ _ => kU
  obtain ⟨B', a0, r1, r2, r3⟩ := kR
  exact hE _ _ _ _ kFG ⟨B', a0, r1, fun q hq => r2 q (.tail _ (.tail _ hq)), r3⟩ kU

end

end SOsPopE
section SOsLaw0
local macro_rules | `(tactic| k_room) => `(tactic| (show (_ : Nat) < _; (try simp only [depth_under_make, depth_under_kw, depth_in1, depth_deeper, depth_caller]); (try simp only [show recursionLimit = 1000 from rfl]); omega))
local macro_rules | `(tactic| k_ne) => `(tactic| (refine neN ?_; first | assumption | (refine Ne.symm ?_; assumption) | ((try dsimp only); omega)))
local macro_rules | `(tactic| k_all) => `(tactic| first | exact own_ne (by assumption) (by intro p hp; k_ownIn) | exact own_ne' (by assumption) (by assumption) (by intro p hp; k_ownIn))
local macro_rules | `(tactic| k_all) => `(tactic| exact OwnOff.ne (by assumption) (by k_memK))
local macro_rules | `(tactic| k_all) => `(tactic| (refine' List.forall_mem_cons.mpr ⟨?a, ?b⟩; (case a => k_ne); (case b => k_all)))
local macro_rules | `(tactic| k_lt $h:ident) => `(tactic| (have l0 : AllBelow _ _ := $h; replace $h := allLt_of $h; (try simp only [AllLt, and_true] at $h:ident)))

local macro_rules | `(tactic| k_allIn) => `(tactic| (intro p hp; k_ownIn))
local macro_rules | `(tactic| k_allIn) => `(tactic| (refine List.forall_mem_cons.mpr ⟨by k_memK, ?_⟩; k_allIn))


local macro_rules | `(tactic| k_enter) => `(tactic| (refine' code_def ?k1 ?k2 ?k3 ?k4 ?k5 ?kA ?kF ?kK ?k6 ?k7 ?k8 ?k9 ?kB ?kZ ?c2 ?c3 ?c4 ?c5; (case kA => exact rfl); (case kF => (first | exact rfl | assumption)); (case kK => (first | exact rfl | assumption)); (case k1 => k_asm); (case k2 => k_asm); (case k3 => k_asm); (case k4 => k_asm); (case k5 => k_asm); (case k6 => k_is); (case k7 => k_is); (case k8 => k_room); (case k9 => (first | exact BindsTo.of_eq rfl | exact binds_K (by k_in) rfl (by k_is) rfl rfl rfl)); (case c5 => decide); (case kB => exact locs rfl); (case c2 => exact rfl); (case c3 => exact rfl); (case c4 => exact rfl); k_whole; intro g' L' h' FG' F' N' B' X' T'; (try dsimp only); (try k_fold)))

local macro_rules | `(tactic| walk_at "call ref") => `(tactic| ((with_reducible first | (show wpAny _ _ (call (Value.ref 57) _ _) _ _ _) | (show wpAny _ _ (call (Value.ref 64) _ _) _ _ _) | (show wpAny _ _ (call (Value.ref 71) _ _) _ _ _) | (show wpAny _ _ (call (Value.ref 78) _ _) _ _ _) | (show wpAny _ _ (call (Value.ref 100) _ _) _ _ _) | (show wpAny _ _ (call (Value.ref 107) _ _) _ _ _) | (show wpAny _ _ (call (Value.ref 110) _ _) _ _ _)); refine stop_intro ?_))
local macro_rules | `(tactic| walk_at "exec For") => `(tactic| refine stop_intro ?_)
local macro_rules | `(tactic| walk_at "exec For Name") => `(tactic| refine stop_intro ?_)
local macro_rules | `(tactic| walk_at "exec For Name Name") => `(tactic| refine stop_intro ?_)
local macro_rules | `(tactic| walk_at "exec For Name Name cons") => `(tactic| refine stop_intro ?_)
local macro_rules | `(tactic| walk_at "exec For Name Name cons nil") => `(tactic| refine stop_intro ?_)
local macro_rules | `(tactic| walk_at "exec For Name Subscript cons nil") => `(tactic| refine stop_intro ?_)
def tab : List Str := ["x", "y", "list", "a.b", ""]
def NamesIn (ks : List Str) : Prop := ∀ k ∈ ks, k ∈ tab
theorem tab_ok : ∀ k ∈ tab, PyData.strOk k = true := by decide +kernel
theorem NamesIn.ok {ks : List Str} (h : NamesIn ks) : NamesOk ks := fun k hk => tab_ok k (h k hk)
theorem NamesIn.append {ks ks' : List Str} (h : NamesIn ks) (h' : NamesIn ks') : NamesIn (ks ++ ks') := fun k hk => (List.mem_append.mp hk).elim (h k) (h' k)
theorem Names.snoc {vs : List Value} {ks : List Str} {k : Str} {t : Tok} (h : Names vs ks) : Names (vs ++ [.str k t]) (ks ++ [k]) := h.append (.cons t .nil)
def NmEl (news : List (Addr × Obj)) (Pk : Str → Prop) (y : Value) (news' : List (Addr × Obj)) : Prop := news' = news ∧ ∃ k t, y = .str k t ∧ Pk k
def NmDone (P : Prop) : Prop := P
section
variable {prog : Program} {w : World} {A : Around} {h₀ : Heap} {L : Addr} {m : Str → Option Value} {env : Env} {elt : Expr} {x : Str} {scope : Scope} {cl : List (Str × Addr)} {s : Shared} {S : List (Addr × Obj) → Prop} {P : Nat → Value → Prop} {Fin : List Value → List (Addr × Obj) → Prop} {news : List (Addr × Obj)}
theorem nm_rest {n : Nat} (Pk : Nat → Str → Prop)
    (turn : ∀ i v I oI C oC D m₂ ys h tk (E' : Value → Shared → Prop), i < n → P i v → LCg.NsObj oC m₂ → m₂ x = some v → Fr h₀ L h m → News h₀ L h ((I, oI) :: (C, oC) :: (D, LCg.lst ys) :: news) → LCg.Off3 I C D news → ((@Ne Nat I C) ∧ (@Ne Nat I D) ∧ (@Ne Nat C D)) →
      wpAny (model prog w) A (eval elt (compEnvC scope cl C env)) (LCg.CompEnd h₀ L m { s with heap := h, toks := tk } I oI C oC D (LCg.lst ys) S (fun y news' => NmEl news (Pk i) y news')) E' { s with heap := h, toks := tk })
    (fin : NmDone (∀ ys ks, Names ys ks → ks.length = n → (∀ i k, ks[i]? = some k → Pk i k) → Fin ys news)) : LCg.CompRest prog w A h₀ L m env elt x scope cl s S P Fin n 0 [] news := by
  have key : ∀ (j i : Nat) (ys : List Value) (ks : List Str), i + j = n → Names ys ks → ks.length = i → (∀ i k, ks[i]? = some k → Pk i k) → LCg.CompRest prog w A h₀ L m env elt x scope cl s S P Fin j i ys news := by
    intro j
    induction j with
    | zero =>
      intro i ys ks hi hy hl hk
      exact LCg.CompRest.zero (fin ys ks hy (by omega) hk)
    | succ j ih =>
      intro i ys ks hi hy hl hk
      refine LCg.CompRest.succ ?_
      intro v I oI C oC D m₂ h tk E' hv hC hx F N off ne
      refine wpAny_mono (turn i v I oI C oC D m₂ ys h tk E' (by omega) hv hC hx F N off ne) (fun y s₂ hq => ?_) fun _ _ e => e
      obtain ⟨h', tk', nw, e, F', N', off', hS, hn, k, t, hy', hPk⟩ := hq
      rw [hn] at N' off' hS
      refine ⟨h', tk', news, e, F', N', off', hS, ?_⟩
      rw [hy']
      refine ih (i + 1) _ (ks ++ [k]) (by omega) hy.snoc (by simp [hl]) fun j q hq => ?_
      rw [List.getElem?_append] at hq
      split at hq
      · exact hk j q hq
      · rename_i hlt
        have : j = ks.length := by
          rcases Nat.lt_or_ge j (ks.length + 1) with h | h
          · omega
          · rw [List.getElem?_eq_none (by simp; omega)] at hq; cases hq
        subst this
        simp at hq
        rw [← hq, hl]; exact hPk
  exact key n 0 [] [] (by omega) .nil rfl (by simp)
end

def Halt (P : Prop) : Prop := ∀ _ : Unit, P
theorem halt {P : Prop} (h : P) : Halt P := fun _ => h
theorem Halt.out {P : Prop} (h : Halt P) : P := h ()
section
variable {prog : Program} {w : World} {A : Around} {E : Value → Shared → Prop} {env : Env} {s : Shared} {h₀ : Heap} {L : Addr}
/-- a loop over a list of the ledger: the body keeps the list and its iterator -/
theorem for_list {x : Str} {body : List Stmt} {l : Addr} {vs : List Value} {n : Nat} {Q : Flow → Shared → Prop} (hh : A.handled = none)
    (Inv : Nat → (Str → Option Value) → List (Addr × Obj) → Array GenState → OsState → Prop) {m : Str → Option Value} {news : List (Addr × Obj)}
    (F : Fr h₀ L s.heap m) (N : News h₀ L s.heap ((l, listOf vs.toArray n) :: news)) (h0 : Inv 0 m news s.gens s.os)
    (step : ∀ i v I oI (s₁ : Shared) m' news', vs[i]? = some v → Fr h₀ L s₁.heap m' → News h₀ L s₁.heap ((I, oI) :: (l, listOf vs.toArray n) :: news') → @LT.lt Nat _ l I → @LT.lt Nat _ L I → (∀ q ∈ news', q.1 ≠ I) → (∀ q ∈ news, @LT.lt Nat _ q.1 I) → Inv i m' news' s₁.gens s₁.os →
      wpAny (model prog w) A (storeName env x v) (fun _ s₂ => wpAny (model prog w) A (execs body env) (fun f s₃ => match f with
        | .next | .cont => Halt (∃ m'' news'', Fr h₀ L s₃.heap m'' ∧ News h₀ L s₃.heap ((I, oI) :: (l, listOf vs.toArray n) :: news'') ∧ (∀ q ∈ news'', q.1 ≠ I) ∧ Inv (i + 1) m'' news'' s₃.gens s₃.os)
        | .brk => Q .next s₃
        | .ret v => Q (.ret v) s₃) (fun _ _ => False) s₂) (fun _ _ => False) s₁)
    (done : ∀ s' m' news', Fr h₀ L s'.heap m' → News h₀ L s'.heap ((l, listOf vs.toArray n) :: news') → Inv vs.length m' news' s'.gens s'.os → Q .next s') :
    wpAny (model prog w) A (pyIter (.ref l)) (ForAt prog w A env x body Q) E s := by
  have hls : s.heap.IsList l vs.toArray := ⟨_, (N _ (.head _)).1, rfl, _, rfl⟩
  have hlt : l < s.heap.objs.size := Heap.lt_size (N _ (.head _)).1
  refine wpAny_pyIter_list hls ?_
  generalize hI : s.heap.objs.size = I at *
  have up : ∀ b o, s.heap.get? b = some o → (s.heap.push { cls := .type "list_iterator", data := .fields #[.ref l, .int 0 0] }).get? b = some o := fun b o e => Heap.get?_push_of_some _ e
  have hIn : (s.heap.push { cls := .type "list_iterator", data := .fields #[.ref l, .int 0 0] }).get? I = some { cls := .type "list_iterator", data := .fields #[.ref l, .int 0 0] } := hI ▸ Heap.get?_push_size _ rfl
  have hLI : L < I := hI ▸ F.ns.lt
  have hI0 : h₀.get? I = none := by
    cases q : h₀.get? I with
    | none => rfl
    | some o => have := Heap.lt_size (F.keep _ _ q); rw [hI] at this; exact absurd this (Nat.lt_irrefl _)
  have hnew : ∀ q ∈ news, q.1 < I := fun q hq => hI ▸ Heap.lt_size (N q (.tail _ hq)).1
  have W := (Walks.list (prog := prog) (w := w) hh I l (Nat.ne_of_lt hlt) vs.toArray).toS
  refine ⟨I, [I, l], [I], (fun a b => b = a), vs.length, (fun i v => vs.toArray[i]? = some v), (fun i s₁ => s₁.heap.IsListIter I l i ∧ s₁.heap.IsList l vs.toArray),
    (fun i s₁ => ∃ m' news', Fr h₀ L s₁.heap m' ∧ News h₀ L s₁.heap ((l, listOf vs.toArray n) :: news') ∧ (∀ q ∈ news', q.1 ≠ I) ∧ Inv i m' news' s₁.gens s₁.os), rfl, ?_, ⟨⟨_, hIn, rfl, rfl⟩, hls.push _⟩,
    ⟨m, news, F.keeps up, News.grown N up, fun q hq => Nat.ne_of_lt (hnew q hq), h0⟩, ?_, ?_, ?_⟩
  · have e : vs.toArray.size = vs.length := List.size_toArray
    rw [e] at W
    exact W
  · rintro i s₁ s₂ ⟨m', news', F', N', off, hi⟩ mv
    have hk : ∀ b o, b ≠ I → s₁.heap.get? b = some o → s₂.heap.get? b = some o := fun b o hb e => mv.heap b o (fun h => hb (List.mem_singleton.mp h)) e
    have hg : s₂.gens = s₁.gens := mv.gens
    refine ⟨m', news', ⟨F'.ns.at' fun o e => hk _ o (Nat.ne_of_lt hLI) e, fun b o e => hk b o (fun q => by rw [q, hI0] at e; cases e) (F'.keep b o e), F'.above⟩, fun q hq => ⟨hk _ _ ?_ (N' q hq).1, (N' q hq).2⟩, off, ?_⟩
    · rcases List.mem_cons.mp hq with rfl | hq
      · exact Nat.ne_of_lt hlt
      · exact off q hq
    · rw [hg, mv.os]; exact hi
  · rintro i v s₁ hlt' hP ⟨m', news', F', N', off, hi⟩ ⟨⟨oI, eI, cI, dI⟩, hl₁⟩
    have hIne : I ≠ L := Nat.ne_of_gt hLI
    refine wpAny_mono (step i v I oI s₁ m' news' (by simpa using hP) F' (fun q hq => ?_) hlt hLI off hnew hi) (fun _ s₂ h₂ => wpAny_mono h₂ (fun f s₃ h₃ => ?_) fun _ _ e => e) fun _ _ e => e
    · rcases List.mem_cons.mp hq with rfl | hq
      · exact ⟨eI, hIne, hI0⟩
      · exact N' q hq
    · have key : (∃ m'' news'', Fr h₀ L s₃.heap m'' ∧ News h₀ L s₃.heap ((I, oI) :: (l, listOf vs.toArray n) :: news'') ∧ (∀ q ∈ news'', q.1 ≠ I) ∧ Inv (i + 1) m'' news'' s₃.gens s₃.os) → (∃ m' news', Fr h₀ L s₃.heap m' ∧ News h₀ L s₃.heap ((l, listOf vs.toArray n) :: news') ∧ (∀ q ∈ news', q.1 ≠ I) ∧ Inv (i + 1) m' news' s₃.gens s₃.os) ∧ (s₃.heap.IsListIter I l (i + 1) ∧ s₃.heap.IsList l vs.toArray) := by
        rintro ⟨m'', news'', F'', N'', off'', hi''⟩
        exact ⟨⟨m'', news'', F'', News.sub N'' fun q hq => .tail _ hq, off'', hi''⟩, ⟨oI, (N'' _ (.head _)).1, cI, dI⟩, ⟨_, (N'' _ (.tail _ (.head _))).1, rfl, _, rfl⟩⟩
      cases f with
      | next => exact key (Halt.out h₃)
      | cont => exact key (Halt.out h₃)
      | brk => exact h₃
      | ret v => exact h₃
  · rintro s₁ ⟨m', news', F', N', _, hi⟩
    exact done s₁ m' news' F' N' hi
end

abbrev PRG : Program := PySem.Challenge.rw_jv0045_01.row.prog
def Apt (a b : Nat) : Prop := a ≠ b
theorem Apt.ne {a b : Nat} (h : Apt a b) : a ≠ b := h
def LawLed (w : World) (L : Addr) (pre : List Addr) (op : Obj) (nv : Option Value) (rs : List Str) (led : List (Addr × Obj)) : Prop :=
  NamesIn rs ∧ ∃ on orw oh vs n rw o G, led = ((rw, listOf vs.toArray n) :: (L + 1 + 1 + 1 + 1, on) :: (L + 1 + 1 + 1, orw) :: (L + 1 + 1, oh) :: (L + 1, op) :: G) ∧
    on.data = .cell nv ∧ orw.data = .cell (some (.ref rw)) ∧ oh.data = .cell (some (.ref o)) ∧ Names vs rs ∧ SetAt PRG w G o rs ∧ OwnOff G (pre ++ [rw, L + 1 + 1 + 1 + 1, L + 1 + 1 + 1, L + 1 + 1, L + 1]) ∧ (∀ a ∈ pre, Apt a rw) ∧
    (Apt (L + 1 + 1 + 1 + 1) rw ∧ Apt (L + 1 + 1 + 1) rw ∧ Apt (L + 1 + 1) rw ∧ Apt (L + 1) rw)
def LawSt (w : World) (h₀ : Heap) (L : Addr) (pre : List (Addr × Obj)) (op : Obj) (nv : Option Value) (os : OsState) (s' : Shared) : Prop :=
  AllBare s'.gens ∧ s'.os = os ∧ ∃ m' led rs, Fr h₀ L s'.heap m' ∧ News h₀ L s'.heap (pre ++ led) ∧ LawLed w L (pre.map (·.1)) op nv rs led
theorem nodup_len : ∀ {l m : List Str}, l.Nodup → (∀ x ∈ l, x ∈ m) → l.length ≤ m.length
  | [], _, _, _ => Nat.zero_le _
  | x :: r, m, hn, hs => by
    have hx := hs x (.head _)
    have hr := nodup_len (l := r) (m := m.erase x) (List.nodup_cons.mp hn).2 fun y hy => by
      refine (List.mem_erase_of_ne fun e => ?_).mpr (hs y (.tail _ hy))
      exact (List.nodup_cons.mp hn).1 (e ▸ hy)
    rw [List.length_erase_of_mem hx] at hr
    have : 0 < m.length := List.length_pos_of_mem hx
    rw [List.length_cons]
    omega
theorem rs_len {prog : Program} {w : World} {G : List (Addr × Obj)} {o : Addr} {rs : List Str} (h : SetAt prog w G o rs) (hi : NamesIn rs) : rs.length ≤ 5 := nodup_len h.nodup hi
theorem foldl_addK_in {l : List Str} : ∀ {ks acc : List Str}, (∀ k ∈ ks, k ∈ l) → (∀ k ∈ acc, k ∈ l) → ∀ k ∈ ks.foldl addK acc, k ∈ l
  | [], _, _, h => h
  | x :: r, acc, hk, h => foldl_addK_in (ks := r) (fun k hk' => hk k (.tail _ hk')) fun k hk' => by
    unfold addK at hk'
    split at hk'
    · exact h k hk'
    · rcases List.mem_append.mp hk' with hk' | hk'
      · exact h k hk'
      · rw [List.mem_singleton.mp hk']; exact hk x (.head _)

theorem foldl_nodup : ∀ {rs acc : List Str}, (acc ++ rs).Nodup → rs.foldl addK acc = acc ++ rs
  | [], acc, _ => by simp
  | x :: r, acc, h => by
    have hx : x ∉ acc := fun hx => by
      rw [List.nodup_append] at h
      exact h.2.2 x hx x (.head _) rfl
    rw [List.foldl_cons, addK, if_neg hx, foldl_nodup (by simpa using h)]
    simp
theorem mem_swap {α : Type} {xs G G2 : List α} : ∀ p ∈ xs ++ G2, p ∈ G2 ++ (xs ++ G) := fun p hp => by
  rcases List.mem_append.mp hp with h | h
  · exact List.mem_append_right _ (List.mem_append_left _ h)
  · exact List.mem_append_left _ h

end SOsLaw0
section SOsSrcC
local macro_rules | `(tactic| k_room) => `(tactic| (show (_ : Nat) < _; (try simp only [depth_under_make, depth_under_kw, depth_in1, depth_deeper, depth_caller]); (try simp only [show recursionLimit = 1000 from rfl]); omega))
local macro_rules | `(tactic| k_ne) => `(tactic| (refine neN ?_; first | assumption | (refine Ne.symm ?_; assumption) | ((try dsimp only); omega)))
local macro_rules | `(tactic| k_all) => `(tactic| first | exact own_ne (by assumption) (by intro p hp; k_ownIn) | exact own_ne' (by assumption) (by assumption) (by intro p hp; k_ownIn))
local macro_rules | `(tactic| k_all) => `(tactic| exact OwnOff.ne (by assumption) (by k_memK))
local macro_rules | `(tactic| k_all) => `(tactic| (refine' List.forall_mem_cons.mpr ⟨?a, ?b⟩; (case a => k_ne); (case b => k_all)))
local macro_rules | `(tactic| k_lt $h:ident) => `(tactic| (have l0 : AllBelow _ _ := $h; replace $h := allLt_of $h; (try simp only [AllLt, and_true] at $h:ident)))

local macro_rules | `(tactic| k_allIn) => `(tactic| (intro p hp; k_ownIn))
local macro_rules | `(tactic| k_allIn) => `(tactic| (refine List.forall_mem_cons.mpr ⟨by k_memK, ?_⟩; k_allIn))


local macro_rules | `(tactic| k_enter) => `(tactic| (refine' code_def ?k1 ?k2 ?k3 ?k4 ?k5 ?kA ?kF ?kK ?k6 ?k7 ?k8 ?k9 ?kB ?kZ ?c2 ?c3 ?c4 ?c5; (case kA => exact rfl); (case kF => (first | exact rfl | assumption)); (case kK => (first | exact rfl | assumption)); (case k1 => k_asm); (case k2 => k_asm); (case k3 => k_asm); (case k4 => k_asm); (case k5 => k_asm); (case k6 => k_is); (case k7 => k_is); (case k8 => k_room); (case k9 => (first | exact BindsTo.of_eq rfl | exact binds_K (by k_in) rfl (by k_is) rfl rfl rfl)); (case c5 => decide); (case kB => exact locs rfl); (case c2 => exact rfl); (case c3 => exact rfl); (case c4 => exact rfl); k_whole; intro g' L' h' FG' F' N' B' X' T'; (try dsimp only); (try k_fold)))

local macro_rules | `(tactic| walk_at "call ref") => `(tactic| ((with_reducible first | (show wpAny _ _ (call (Value.ref 57) _ _) _ _ _) | (show wpAny _ _ (call (Value.ref 64) _ _) _ _ _) | (show wpAny _ _ (call (Value.ref 71) _ _) _ _ _) | (show wpAny _ _ (call (Value.ref 78) _ _) _ _ _) | (show wpAny _ _ (call (Value.ref 100) _ _) _ _ _) | (show wpAny _ _ (call (Value.ref 107) _ _) _ _ _) | (show wpAny _ _ (call (Value.ref 110) _ _) _ _ _)); refine stop_intro ?_))
local macro_rules | `(tactic| walk_at "exec For") => `(tactic| refine stop_intro ?_)
local macro_rules | `(tactic| walk_at "exec For Name") => `(tactic| refine stop_intro ?_)
local macro_rules | `(tactic| walk_at "exec For Name Name") => `(tactic| refine stop_intro ?_)
local macro_rules | `(tactic| walk_at "exec For Name Name cons") => `(tactic| refine stop_intro ?_)
local macro_rules | `(tactic| walk_at "exec For Name Name cons nil") => `(tactic| refine stop_intro ?_)
local macro_rules | `(tactic| walk_at "exec For Name Subscript cons nil") => `(tactic| refine stop_intro ?_)
def pkV (pk : Str → Bool) : Value → Bool
  | .str k _ => pk k
  | _ => false
theorem paired_eq {vs ys : List Value} (h : Paired (fun v y => y = v) vs ys) : ys = vs := by
  induction h with
  | nil => rfl
  | cons h _ ih => rw [h, ih]
theorem Names.filt {vs : List Value} {ks : List Str} {pk : Str → Bool} (h : Names vs ks) : Names (vs.filter (pkV pk)) (ks.filter pk) := by
  induction h with
  | nil => exact .nil
  | @cons k vs ks t _ ih =>
    rw [List.filter_cons, List.filter_cons]
    show Names (if pk k = true then _ else _) (if pk k = true then _ else _)
    split
    · exact .cons t ih
    · exact ih
section
variable {prog : Program} {w : World} {outer : List Env} {gs : Option (List Code)} {u dp : Nat} {h₀ : Heap} {L : Addr} {m mg mb : Str → Option Value} {p : Program} {loose : List Str} {mean : ExcName → Option Value} {s : Shared} {E : Value → Shared → Prop} {news : List (Addr × Obj)}
theorem compAt_src {env : Env} {scope : Scope} {cl : List (Str × Addr)} {x : Str} {ifs : List Expr} {elt : Expr} {Fin : Nat → (Nat → Value → Prop) → (Value → Bool) → (Value → Value → Prop) → List Addr → (Array GenState → Array GenState → Prop) → Shared → Prop} {l : Addr} {ksrc : List Str} (pk : Str → Bool)
    (hsrc : Src prog w l ksrc news) (KX : (Mine.hd.heap_39 w.params).In h₀) (T : Top p loose mean mg mb h₀) (F : Fr h₀ L s.heap m) (N : News h₀ L s.heap news) (hdp : dp < 500) (hlen : ksrc.length ≤ 1000)
    (tests : ∀ C k t (s₃ : Shared) m₃ E', k ∈ ksrc → C ≠ L → h₀.get? C = none → s₃.heap.Ns C m₃ → m₃ x = some (.str k t) → Fr h₀ L s₃.heap m → News h₀ L s₃.heap news →
      wpAny (model prog w) ⟨none, dp, some outer, gs, u⟩ (forIn ifs true fun c r => if r = true then do let ok ← isTrue c (compEnvC scope cl C env) (eval c (compEnvC scope cl C env)); pure (ForInStep.yield ok) else pure (ForInStep.yield r))
        (fun ok s₄ => ok = pk k ∧ Keeps s₃ s₄) E' s₃)
    (elts : ∀ C k t (s₃ : Shared) m₃ E', k ∈ ksrc → C ≠ L → h₀.get? C = none → s₃.heap.Ns C m₃ → m₃ x = some (.str k t) → Fr h₀ L s₃.heap m → News h₀ L s₃.heap news →
      wpAny (model prog w) ⟨none, dp, some outer, gs, u⟩ (eval elt (compEnvC scope cl C env)) (fun y s₄ => y = .str k t ∧ Keeps s₃ s₄) E' s₃)
    (fin : ∀ n P q Fv wr Gr s₂, (∀ D ys s', CompGot n P q Fv wr Gr s₂ D ys s' → Names ys (ksrc.filter pk) ∧ AllBelow D news ∧ Fr h₀ L s'.heap m ∧ News h₀ L s'.heap ((D, lstO ys) :: news) ∧ (AllBare s.gens → AllBare s'.gens) ∧ s'.os = s.os) →
      (∀ C, s₂.heap.objs.size ≤ C → C ≠ L ∧ (∀ q ∈ news, q.1 ≠ C) ∧ h₀.get? C = none) → Fin n P q Fv wr Gr s₂) :
    wpAny (model prog w) ⟨none, dp, some outer, gs, u⟩ (pyIter (.ref l)) (CompAt prog w ⟨none, dp, some outer, gs, u⟩ env scope cl x ifs elt Fin) E s := by
  refine hsrc KX T F N hdp fun I fp wr Gr St s₂ got => ?_
  have W := got.W ⟨none, dp, some outer, gs, u⟩ rfl (by show dp < 600; omega)
  have F₂ := F.keeps got.keep
  have N₂ : News h₀ L s₂.heap news := News.grown N got.keep
  have wlt : ∀ b ∈ wr, ∀ o, s.heap.get? b = some o → False := fun b hb o e => absurd (Heap.lt_size e) (Nat.not_lt.mpr (got.wrn b hb))
  have hLw : L ∉ wr := fun h => absurd F.ns.lt (Nat.not_lt.mpr (got.wrn _ h))
  have frOf : ∀ h, (∀ b o, b ∉ wr → s₂.heap.get? b = some o → h.get? b = some o) → Fr h₀ L h m := fun h hk =>
    ⟨F₂.ns.at' fun o e => hk _ o hLw e, fun b o e => hk b o (fun hb => wlt b hb o (F.keep b o e)) (F₂.keep b o e), F.above⟩
  have nwOf : ∀ h, (∀ b o, b ∉ wr → s₂.heap.get? b = some o → h.get? b = some o) → News h₀ L h news := fun h hk q hq =>
    ⟨hk _ _ (fun hb => wlt q.1 hb _ (N q hq).1) (N₂ q hq).1, (N q hq).2⟩
  have cOf : ∀ C, s₂.heap.objs.size ≤ C → C ≠ L ∧ h₀.get? C = none := fun C hC => ⟨fun e => absurd F₂.ns.lt (Nat.not_lt.mpr (by rw [← e]; exact hC)), by
    cases q : h₀.get? C with
    | none => rfl
    | some o => exact absurd (Heap.lt_size (F₂.keep _ _ q)) (Nat.not_lt.mpr hC)⟩
  refine ⟨I, fp, wr, Gr, ksrc.length, _, St _, pkV pk, fun v y => y = v, rfl, W, by rw [sizeLine_eq]; omega, got.st _ rfl, fun b hb => ?_, ?_, ?_, ?_⟩
  · obtain ⟨o, e⟩ := got.ob _ _ _ (got.st ⟨none, dp, some outer, gs, u⟩ rfl) b hb
    exact Heap.lt_size e
  · rintro C i v s₃ m₃ E' hC ⟨k, t, hk, rfl⟩ hn hx keep
    exact tests C k t s₃ m₃ E' (List.mem_of_getElem? hk) (cOf C hC).1 (cOf C hC).2 hn hx (frOf _ keep) (nwOf _ keep)
  · rintro C i v s₃ m₃ E' hC ⟨k, t, hk, rfl⟩ hpv hn hx keep
    exact elts C k t s₃ m₃ E' (List.mem_of_getElem? hk) (cOf C hC).1 (cOf C hC).2 hn hx (frOf _ keep) (nwOf _ keep)
  · refine fin _ _ _ _ _ _ _ (fun D ys s' hg => ?_) fun C hC => ⟨?_, fun q hq e => ?_, ?_⟩
    · obtain ⟨vs', hl, hP, hF, hD, hlD, hk, hG, ho⟩ := hg
      have hnm : Names vs' ksrc := Names.of hl hP
      rw [paired_eq hF]
      have hDn : h₀.get? D = none := by
        cases q : h₀.get? D with
        | none => rfl
        | some o => exact absurd (Heap.lt_size (F₂.keep _ _ q)) (Nat.not_lt.mpr hD)
      refine ⟨hnm.filt, fun q hq => Nat.lt_of_lt_of_le (Heap.lt_size (N₂ q hq).1) hD, frOf _ hk, fun q hq => ?_, fun hb => got.bare _ _ hG (got.gens hb), ho.trans got.os⟩
      rcases List.mem_cons.mp hq with rfl | hq
      · rw [← paired_eq hF]
        exact ⟨hlD, fun e => absurd F₂.ns.lt (Nat.not_lt.mpr (by rw [← e]; exact hD)), hDn⟩
      · exact nwOf _ hk q hq
    · rintro rfl
      exact absurd F₂.ns.lt (Nat.not_lt.mpr hC)
    · exact absurd (Heap.lt_size (N₂ q hq).1) (Nat.not_lt.mpr (by rw [e]; exact hC))
    · cases q : h₀.get? C with
      | none => rfl
      | some o => exact absurd (Heap.lt_size (F₂.keep _ _ q)) (Nat.not_lt.mpr hC)

theorem forIn_one {M : Model} {A : Around} {c : Expr} {env : Env} {Q : Bool → Shared → Prop} (h : wpAny M A (isTrue c env (eval c env)) Q E s) :
    wpAny M A (forIn [c] true fun c r => if r = true then do let ok ← isTrue c env (eval c env); pure (ForInStep.yield ok) else pure (ForInStep.yield r)) Q E s := by
  rw [List.forIn_cons]
  refine wpAny_bind ?_
  rw [if_pos rfl]
  refine wpAny_bind (wpAny_mono h (fun ok s' hq => ?_) fun _ _ e => e)
  exact wpAny_pure (wpAny_pure hq)
theorem forIn_none {M : Model} {A : Around} {f : Expr → Bool → Sem (ForInStep Bool)} {Q : Bool → Shared → Prop} (h : Q true s) : wpAny M A (forIn ([] : List Expr) true f) Q E s := wpAny_pure h
theorem elt_self {M : Model} {A : Around} {scope : Scope} {cl : List (Str × Addr)} {C : Addr} {env : Env} {x : Str} {pos : Pos} {k : Str} {t : Tok} {m₃ : Str → Option Value} (hn : s.heap.Ns C m₃) (hx : m₃ x = some (.str k t))
    (hk : (compEnvC scope cl C env).scope.kind = .function) (hl : (compEnvC scope cl C env).kindOf x = some .local) (hd : (x == ("__debug__" : Str)) = false) :
    wpAny M A (eval (.Name x pos) (compEnvC scope cl C env)) (fun y s₄ => y = .str k t ∧ Keeps s s₄) E s :=
  ldVarK hn hx ⟨rfl, _, _, rfl, fun _ _ e => e⟩ hk hl hd
/-- the list is stored into a cell -/
theorem cell_store {env : Env} {A : Around} {y : Str} {c C D : Addr} {oc : Obj} {v0 : Option Value} {ys : List Value} {Q : Flow → Shared → Prop} {s' : Shared}
    (hk : env.scope.kind = .function) (hl : env.kindOf y = some .cell) (hc : env.cells.lookup y = some c)
    (F : Fr h₀ L s'.heap m) (N : News h₀ L s'.heap ((D, lstO ys) :: news)) (hm : (c, oc) ∈ news) (hd : oc.data = .cell v0) (hCL : C ≠ L) (hCn : ∀ q ∈ news, q.1 ≠ C) (hC0 : h₀.get? C = none) (hDC : D ≠ C) (hlt : AllBelow D news)
    (hQ : ∀ h o', o'.data = .cell (some (.ref D)) → Fr h₀ L h m → News h₀ L h ((D, lstO ys) :: (c, o') :: news.filter fun q => decide (q.1 ≠ c)) → Q .next { s' with heap := h }) :
    wpAny (model prog w) A (storeName env y (.ref D)) (fun _ s'' => (∀ o, s'.heap.get? C = some o → s''.heap.get? C = some o) ∧ ∀ h', Heap.SameBut C s''.heap h' → Q .next { s'' with heap := h' }) E s' := by
  have hN := N _ (.tail _ hm)
  refine wpAny_storeName_cell hk hl hc ⟨oc, hN.1, hd⟩ fun h' hv hs => ⟨fun o ho => (hs.2 C (Ne.symm (hCn _ hm))).trans ho, fun h'' hs'' => ?_⟩
  obtain ⟨o', ho', hd'⟩ := hv
  have hcC : c ≠ C := hCn _ hm
  refine hQ h'' o' hd' ((F.change hs hN.2.1 hN.2.2).change hs'' hCL hC0) fun q hq => ?_
  have key : ∀ q ∈ (D, lstO ys) :: news, q.1 ≠ c → h''.get? q.1 = some q.2 := fun q hq hne => by
    refine (hs''.2 q.1 ?_).trans ((hs.2 q.1 hne).trans (N q hq).1)
    rcases List.mem_cons.mp hq with rfl | hq
    · exact hDC
    · exact hCn q hq
  rcases List.mem_cons.mp hq with rfl | hq
  · exact ⟨key _ (.head _) (Nat.ne_of_gt (hlt _ hm)), (N _ (.head _)).2⟩
  rcases List.mem_cons.mp hq with rfl | hq
  · exact ⟨(hs''.2 c hcC).trans ho', hN.2⟩
  · obtain ⟨h1, h2⟩ := List.mem_filter.mp hq
    exact ⟨key q (.tail _ h1) (of_decide_eq_true h2), (N q (.tail _ h1)).2⟩
end

end SOsSrcC
section SOsIdx
local macro_rules | `(tactic| k_room) => `(tactic| (show (_ : Nat) < _; (try simp only [depth_under_make, depth_under_kw, depth_in1, depth_deeper, depth_caller]); (try simp only [show recursionLimit = 1000 from rfl]); omega))
local macro_rules | `(tactic| k_ne) => `(tactic| (refine neN ?_; first | assumption | (refine Ne.symm ?_; assumption) | ((try dsimp only); omega)))
local macro_rules | `(tactic| k_all) => `(tactic| first | exact own_ne (by assumption) (by intro p hp; k_ownIn) | exact own_ne' (by assumption) (by assumption) (by intro p hp; k_ownIn))
local macro_rules | `(tactic| k_all) => `(tactic| exact OwnOff.ne (by assumption) (by k_memK))
local macro_rules | `(tactic| k_all) => `(tactic| (refine' List.forall_mem_cons.mpr ⟨?a, ?b⟩; (case a => k_ne); (case b => k_all)))
local macro_rules | `(tactic| k_lt $h:ident) => `(tactic| (have l0 : AllBelow _ _ := $h; replace $h := allLt_of $h; (try simp only [AllLt, and_true] at $h:ident)))

local macro_rules | `(tactic| k_allIn) => `(tactic| (intro p hp; k_ownIn))
local macro_rules | `(tactic| k_allIn) => `(tactic| (refine List.forall_mem_cons.mpr ⟨by k_memK, ?_⟩; k_allIn))


local macro_rules | `(tactic| k_enter) => `(tactic| (refine' code_def ?k1 ?k2 ?k3 ?k4 ?k5 ?kA ?kF ?kK ?k6 ?k7 ?k8 ?k9 ?kB ?kZ ?c2 ?c3 ?c4 ?c5; (case kA => exact rfl); (case kF => (first | exact rfl | assumption)); (case kK => (first | exact rfl | assumption)); (case k1 => k_asm); (case k2 => k_asm); (case k3 => k_asm); (case k4 => k_asm); (case k5 => k_asm); (case k6 => k_is); (case k7 => k_is); (case k8 => k_room); (case k9 => (first | exact BindsTo.of_eq rfl | exact binds_K (by k_in) rfl (by k_is) rfl rfl rfl)); (case c5 => decide); (case kB => exact locs rfl); (case c2 => exact rfl); (case c3 => exact rfl); (case c4 => exact rfl); k_whole; intro g' L' h' FG' F' N' B' X' T'; (try dsimp only); (try k_fold)))

local macro_rules | `(tactic| walk_at "call ref") => `(tactic| ((with_reducible first | (show wpAny _ _ (call (Value.ref 57) _ _) _ _ _) | (show wpAny _ _ (call (Value.ref 64) _ _) _ _ _) | (show wpAny _ _ (call (Value.ref 71) _ _) _ _ _) | (show wpAny _ _ (call (Value.ref 78) _ _) _ _ _) | (show wpAny _ _ (call (Value.ref 100) _ _) _ _ _) | (show wpAny _ _ (call (Value.ref 107) _ _) _ _ _) | (show wpAny _ _ (call (Value.ref 110) _ _) _ _ _)); refine stop_intro ?_))
local macro_rules | `(tactic| walk_at "exec For") => `(tactic| refine stop_intro ?_)
local macro_rules | `(tactic| walk_at "exec For Name") => `(tactic| refine stop_intro ?_)
local macro_rules | `(tactic| walk_at "exec For Name Name") => `(tactic| refine stop_intro ?_)
local macro_rules | `(tactic| walk_at "exec For Name Name cons") => `(tactic| refine stop_intro ?_)
local macro_rules | `(tactic| walk_at "exec For Name Name cons nil") => `(tactic| refine stop_intro ?_)
local macro_rules | `(tactic| walk_at "exec For Name Subscript cons nil") => `(tactic| refine stop_intro ?_)
theorem Names.at {vs : List Value} {ks : List Str} (h : Names vs ks) : ∀ (i : Nat) (k : Str), ks[i]? = some k → ∃ t, vs[i]? = some (.str k t) := by
  induction h with
  | nil => intro i k e; simp at e
  | cons t _ ih =>
    intro i k e
    cases i with
    | zero => simp only [List.getElem?_cons_zero, Option.some.injEq] at e ⊢; exact ⟨t, by rw [e]⟩
    | succ i => simp only [List.getElem?_cons_succ] at e ⊢; exact ih i k e
theorem Names.drop {vs : List Value} {ks : List Str} (h : Names vs ks) (n : Nat) : Names (vs.drop n) (ks.drop n) := by
  induction h generalizing n with
  | nil => simp; exact .nil
  | cons t h ih => cases n with
    | zero => exact .cons t h
    | succ n => exact ih n
theorem Names.take {vs : List Value} {ks : List Str} (h : Names vs ks) (n : Nat) : Names (vs.take n) (ks.take n) := by
  induction h generalizing n with
  | nil => simp; exact .nil
  | cons t h ih => cases n with
    | zero => exact .nil
    | succ n => exact .cons t (ih n)
section
variable {prog : Program} {w : World} {A : Around} {E : Value → Shared → Prop} {s : Shared} {h₀ : Heap} {L l : Addr} {m : Str → Option Value} {news : List (Addr × Obj)} {value slice : PySem.Expr} {vs : List Value} {ks : List Str} {n : Nat} {u : Tok} {Q : Value → Shared → Prop}
theorem item_last {x : Str} (N : News h₀ L s.heap news) (hm : (l, listOf vs.toArray n) ∈ news) (hv : Names vs (ks ++ [x])) (h : ∀ t, Q (.str x t) s)
    (hs : subscripted slice false (.ref l) (.int (-1) u) = operate [.ref l, .int (-1) u] (getItem (.ref l) (.int (-1) u)) := by with_unfolding_all rfl) :
    wpAny (model prog w) A (subscriptTail value slice (.ref l) (.int (-1) u)) Q E s := by
  obtain ⟨t, ht⟩ := hv.at ks.length x (by simp)
  have hlen := hv.length
  rw [List.length_append, List.length_singleton] at hlen
  refine kde_neg (j := ks.length) (v := .str x t) ⟨_, (N _ hm).1, rfl, _, rfl⟩ (by decide) (by decide) ?_ ht (h t) hs
  rw [hlen]
  simp [seqIndex?]
  omega
theorem item_at {x : Str} {i : Int} (N : News h₀ L s.heap news) (hm : (l, listOf vs.toArray n) ∈ news) (hv : Names vs ks) (h0 : 0 ≤ i) (hfit : i < 2 ^ 63) (hx : ks[i.toNat]? = some x) (h : ∀ t, Q (.str x t) s)
    (hs : subscripted slice false (.ref l) (.int i u) = operate [.ref l, .int i u] (getItem (.ref l) (.int i u)) := by with_unfolding_all rfl) :
    wpAny (model prog w) A (subscriptTail value slice (.ref l) (.int i u)) Q E s := by
  obtain ⟨t, ht⟩ := hv.at i.toNat x hx
  exact item_litK ⟨_, (N _ hm).1, rfl, _, rfl⟩ h0 hfit ht (h t) hs
theorem slice_names {vl vu : Value} {lo hi : Option Int} (F : Fr h₀ L s.heap m) (N : News h₀ L s.heap news) (hm : (l, listOf vs.toArray n) ∈ news) (hv : Names vs ks) (pl : IsPart vl lo) (pu : IsPart vu hi) (hlen : ks.length ≤ 1000)
    (h : ∀ D h' zs, Names zs ((ks.drop (kms_lo lo ks.length)).take (kms_hi hi ks.length - kms_lo lo ks.length)) → Fr h₀ L h' m → News h₀ L h' ((D, listOf zs.toArray 0) :: news) → AllBelow D news → Q (.ref D) { s with heap := h' })
    (hs : subscripted slice false (.ref l) (.ref s.heap.objs.size) = operate [.ref s.heap.objs.size, .ref l] (getItem (.ref l) (.ref s.heap.objs.size))) (ht : ∀ r, letTemporaryGo value (.ref l) r = pure ()) :
    wpAny (model prog w) A (subscriptTail value slice (.ref l) (.ref s.heap.objs.size)) Q E { s with heap := s.heap.push { cls := .type "slice", data := .fields #[vl, vu, .none] } } := by
  refine kms_slice_lit F N (its := vs.toArray) ⟨_, (N _ hm).1, rfl, _, rfl⟩ pl pu rfl (fun D h' F' N' l1 => h D h' _ ?_ F' N' l1) hs ht (by rw [List.size_toArray, hv.length, sizeLine_eq]; omega)
  unfold kms_pick
  rw [← hv.length]
  exact (hv.drop _).take _

theorem add_names {a b : Addr} {ws : List Value} {ks' : List Str} {na nb : Nat} (F : Fr h₀ L s.heap m) (N : News h₀ L s.heap news) (ha : (a, listOf vs.toArray na) ∈ news) (hb : (b, listOf ws.toArray nb) ∈ news) (hv : Names vs ks) (hw : Names ws ks') (hlen : ks.length + ks'.length ≤ 1000)
    (h : ∀ D h' zs, Names zs (ks ++ ks') → Fr h₀ L h' m → News h₀ L h' ((D, listOf zs.toArray 0) :: news) → AllBelow D news → Q (.ref D) { s with heap := h' }) :
    wpAny (model prog w) A (binaryOp .Add (.ref a) (.ref b)) Q E s :=
  kmk_add_lit F N (its := vs.toArray) (its2 := ws.toArray) ⟨_, (N _ ha).1, rfl, _, rfl⟩ ⟨_, (N _ hb).1, rfl, _, rfl⟩ rfl (fun D h' F' N' l1 => h D h' _ (hv.append hw) F' N' l1) (by show vs.length + ws.length ≤ _; rw [hv.length, hw.length, sizeLine_eq]; omega)
end

end SOsIdx
section SOsCatch
local macro_rules | `(tactic| k_room) => `(tactic| (show (_ : Nat) < _; (try simp only [depth_under_make, depth_under_kw, depth_in1, depth_deeper, depth_caller]); (try simp only [show recursionLimit = 1000 from rfl]); omega))
local macro_rules | `(tactic| k_ne) => `(tactic| (refine neN ?_; first | assumption | (refine Ne.symm ?_; assumption) | ((try dsimp only); omega)))
local macro_rules | `(tactic| k_all) => `(tactic| first | exact own_ne (by assumption) (by intro p hp; k_ownIn) | exact own_ne' (by assumption) (by assumption) (by intro p hp; k_ownIn))
local macro_rules | `(tactic| k_all) => `(tactic| exact OwnOff.ne (by assumption) (by k_memK))
local macro_rules | `(tactic| k_all) => `(tactic| (refine' List.forall_mem_cons.mpr ⟨?a, ?b⟩; (case a => k_ne); (case b => k_all)))
local macro_rules | `(tactic| k_lt $h:ident) => `(tactic| (have l0 : AllBelow _ _ := $h; replace $h := allLt_of $h; (try simp only [AllLt, and_true] at $h:ident)))

local macro_rules | `(tactic| k_allIn) => `(tactic| (intro p hp; k_ownIn))
local macro_rules | `(tactic| k_allIn) => `(tactic| (refine List.forall_mem_cons.mpr ⟨by k_memK, ?_⟩; k_allIn))


local macro_rules | `(tactic| k_enter) => `(tactic| (refine' code_def ?k1 ?k2 ?k3 ?k4 ?k5 ?kA ?kF ?kK ?k6 ?k7 ?k8 ?k9 ?kB ?kZ ?c2 ?c3 ?c4 ?c5; (case kA => exact rfl); (case kF => (first | exact rfl | assumption)); (case kK => (first | exact rfl | assumption)); (case k1 => k_asm); (case k2 => k_asm); (case k3 => k_asm); (case k4 => k_asm); (case k5 => k_asm); (case k6 => k_is); (case k7 => k_is); (case k8 => k_room); (case k9 => (first | exact BindsTo.of_eq rfl | exact binds_K (by k_in) rfl (by k_is) rfl rfl rfl)); (case c5 => decide); (case kB => exact locs rfl); (case c2 => exact rfl); (case c3 => exact rfl); (case c4 => exact rfl); k_whole; intro g' L' h' FG' F' N' B' X' T'; (try dsimp only); (try k_fold)))

local macro_rules | `(tactic| walk_at "call ref") => `(tactic| ((with_reducible first | (show wpAny _ _ (call (Value.ref 57) _ _) _ _ _) | (show wpAny _ _ (call (Value.ref 64) _ _) _ _ _) | (show wpAny _ _ (call (Value.ref 71) _ _) _ _ _) | (show wpAny _ _ (call (Value.ref 78) _ _) _ _ _) | (show wpAny _ _ (call (Value.ref 100) _ _) _ _ _) | (show wpAny _ _ (call (Value.ref 107) _ _) _ _ _) | (show wpAny _ _ (call (Value.ref 110) _ _) _ _ _)); refine stop_intro ?_))
local macro_rules | `(tactic| walk_at "exec For") => `(tactic| refine stop_intro ?_)
local macro_rules | `(tactic| walk_at "exec For Name") => `(tactic| refine stop_intro ?_)
local macro_rules | `(tactic| walk_at "exec For Name Name") => `(tactic| refine stop_intro ?_)
local macro_rules | `(tactic| walk_at "exec For Name Name cons") => `(tactic| refine stop_intro ?_)
local macro_rules | `(tactic| walk_at "exec For Name Name cons nil") => `(tactic| refine stop_intro ?_)
local macro_rules | `(tactic| walk_at "exec For Name Subscript cons nil") => `(tactic| refine stop_intro ?_)
section
variable {prog : Program} {w : World} {A : Around} {s' : Shared} {h₀ g : Heap} {outer : List Env} {env : Env} {L e : Addr} {m mg mb : Str → Option Value} {p : Program} {loose : List Str} {mean : ExcName → Option Value} {news : List (Addr × Obj)} {b₀ : Stmt} {suite : List Stmt} {pos np : Pos} {rest : List ExceptHandler} {Q : Flow → Shared → Prop}
theorem caught_key (hfr : A.frames = some (env :: outer)) (hf : env.frame = some L) (KX : (Mine.hd.heap_39 w.params).In h₀) (T : Top p loose mean mg mb h₀) (F : Fr h₀ L g m) (hsm : g.UpToSlots s'.heap) (R : RaisedN h₀ (env :: outer) e (.type "KeyError") news s'.heap)
    (hgl : env.globals = mainGlobals) (hbl : env.builtins = builtinsNs) (hk : env.scope.kind = .function) (hx : env.kindOf "KeyError" = some .globalImplicit) (hn : nsIn (Mine.hd.heap_39 w.params) mainGlobals "KeyError" = some none)
    (k : ∀ h', Fr h₀ L h' m → News h₀ L h' news → wpAny (model prog w) (A.mark (some (.ref e))) (execs (b₀ :: suite) env) Q (fun _ _ => False) { s' with heap := h' }) :
    wpAny (model prog w) A (noteFrame (.ref e) env) (fun _ s₂ => wpAny (model prog w) A (setFlight (.ref e) none) (fun _ s₃ =>
      wpAny (model prog w) A (handleBy (.ref e) env (.ExceptHandler (some (.Name "KeyError" np)) none (b₀ :: suite) pos :: rest)) Q (fun _ _ => False) s₃) (fun _ _ => False) s₂) (fun _ _ => False) s' := by
  obtain ⟨B, a0, hB, hl, hfl⟩ := R
  have hL : B.get? L = none := by
    obtain ⟨_, ⟨L', _, hf', hn', _⟩, _⟩ := hfl.2.2.1
    rw [hf] at hf'
    cases hf'
    exact hn'
  refine wpAny_looks_onW hfr hf hfl fun h₄ hheld₄ hsm₄ => ?_
  refine wpAny_landsW hheld₄ fun h₅ hheld hsm₅' => ?_
  have hsm₅ := hsm₄.trans hsm₅'
  have hheld' := flyingW_base hB hheld
  have F₅ := F.of_stays hheld'.1 (hsm.trans hsm₅)
  obtain ⟨ob, hob, hobc⟩ := hheld'.there
  refine wpAny_handleBy_builtin (X := "KeyError") (T := "KeyError") (b := true) (by rw [isSubtype_type]; kernel_rfl) (by kernel_rfl) (by rw [isSubtype_type]; kernel_rfl)
    (Calls.Name_function_global hk hx (Calls.loadGlobal_builtin (env := env) (show h₅.Ns env.globals mg from hgl ▸ (T.keeps F₅.keep).g) (mg_none_of KX T.g hn) (show h₅.Ns env.builtins mb from hbl ▸ (T.keeps F₅.keep).b) ((T.builtins "KeyError" (by decide +kernel)).trans (by boot_by_name)) ⟨rfl, ⟨ob, hob, hobc⟩, ?_⟩) (by decide))
  refine lands_againW hheld fun h₆ hfl₆ hsm₆ => ?_
  have F₆ := F.of_stays (flyingW_base hB hfl₆).1 ((hsm.trans hsm₅).trans hsm₆)
  exact wpAny_passesOwnAt PassesOwnAt.never (k h₆ F₆ fun q hq => ⟨hfl₆.1 _ _ (hl q hq).1, (fun z => by have := (hl q hq).1; rw [z, hL] at this; cases this), (hl q hq).2⟩)
end

end SOsCatch
section SOsSetEq
local macro_rules | `(tactic| k_room) => `(tactic| (show (_ : Nat) < _; (try simp only [depth_under_make, depth_under_kw, depth_in1, depth_deeper, depth_caller]); (try simp only [show recursionLimit = 1000 from rfl]); omega))
local macro_rules | `(tactic| k_ne) => `(tactic| (refine neN ?_; first | assumption | (refine Ne.symm ?_; assumption) | ((try dsimp only); omega)))
local macro_rules | `(tactic| k_all) => `(tactic| first | exact own_ne (by assumption) (by intro p hp; k_ownIn) | exact own_ne' (by assumption) (by assumption) (by intro p hp; k_ownIn))
local macro_rules | `(tactic| k_all) => `(tactic| exact OwnOff.ne (by assumption) (by k_memK))
local macro_rules | `(tactic| k_all) => `(tactic| (refine' List.forall_mem_cons.mpr ⟨?a, ?b⟩; (case a => k_ne); (case b => k_all)))
local macro_rules | `(tactic| k_lt $h:ident) => `(tactic| (have l0 : AllBelow _ _ := $h; replace $h := allLt_of $h; (try simp only [AllLt, and_true] at $h:ident)))

local macro_rules | `(tactic| k_allIn) => `(tactic| (intro p hp; k_ownIn))
local macro_rules | `(tactic| k_allIn) => `(tactic| (refine List.forall_mem_cons.mpr ⟨by k_memK, ?_⟩; k_allIn))


local macro_rules | `(tactic| k_enter) => `(tactic| (refine' code_def ?k1 ?k2 ?k3 ?k4 ?k5 ?kA ?kF ?kK ?k6 ?k7 ?k8 ?k9 ?kB ?kZ ?c2 ?c3 ?c4 ?c5; (case kA => exact rfl); (case kF => (first | exact rfl | assumption)); (case kK => (first | exact rfl | assumption)); (case k1 => k_asm); (case k2 => k_asm); (case k3 => k_asm); (case k4 => k_asm); (case k5 => k_asm); (case k6 => k_is); (case k7 => k_is); (case k8 => k_room); (case k9 => (first | exact BindsTo.of_eq rfl | exact binds_K (by k_in) rfl (by k_is) rfl rfl rfl)); (case c5 => decide); (case kB => exact locs rfl); (case c2 => exact rfl); (case c3 => exact rfl); (case c4 => exact rfl); k_whole; intro g' L' h' FG' F' N' B' X' T'; (try dsimp only); (try k_fold)))

local macro_rules | `(tactic| walk_at "call ref") => `(tactic| ((with_reducible first | (show wpAny _ _ (call (Value.ref 57) _ _) _ _ _) | (show wpAny _ _ (call (Value.ref 64) _ _) _ _ _) | (show wpAny _ _ (call (Value.ref 71) _ _) _ _ _) | (show wpAny _ _ (call (Value.ref 78) _ _) _ _ _) | (show wpAny _ _ (call (Value.ref 100) _ _) _ _ _) | (show wpAny _ _ (call (Value.ref 107) _ _) _ _ _) | (show wpAny _ _ (call (Value.ref 110) _ _) _ _ _)); refine stop_intro ?_))
local macro_rules | `(tactic| walk_at "exec For") => `(tactic| refine stop_intro ?_)
local macro_rules | `(tactic| walk_at "exec For Name") => `(tactic| refine stop_intro ?_)
local macro_rules | `(tactic| walk_at "exec For Name Name") => `(tactic| refine stop_intro ?_)
local macro_rules | `(tactic| walk_at "exec For Name Name cons") => `(tactic| refine stop_intro ?_)
local macro_rules | `(tactic| walk_at "exec For Name Name cons nil") => `(tactic| refine stop_intro ?_)
local macro_rules | `(tactic| walk_at "exec For Name Subscript cons nil") => `(tactic| refine stop_intro ?_)
section
variable {prog : Program} {w : World} {A₀ : Around} {base h₀ : Heap} {outer : List Env} {env : Env} {L : Addr} {m mg mb : Str → Option Value} {p : Program} {loose : List Str} {mean : ExcName → Option Value} {s : Shared} {E : Value → Shared → Prop} {Q : Value → Shared → Prop}
    {u : Nat} {gs : Option (List Code)} {dp : Nat} {news G G' : List (Addr × Obj)} {o o' : Addr} {ks ks' : List Str}
variable (B : Below A₀ base outer h₀) (F : Fr h₀ L s.heap m) (KX : (Mine.hd.heap_39 w.params).In h₀) (T : Top p loose mean mg mb h₀) (hf : env.frame = some L) (hke : env.scope.kind = .function) (hdp : dp < 390)
include B F KX T hf hke hdp
theorem set_eq (N : News h₀ L s.heap news) (hG : SetAt prog w G o ks) (hs : ∀ p ∈ G, p ∈ news) (hG' : SetAt prog w G' o' ks') (hs' : ∀ p ∈ G', p ∈ news) (hlen : ks.length ≤ 100) (hlen' : ks'.length ≤ 100) (ok : NamesOk ks) (ok' : NamesOk ks') (hu : u + 80 < cLine) (hgb : AllBare s.gens)
    (hQ : ∀ s', Fr h₀ L s'.heap m → News h₀ L s'.heap news → AllBare s'.gens → s'.os = s.os → Q (.bool (decide (ks = ks'))) s') :
    wpAny (model prog w) ⟨none, dp, some (env :: outer), gs, u⟩ (compareOp .Eq (.ref o) (.ref o')) Q E s := by
  obtain ⟨od, md, r, om, t1, t2, ls, N₁, _, _, _⟩ := SetAt.look F N hG hs
  obtain ⟨od', md', r', om', t1', t2', ls', N₂, _, _, _⟩ := SetAt.look F N hG' hs'
  have hI : InstAt s.heap o (instObj OSa od) OSa (some (setD w t1 t2 r md)) := InstAt.of_news N₁ (.head _) (.tail _ (.head _))
  have hI' : InstAt s.heap o' (instObj OSa od') OSa (some (setD w t1' t2' r' md')) := InstAt.of_news N₂ (.head _) (.tail _ (.head _))
  refine cmp_ofEq (cmp_K (tb := .ref OSa) (f := 107) (by show u < _; omega) F KX hI hI'.type (by k_is) (by k_is) (by k_is) ?_)
  exact eq_ct B F KX T hf hke hdp N hG hs hG' hs' hlen hlen' ok ok' hu hgb fun s' F' N' hb ho => hQ s' F' N' hb ho
end

theorem slice_in {rs : List Str} {a b : Nat} : ∀ k ∈ (rs.drop a).take b, k ∈ rs := fun k hk => List.mem_of_mem_drop (List.mem_of_mem_take hk)
theorem slice_len {rs : List Str} {a b : Nat} : ((rs.drop a).take b).length ≤ rs.length := by
  rw [List.length_take, List.length_drop]; omega
theorem foldl_addK_sup {k : Str} : ∀ {ks acc : List Str}, (k ∈ ks ∨ k ∈ acc) → k ∈ ks.foldl addK acc
  | [], _, h => h.elim (fun h => nomatch h) id
  | x :: r, acc, h => by
    refine foldl_addK_sup (ks := r) (acc := addK acc x) ?_
    rcases h with h | h
    · rcases List.mem_cons.mp h with rfl | h
      · refine .inr ?_
        unfold addK
        split
        · assumption
        · exact List.mem_append_right _ (.head _)
      · exact .inl h
    · refine .inr ?_
      unfold addK
      split
      · exact h
      · exact List.mem_append_left _ h
theorem dash_not : ("-" : Str) ∉ tab := by decide +kernel
def dash : List Str := ["-"]
theorem dash_ok : ∀ k ∈ tab ++ dash, PyData.strOk k = true := by decide +kernel

theorem foldl_have : ∀ {ks acc : List Str}, (∀ k ∈ ks, k ∈ acc) → ks.foldl addK acc = acc
  | [], _, _ => rfl
  | x :: r, acc, h => by
    rw [List.foldl_cons, addK, if_pos (h x (.head _))]
    exact foldl_have fun k hk => h k (.tail _ hk)
theorem foldl_double {rs : List Str} (h : rs.Nodup) : (rs ++ rs).foldl addK [] = rs := by
  rw [List.foldl_append, foldl_nodup (acc := []) (by rw [List.nil_append]; exact h), List.nil_append]
  exact foldl_have fun _ h => h
theorem rev_eq {rs : List Str} (h : rs.Nodup) : decide (rs = rs.reverse) = decide (rs.length < 2) := by
  by_cases hl : rs.length < 2
  · rw [decide_eq_true hl]
    refine decide_eq_true ?_
    match rs, hl with
    | [], _ => rfl
    | [_], _ => rfl
  · rw [decide_eq_false hl]
    refine decide_eq_false fun e => ?_
    match rs, hl, h, e with
    | [], hl, _, _ => exact hl (by decide)
    | [_], hl, _, _ => exact hl (by simp)
    | x :: y :: r, _, h, e =>
      have h0 : (x :: y :: r)[0]? = (x :: y :: r).reverse[0]? := by rw [← e]
      rw [List.getElem?_reverse (by simp)] at h0
      simp only [List.getElem?_cons_zero, List.length_cons] at h0
      have hm : x ∈ y :: r := by
        have h1 : (x :: y :: r)[r.length + 1 + 1 - 1 - 0]? = some x := h0.symm
        have e2 : r.length + 1 + 1 - 1 - 0 = r.length + 1 := by omega
        rw [e2, List.getElem?_cons_succ] at h1
        exact List.mem_of_getElem? h1
      exact (List.nodup_cons.mp h).1 hm

end SOsSetEq
section SOsPopC
local macro_rules | `(tactic| k_room) => `(tactic| (show (_ : Nat) < _; (try simp only [depth_under_make, depth_under_kw, depth_in1, depth_deeper, depth_caller]); (try simp only [show recursionLimit = 1000 from rfl]); omega))
local macro_rules | `(tactic| k_ne) => `(tactic| (refine neN ?_; first | assumption | (refine Ne.symm ?_; assumption) | ((try dsimp only); omega)))
local macro_rules | `(tactic| k_all) => `(tactic| first | exact own_ne (by assumption) (by intro p hp; k_ownIn) | exact own_ne' (by assumption) (by assumption) (by intro p hp; k_ownIn))
local macro_rules | `(tactic| k_all) => `(tactic| exact OwnOff.ne (by assumption) (by k_memK))
local macro_rules | `(tactic| k_all) => `(tactic| (refine' List.forall_mem_cons.mpr ⟨?a, ?b⟩; (case a => k_ne); (case b => k_all)))
local macro_rules | `(tactic| k_lt $h:ident) => `(tactic| (have l0 : AllBelow _ _ := $h; replace $h := allLt_of $h; (try simp only [AllLt, and_true] at $h:ident)))

local macro_rules | `(tactic| k_allIn) => `(tactic| (intro p hp; k_ownIn))
local macro_rules | `(tactic| k_allIn) => `(tactic| (refine List.forall_mem_cons.mpr ⟨by k_memK, ?_⟩; k_allIn))


local macro_rules | `(tactic| k_enter) => `(tactic| (refine' code_def ?k1 ?k2 ?k3 ?k4 ?k5 ?kA ?kF ?kK ?k6 ?k7 ?k8 ?k9 ?kB ?kZ ?c2 ?c3 ?c4 ?c5; (case kA => exact rfl); (case kF => (first | exact rfl | assumption)); (case kK => (first | exact rfl | assumption)); (case k1 => k_asm); (case k2 => k_asm); (case k3 => k_asm); (case k4 => k_asm); (case k5 => k_asm); (case k6 => k_is); (case k7 => k_is); (case k8 => k_room); (case k9 => (first | exact BindsTo.of_eq rfl | exact binds_K (by k_in) rfl (by k_is) rfl rfl rfl)); (case c5 => decide); (case kB => exact locs rfl); (case c2 => exact rfl); (case c3 => exact rfl); (case c4 => exact rfl); k_whole; intro g' L' h' FG' F' N' B' X' T'; (try dsimp only); (try k_fold)))

local macro_rules | `(tactic| walk_at "call ref") => `(tactic| ((with_reducible first | (show wpAny _ _ (call (Value.ref 57) _ _) _ _ _) | (show wpAny _ _ (call (Value.ref 64) _ _) _ _ _) | (show wpAny _ _ (call (Value.ref 71) _ _) _ _ _) | (show wpAny _ _ (call (Value.ref 78) _ _) _ _ _) | (show wpAny _ _ (call (Value.ref 100) _ _) _ _ _) | (show wpAny _ _ (call (Value.ref 107) _ _) _ _ _) | (show wpAny _ _ (call (Value.ref 110) _ _) _ _ _)); refine stop_intro ?_))
local macro_rules | `(tactic| walk_at "exec For") => `(tactic| refine stop_intro ?_)
local macro_rules | `(tactic| walk_at "exec For Name") => `(tactic| refine stop_intro ?_)
local macro_rules | `(tactic| walk_at "exec For Name Name") => `(tactic| refine stop_intro ?_)
local macro_rules | `(tactic| walk_at "exec For Name Name cons") => `(tactic| refine stop_intro ?_)
local macro_rules | `(tactic| walk_at "exec For Name Name cons nil") => `(tactic| refine stop_intro ?_)
local macro_rules | `(tactic| walk_at "exec For Name Subscript cons nil") => `(tactic| refine stop_intro ?_)
section
variable {prog : Program} {w : World} {A : Around} {h₀ : Heap} {L o : Addr} {m : Str → Option Value} {env : Env} {elt : Expr} {x : Str} {scope : Scope} {cl : List (Str × Addr)} {s : Shared} {S : List (Addr × Obj) → Prop} {P : Nat → Value → Prop} {Fin : List Value → List (Addr × Obj) → Prop} {pre Gb G : List (Addr × Obj)} {rs : List Str}
theorem pop_rest (hG : SetAt prog w G o rs) (hoff : OwnOff G ((pre ++ Gb).map (·.1)))
    (turn : ∀ ks x' Gc i v I oI C oC D m₂ ys h tk (E' : Value → Shared → Prop), SetAt prog w Gc o (ks ++ [x']) → ks.length ≤ rs.length → OwnOff Gc ((pre ++ Gb).map (·.1)) → P i v → LCg.NsObj oC m₂ → m₂ x = some v → Fr h₀ L h m → News h₀ L h ((I, oI) :: (C, oC) :: (D, LCg.lst ys) :: (pre ++ (Gc ++ Gb))) → LCg.Off3 I C D (pre ++ (Gc ++ Gb)) → ((@Ne Nat I C) ∧ (@Ne Nat I D) ∧ (@Ne Nat C D)) →
      wpAny (model prog w) A (eval elt (compEnvC scope cl C env)) (LCg.CompEnd h₀ L m { s with heap := h, toks := tk } I oI C oC D (LCg.lst ys) S (fun y news' => Halt (∃ Gn t, news' = pre ++ (Gn ++ Gb) ∧ y = .str x' t ∧ SetAt prog w Gn o ks ∧ OwnOff Gn ((pre ++ Gb).map (·.1))))) E' { s with heap := h, toks := tk })
    (fin : NmDone (∀ ys Gn, Names ys rs.reverse → SetAt prog w Gn o [] → OwnOff Gn ((pre ++ Gb).map (·.1)) → Fin ys (pre ++ (Gn ++ Gb)))) :
    LCg.CompRest prog w A h₀ L m env elt x scope cl s S P Fin rs.length 0 [] (pre ++ (G ++ Gb)) := by
  have key : ∀ (j i : Nat) (ks ysn : List Str) (ys : List Value) (Gc : List (Addr × Obj)), ks.length = j → SetAt prog w Gc o ks → OwnOff Gc ((pre ++ Gb).map (·.1)) → Names ys ysn → ks ++ ysn.reverse = rs →
      LCg.CompRest prog w A h₀ L m env elt x scope cl s S P Fin j i ys (pre ++ (Gc ++ Gb)) := by
    intro j
    induction j with
    | zero =>
      intro i ks ysn ys Gc hl hs ho hn he
      obtain rfl : ks = [] := List.length_eq_zero_iff.mp hl
      refine LCg.CompRest.zero (fin ys Gc ?_ hs ho)
      rw [← he, List.nil_append, List.reverse_reverse]
      exact hn
    | succ j ih =>
      intro i ks ysn ys Gc hl hs ho hn he
      obtain ⟨ks', x', rfl⟩ : ∃ ks' x', ks = ks' ++ [x'] := by
        rcases List.eq_nil_or_concat ks with h | ⟨l, y, h⟩
        · rw [h] at hl; simp at hl
        · exact ⟨l, y, by rw [h, List.concat_eq_append]⟩
      refine LCg.CompRest.succ ?_
      intro v I oI C oC D m₂ h tk E' hv hC hx F N off ne
      refine wpAny_mono (turn ks' x' Gc i v I oI C oC D m₂ ys h tk E' hs (by rw [← he]; simp) ho hv hC hx F N off ne) (fun y s₂ hq => ?_) fun _ _ e => e
      obtain ⟨h', tk', nw, e, F', N', off', hS, hr⟩ := hq
      obtain ⟨Gn, t, rfl, rfl, hs', ho'⟩ := Halt.out hr
      refine ⟨h', tk', _, e, F', N', off', hS, ?_⟩
      refine ih (i + 1) ks' (ysn ++ [x']) _ Gn (by simpa using hl) hs' ho' hn.snoc ?_
      rw [← he]; simp
  exact key rs.length 0 rs [] [] G rfl hG hoff .nil (by simp)
end

end SOsPopC
section SLawX
local macro_rules | `(tactic| k_room) => `(tactic| (show (_ : Nat) < _; (try simp only [depth_under_make, depth_under_kw, depth_in1, depth_deeper, depth_caller]); (try simp only [show recursionLimit = 1000 from rfl]); omega))
local macro_rules | `(tactic| k_ne) => `(tactic| (refine neN ?_; first | assumption | (refine Ne.symm ?_; assumption) | ((try dsimp only); omega)))
local macro_rules | `(tactic| k_all) => `(tactic| first | exact own_ne (by assumption) (by intro p hp; k_ownIn) | exact own_ne' (by assumption) (by assumption) (by intro p hp; k_ownIn))
local macro_rules | `(tactic| k_all) => `(tactic| exact OwnOff.ne (by assumption) (by k_memK))
local macro_rules | `(tactic| k_all) => `(tactic| (refine' List.forall_mem_cons.mpr ⟨?a, ?b⟩; (case a => k_ne); (case b => k_all)))
local macro_rules | `(tactic| k_lt $h:ident) => `(tactic| (have l0 : AllBelow _ _ := $h; replace $h := allLt_of $h; (try simp only [AllLt, and_true] at $h:ident)))

local macro_rules | `(tactic| k_allIn) => `(tactic| (intro p hp; k_ownIn))
local macro_rules | `(tactic| k_allIn) => `(tactic| (refine List.forall_mem_cons.mpr ⟨by k_memK, ?_⟩; k_allIn))


local macro_rules | `(tactic| k_enter) => `(tactic| (refine' code_def ?k1 ?k2 ?k3 ?k4 ?k5 ?kA ?kF ?kK ?k6 ?k7 ?k8 ?k9 ?kB ?kZ ?c2 ?c3 ?c4 ?c5; (case kA => exact rfl); (case kF => (first | exact rfl | assumption)); (case kK => (first | exact rfl | assumption)); (case k1 => k_asm); (case k2 => k_asm); (case k3 => k_asm); (case k4 => k_asm); (case k5 => k_asm); (case k6 => k_is); (case k7 => k_is); (case k8 => k_room); (case k9 => (first | exact BindsTo.of_eq rfl | exact binds_K (by k_in) rfl (by k_is) rfl rfl rfl)); (case c5 => decide); (case kB => exact locs rfl); (case c2 => exact rfl); (case c3 => exact rfl); (case c4 => exact rfl); k_whole; intro g' L' h' FG' F' N' B' X' T'; (try dsimp only); (try k_fold)))

local macro_rules | `(tactic| walk_at "call ref") => `(tactic| ((with_reducible first | (show wpAny _ _ (call (Value.ref 57) _ _) _ _ _) | (show wpAny _ _ (call (Value.ref 64) _ _) _ _ _) | (show wpAny _ _ (call (Value.ref 71) _ _) _ _ _) | (show wpAny _ _ (call (Value.ref 78) _ _) _ _ _) | (show wpAny _ _ (call (Value.ref 100) _ _) _ _ _) | (show wpAny _ _ (call (Value.ref 107) _ _) _ _ _) | (show wpAny _ _ (call (Value.ref 110) _ _) _ _ _)); refine stop_intro ?_))
local macro_rules | `(tactic| walk_at "exec For") => `(tactic| refine stop_intro ?_)
local macro_rules | `(tactic| walk_at "exec For Name") => `(tactic| refine stop_intro ?_)
local macro_rules | `(tactic| walk_at "exec For Name Name") => `(tactic| refine stop_intro ?_)
local macro_rules | `(tactic| walk_at "exec For Name Name cons") => `(tactic| refine stop_intro ?_)
local macro_rules | `(tactic| walk_at "exec For Name Name cons nil") => `(tactic| refine stop_intro ?_)
local macro_rules | `(tactic| walk_at "exec For Name Subscript cons nil") => `(tactic| refine stop_intro ?_)
theorem name_it {α : Type} (a : α) : ∃ b, b = a := ⟨a, rfl⟩
theorem list_of {h : Heap} {l : Addr} {xs : Array Value} (_ : h.IsList l xs) : ∃ b, b = l := ⟨l, rfl⟩
theorem ints_of {vs : List Value} {ns : List Int} (_ : IntsAre vs ns) : (∃ b, b = vs) ∧ ∃ b, b = ns := ⟨⟨vs, rfl⟩, ns, rfl⟩
theorem fr_of {h₀ h : Heap} {L : Addr} {m : Str → Option Value} (_ : Fr h₀ L h m) : ∃ b, b = h := ⟨h, rfl⟩
theorem gens_of {s : Shared} (_ : s.gens = #[]) : ∃ b, b = s := ⟨s, rfl⟩
theorem news_of {h₀ h : Heap} {L a b c d : Addr} {o1 o2 o3 o4 : Obj} (_ : News h₀ L h [(a, o1), (b, o2), (c, o3), (d, o4)]) : (∃ x, x = o1) ∧ (∃ x, x = o2) ∧ (∃ x, x = o3) ∧ ∃ x, x = o4 := ⟨⟨_, rfl⟩, ⟨_, rfl⟩, ⟨_, rfl⟩, ⟨_, rfl⟩⟩
theorem fr_cong {h₀ h : Heap} {L : Addr} {m : Str → Option Value} {x : Str} {v : Value} (F : Fr h₀ L h m) (e : m x = some v) : Fr h₀ L h (fun y => if y = x then some v else m y) := by
  refine (congrArg (Fr h₀ L h) (funext fun y => ?_)).mp F
  by_cases h : y = x
  · rw [if_pos h, h, e]
  · rw [if_neg h]
local macro_rules | `(tactic| k_ne) => `(tactic| (refine neN ?_; first | exact Apt.ne (by assumption) | exact Ne.symm (Apt.ne (by assumption))))
theorem ownOff_put3 {G : List (Addr × Obj)} {a b c d : Addr} {r : List Addr} (h : OwnOff G (a :: b :: c :: r)) (l : ∀ q ∈ G, q.1 ≠ d) : OwnOff G (a :: b :: d :: r) := fun q hq x hx => by
  rcases List.mem_cons.mp hx with rfl | hx
  · exact h q hq _ (.head _)
  rcases List.mem_cons.mp hx with rfl | hx
  · exact h q hq _ (.tail _ (.head _))
  rcases List.mem_cons.mp hx with rfl | hx
  · exact l q hq
  · exact h q hq _ (.tail _ (.tail _ (.tail _ hx)))
theorem mem_drop3 {α : Type} {x a b c : α} {r : List α} : ∀ q ∈ a :: b :: x :: r, q ∈ x :: a :: b :: c :: r := fun q hq => by
  rcases List.mem_cons.mp hq with rfl | hq
  · exact .tail _ (.head _)
  rcases List.mem_cons.mp hq with rfl | hq
  · exact .tail _ (.tail _ (.head _))
  rcases List.mem_cons.mp hq with rfl | hq
  · exact .head _
  · exact .tail _ (.tail _ (.tail _ (.tail _ hq)))
theorem mem_new3 {α : Type} {x t a b c : α} {r : List α} : ∀ q ∈ a :: b :: x :: r, q ∈ x :: t :: a :: b :: c :: r := fun q hq => by
  rcases List.mem_cons.mp hq with rfl | hq
  · exact .tail _ (.tail _ (.head _))
  rcases List.mem_cons.mp hq with rfl | hq
  · exact .tail _ (.tail _ (.tail _ (.head _)))
  rcases List.mem_cons.mp hq with rfl | hq
  · exact .head _
  · exact .tail _ (.tail _ (.tail _ (.tail _ (.tail _ hq))))
theorem mem_perm {α : Type} {xs G Gb : List α} {d : α} : ∀ p ∈ xs ++ (G ++ Gb), p ∈ Gb ++ (d :: (xs ++ G)) := fun p hp => by
  rcases List.mem_append.mp hp with h | h
  · exact List.mem_append_right _ (.tail _ (List.mem_append_left _ h))
  rcases List.mem_append.mp h with h | h
  · exact List.mem_append_right _ (.tail _ (List.mem_append_right _ h))
  · exact List.mem_append_left _ h
theorem nodup_rev {l : List Str} (h : l.Nodup) : l.reverse.Nodup := List.pairwise_reverse.mpr (List.Pairwise.imp (fun h => Ne.symm h) h)
theorem mem_skip2 {α : Type} {x y : α} {r : List α} : ∀ a ∈ x :: r, a ∈ x :: y :: r := fun a ha => by
  rcases List.mem_cons.mp ha with rfl | ha
  · exact .head _
  · exact .tail _ (.tail _ ha)
theorem mem_rot {α : Type} {G xs : List α} : ∀ p ∈ xs ++ G, p ∈ G ++ xs := fun p hp => by
  rcases List.mem_append.mp hp with h | h
  · exact List.mem_append_right _ h
  · exact List.mem_append_left _ h
theorem bare_nil {g : Array GenState} (h : g = #[]) : AllBare g := by subst h; intro x hx; simp at hx
theorem below_of {d : Addr} : ∀ {G : List (Addr × Obj)}, AllLt d G → AllBelow d G
  | [], _ => fun p hp => by cases hp
  | q :: r, h => fun p hp => by
    rcases List.mem_cons.mp hp with rfl | hp
    · exact h.1
    · exact below_of h.2 p hp
theorem head_of {h₀ h : Heap} {L a : Addr} {o : Obj} {r : List (Addr × Obj)} (_ : News h₀ L h ((a, o) :: r)) : ∃ x, x = a := ⟨a, rfl⟩
theorem third_of {h₀ h : Heap} {L : Addr} {p1 p2 p3 : Addr × Obj} {r : List (Addr × Obj)} (_ : News h₀ L h (p1 :: p2 :: p3 :: r)) : ∃ x, x = p3.2 := ⟨p3.2, rfl⟩
theorem ownOff_add {G : List (Addr × Obj)} {a : Addr} {adr : List Addr} (h : OwnOff G adr) (l : AllBelow a G) : OwnOff G (a :: adr) := fun q hq b hb => by
  rcases List.mem_cons.mp hb with rfl | hb
  · exact Nat.ne_of_lt (l q hq)
  · exact h q hq b hb
theorem ownOff_addNe {G : List (Addr × Obj)} {a : Addr} {adr : List Addr} (h : OwnOff G adr) (l : ∀ q ∈ G, q.1 ≠ a) : OwnOff G (a :: adr) := fun q hq b hb => by
  rcases List.mem_cons.mp hb with rfl | hb
  · exact l q hq
  · exact h q hq b hb
theorem ownOff_less {G : List (Addr × Obj)} {adr adr' : List Addr} (h : OwnOff G adr) (hs : ∀ a ∈ adr', a ∈ adr) : OwnOff G adr' := fun q hq b hb => h q hq b (hs b hb)
local macro_rules | `(tactic| walk_at "compareOp Eq ref ref") => `(tactic| refine stop_intro ?_)
local macro_rules | `(tactic| walk_at "compareOp NotEq ref ref") => `(tactic| refine stop_intro ?_)
local macro_rules | `(tactic| walk_at "exec Assign cons ListComp") => `(tactic| refine stop_intro ?_)
local macro_rules | `(tactic| walk_at "eval ListComp") => `(tactic| refine stop_intro ?_)
def StopMark : Prop := True
local macro_rules | `(tactic| walk_at "subscriptTail Name Constant ref int") => `(tactic| ((with_reducible rename StopMark => sMk); refine stop_intro ?_))
local macro_rules | `(tactic| walk_at "subscriptTail Name UnaryOp ref int") => `(tactic| ((with_reducible rename StopMark => sMk); refine stop_intro ?_))
local macro_rules | `(tactic| walk_at "subscriptTail Name Slice ref ref") => `(tactic| ((with_reducible rename StopMark => sMk); refine stop_intro ?_))
local macro_rules | `(tactic| walk_at "subscriptTail") => `(tactic| ((with_reducible rename StopMark => sMk); refine stop_intro ?_))
local macro_rules | `(tactic| walk_at "exec Try") => `(tactic| refine stop_intro ?_)
local macro_rules | `(tactic| walk_at "exec Try cons cons") => `(tactic| refine stop_intro ?_)
local macro_rules | `(tactic| walk_at "exec Try cons cons nil") => `(tactic| refine stop_intro ?_)
local macro_rules | `(tactic| walk_at "exec Try cons cons nil nil") => `(tactic| refine stop_intro ?_)
local macro_rules | `(tactic| walk_at "binaryOp Add ref ref") => `(tactic| refine stop_intro ?_)
local macro_rules | `(tactic| walk_at "call builtin:list.append") => `(tactic| refine stop_intro ?_)
local macro_rules | `(tactic| walk_at "compareOp In") => `(tactic| refine stop_intro ?_)
local macro_rules | `(tactic| walk_at "compareOp NotIn") => `(tactic| refine stop_intro ?_)
local macro_rules | `(tactic| walk_at "compareOp In str ref") => `(tactic| refine stop_intro ?_)
local macro_rules | `(tactic| walk_at "compareOp NotIn str ref") => `(tactic| refine stop_intro ?_)
local macro_rules | `(tactic| walk_at "CompSrc") => `(tactic| refine stop_intro ?_)
local macro_rules | `(tactic| walk_at "CompEnd") => `(tactic| refine stop_intro ?_)
set_option pp.deepTerms false
set_option pp.deepTerms.threshold 5
set_option pp.maxSteps 9000
theorem law_try : PySem.Challenge.rw_jv0045_01.Holds := Mine.hd (by
  w_strict (
    lge_go0
    rename LGe.Mark => hmark
    clear hmark
    k_drop
    rename Below _ _ _ _ => kB
    rename Frag.In _ _ => kX
    rename Top _ _ _ _ _ _ => kT
    rename _ = #[] => hg0
    rename News _ _ _ _ => kN
    rename Fr _ _ _ _ => kF
    rename Heap.IsList _ _ _ => hIL
    rename IntsAre _ _ => hIA
    rename ¬ _ < _ => hsz
    rename CellsAre _ _ _ => kC
    clear kC
    rename World => w
    obtain ⟨s1, hs1⟩ := gens_of hg0
    subst hs1
    obtain ⟨⟨on, h1⟩, ⟨orw, h2⟩, ⟨oh, h3⟩, op, h4⟩ := news_of kN
    subst h1 h2 h3 h4
    obtain ⟨h1, hh1⟩ := fr_of kF
    subst hh1
    obtain ⟨S, hS⟩ := list_of hIL
    obtain ⟨⟨svs, hsvs⟩, sns, hsns⟩ := ints_of hIA
    subst hS hsvs hsns
    generalize hm0 : bindL _ _ _ = m0 at kF
    have hms : m0 "script" = some (.ref S) := by rw [← hm0]; rfl
    clear hm0
    replace kF := fr_cong kF hms
    clear hms
    refine wpAny_execs_cons ?_
    refine wpAny_mono (E := fun _ _ => False) (Q := fun f s' => ∃ op h tk pick t, f = .next ∧ s' = { s1 with heap := h, toks := tk } ∧ op.data = .cell (some (.int pick t)) ∧ Fr s1.heap s1.heap.objs.size h (fun y => if y = "script" then some (.ref S) else m0 y) ∧ News s1.heap s1.heap.objs.size h ((s1.heap.objs.size + 1 + 1 + 1 + 1, on) :: (s1.heap.objs.size + 1 + 1 + 1, orw) :: (s1.heap.objs.size + 1 + 1, oh) :: (s1.heap.objs.size + 1, op) :: [])) ?S1 (fun f s' hS1 => ?R1) fun _ _ h => h.elim
    case S1 =>
      k_steps
      all_goals first | trivial | assumption
    case R1 =>
    clear kF kN
    obtain ⟨op, h2, tk2, pick, pt, rfl, rfl, hop, kF, kN⟩ := hS1
    (try dsimp only)
    refine wpAny_execs_cons ?_
    refine wpAny_mono (E := fun _ _ => False) (Q := fun f s' => ∃ D h tk vs ks, f = .next ∧ s' = { s1 with heap := h, toks := tk } ∧ Names vs ks ∧ NamesIn ks ∧ ks.length ≤ 5 ∧ (Apt (s1.heap.objs.size + 1 + 1 + 1 + 1) D ∧ Apt (s1.heap.objs.size + 1 + 1 + 1) D ∧ Apt (s1.heap.objs.size + 1 + 1) D ∧ Apt (s1.heap.objs.size + 1) D) ∧ Fr s1.heap s1.heap.objs.size h (fun y => if y = "start" then some (.ref D) else if y = "script" then some (.ref S) else m0 y) ∧ News s1.heap s1.heap.objs.size h ((D, listOf vs.toArray vs.length) :: (s1.heap.objs.size + 1 + 1 + 1 + 1, on) :: (s1.heap.objs.size + 1 + 1 + 1, orw) :: (s1.heap.objs.size + 1 + 1, oh) :: (s1.heap.objs.size + 1, op) :: [])) ?S2 (fun f s' hS2 => ?R2) fun _ _ h => h.elim
    case S2 =>
      refine LCg.Assign_ListComp_U (F₀ := kF) (by rfl) (by with_unfolding_all rfl) (by with_unfolding_all rfl) (by decide) (by rfl) (by decide) (by rfl) (by rfl) (by rfl) ?_
      k_steps
      unfold Stop
      skip
      rename Fr _ _ _ _ => kF; rename News _ _ _ _ => kN; rename IsRange _ _ _ _ _ _ _ _ => hr
      have hf1 : 0 ≤ pick.fmod 6 := Int.fmod_nonneg_of_pos _ (by decide)
      have hf2 : pick.fmod 6 < 6 := Int.fmod_lt_of_pos _ (by decide)
      refine LCg.CompSrc.range (by rfl) kF kN hr (small_one (by omega) (by omega) (by omega) (by omega)) (rangeSize_nat _ _) (by rw [sizeLine_eq]; omega) ?_
      intro g
      refine nm_rest (fun _ k => k ∈ tab) (fun i v I oI C oC D m₂ ys h tk E' hi hv hC hx F' N' off ne => ?turn) ?fin
      case turn =>
        clear kF kN hr
        obtain ⟨t, rfl⟩ := hv
        (try simp only [LCg.Off3, and_true] at off)
        k_steps
        all_goals first
          | (unfold Stop
             refine LCg.CompEnd.intro (by assumption) (by assumption) _ ?sub ?off True.intro ⟨rfl, _, _, rfl, by simp only [tab, List.mem_cons, true_or, or_true]⟩
             case sub => exact fun p hp => .tail _ hp
             case off => exact ⟨off.1, off.2.1, off.2.2.1, off.2.2.2, True.intro⟩)
          | (exfalso; have h5 : i < 5 := by omega
             rename List.getD _ _ _ = _ => hz
             revert hz
             rcases i with _ | _ | _ | _ | _ | i
             · decide
             · decide
             · decide
             · decide
             · decide
             · omega)
      case fin =>
        unfold NmDone
        intro ys ks hn hl hk D h tk F' N' off
        (try simp only [LCg.Off1, and_true] at off)
        refine ⟨D, h, tk, ys, ks, rfl, rfl, hn, fun k hk' => ?_, by omega, off, F', N'⟩
        obtain ⟨i, hi⟩ := List.getElem?_of_mem hk'
        exact hk i k hi
    case R2 =>
    clear kF kN
    obtain ⟨D, h3, tk3, vs, ks, rfl, rfl, hvs, hks, hkl, ⟨hDa1, hDa2, hDa3, hDa4⟩, kF, kN⟩ := hS2
    (try dsimp only)
    refine wpAny_execs_cons ?_
    refine wpAny_mono (E := fun _ _ => False) (Q := fun f s' => ∃ oh' o G, f = .next ∧ oh'.data = .cell (some (.ref o)) ∧ SetAt (PySem.Challenge.rw_jv0045_01.row.prog) w G o (ks.foldl addK []) ∧ OwnOff G [D, s1.heap.objs.size + 1 + 1 + 1 + 1, s1.heap.objs.size + 1 + 1 + 1, s1.heap.objs.size + 1 + 1, s1.heap.objs.size + 1] ∧ Fr s1.heap s1.heap.objs.size s'.heap (fun y => if y = "start" then some (.ref D) else if y = "script" then some (.ref S) else m0 y) ∧ News s1.heap s1.heap.objs.size s'.heap ((D, listOf vs.toArray vs.length) :: (s1.heap.objs.size + 1 + 1 + 1 + 1, on) :: (s1.heap.objs.size + 1 + 1 + 1, orw) :: (s1.heap.objs.size + 1 + 1, oh') :: (s1.heap.objs.size + 1, op) :: G) ∧ AllBare s'.gens ∧ s'.os = s1.os) ?S3 (fun f s' hS3 => ?R3) fun _ _ h => h.elim
    case S3 =>
      k_steps
      unfold Stop
      rename Fr _ _ _ _ => kF; rename News _ _ _ _ => kN
      refine new_ct kB kF kX kT rfl rfl (by decide) kN (src_list (.head _) hvs) (by omega) (bare_nil hg0) fun o G s3 hG hoff F3 N3 hb3 ho3 => ?_
      (try simp only [List.map_cons, List.map_nil] at hoff)
      have N4 := News.sub N3 (mem_rot (xs := _ :: _ :: _ :: _ :: _ :: []) (G := G))
      (try simp only [List.cons_append, List.nil_append] at N4)
      clear kF kN N3
      k_steps
      all_goals (try exact hG)
      all_goals first | trivial | exact hoff | exact hb3 | exact ho3 | assumption
    case R3 =>
    clear kF kN
    obtain ⟨oh', o, G, rfl, hoh', hG, hoff, kF, kN, hgb, hos⟩ := hS3
    (try dsimp only)
    k_steps
    unfold Stop
    refine for_any ?_
    k_steps
    rename Fr _ _ _ _ => kF; rename News _ _ _ _ => kN
    rename D < _ ∧ _ => l1
    obtain ⟨rw, hrw⟩ := head_of kN
    subst hrw
    obtain ⟨l1, _, _, _, _, lG⟩ := l1
    replace lG := below_of lG
    rename Obj.data _ = Data.cell (some (Value.ref rw)) => horw
    rename Obj => orw'
    have hoff' : OwnOff G [rw, D, s1.heap.objs.size + 1 + 1 + 1 + 1, s1.heap.objs.size + 1 + 1 + 1, s1.heap.objs.size + 1 + 1, s1.heap.objs.size + 1] := ownOff_add hoff lG
    clear hoff
    have kN' : News s1.heap s1.heap.objs.size _ ((D, listOf vs.toArray vs.length) :: (rw, listOf #[] 0) :: (s1.heap.objs.size + 1 + 1 + 1 + 1, on) :: (s1.heap.objs.size + 1 + 1 + 1, orw') :: (s1.heap.objs.size + 1 + 1, oh') :: (s1.heap.objs.size + 1, op) :: G) := News.sub kN (fun p hp => by simp only [List.mem_cons] at hp ⊢; rcases hp with h | h | h <;> simp [h])
    clear kN
    refine for_list (by rfl) (fun i m' news' gens os => m' = (fun (y : Str) => if y = "start" then some (.ref D) else if y = "script" then some (.ref S) else m0 y) ∧ AllBare gens ∧ os = s1.os ∧ ∃ on' vs' n' nv, news' = (rw, listOf vs'.toArray n') :: (s1.heap.objs.size + 1 + 1 + 1 + 1, on') :: (s1.heap.objs.size + 1 + 1 + 1, orw') :: (s1.heap.objs.size + 1 + 1, oh') :: (s1.heap.objs.size + 1, op) :: G ∧ on'.data = .cell nv ∧ Names vs' ((ks.take i).foldl addK [])) kF kN' ⟨rfl, hgb, hos, on, [], 0, _, rfl, by assumption, .nil⟩ ?step ?done
    case step =>
      rintro i v I oI s₁ m' news' hv kF kN hDI hLI hoI hnI ⟨rfl, hgb1, hos1, on', vs', n', nv, rfl, hon', hnm⟩
      clear kN'
      have hIrw := hnI _ (.head _)
      have hI4 := hnI _ (.tail _ (.head _))
      have hI3 := hnI _ (.tail _ (.tail _ (.head _)))
      have hI2 := hnI _ (.tail _ (.tail _ (.tail _ (.head _))))
      have hI1 := hnI _ (.tail _ (.tail _ (.tail _ (.tail _ (.head _)))))
      replace hIrw := ltN hIrw
      replace hI1 := ltN hI1
      replace hI2 := ltN hI2
      replace hI3 := ltN hI3
      replace hI4 := ltN hI4
      dsimp only at hIrw hI1 hI2 hI3 hI4
      have hoffI : OwnOff G [I, rw, D, s1.heap.objs.size + 1 + 1 + 1 + 1, s1.heap.objs.size + 1 + 1 + 1, s1.heap.objs.size + 1 + 1, s1.heap.objs.size + 1] := ownOff_addNe hoff' fun q hq => Nat.ne_of_lt (hnI q (.tail _ (.tail _ (.tail _ (.tail _ (.tail _ hq))))))
      obtain ⟨k, t, hk, rfl⟩ := hvs.get i v hv
      k_steps
      unfold Stop
      rename Fr _ _ _ _ => kF; rename News _ _ _ _ => kN
      refine notin_names kN (.tail _ (.tail _ (.head _))) hnm ?_
      by_cases hkm : k ∈ (ks.take i).foldl addK []
      · rw [decide_eq_true hkm]
        simp only [Bool.not_true]
        k_steps
        rename Fr _ _ _ _ => kF; rename News _ _ _ _ => kN
        rename Obj.data _ = Data.cell (some (Value.str k t)) => hon2
        refine halt ⟨_, _, kF, kN, ?_, rfl, hgb1, hos1, _, vs', n', _, rfl, hon2, ?_⟩
        · intro q hq
          simp only [List.mem_cons] at hq
          rcases hq with rfl | rfl | rfl | rfl | rfl | hq <;> first | exact hoffI q hq I (.head _) | (refine neN ?_; omega)
        · rw [List.take_add_one, hk, Option.toList_some, List.foldl_append]
          show Names vs' (addK _ k)
          rw [addK, if_pos hkm]; exact hnm
      · rw [decide_eq_false hkm]
        simp only [Bool.not_false]
        k_steps
        unfold Stop
        rename Fr _ _ _ _ => kF; rename News _ _ _ _ => kN
        rename Obj.data _ = Data.cell (some (Value.str k t)) => hon2
        have hlen1 := addK_len (ks.take i) []
        rw [List.length_take] at hlen1
        simp only [List.length_nil] at hlen1
        refine append_K kF kN (by k_upd) (fun h' F' N' => ?_) (by rw [List.size_toArray, hnm.length, sizeLine_eq]; omega)
        clear kF kN
        simp only [List.push_toArray] at N'
        k_steps
        refine halt ⟨_, _, F', N', ?_, rfl, hgb1, hos1, _, _, _, _, rfl, hon2, ?_⟩
        · intro q hq
          simp only [List.mem_cons] at hq
          rcases hq with rfl | rfl | rfl | rfl | rfl | hq <;> first | exact hoffI q hq I (.head _) | (refine neN ?_; omega)
        · rw [List.take_add_one, hk, Option.toList_some, List.foldl_append]
          show Names _ (addK _ k)
          rw [addK, if_neg hkm]; exact hnm.snoc
    case done =>
      rintro s' m' news' kF kN ⟨rfl, hgb1, hos1, on', vs', n', nv, rfl, hon', hnm⟩
      clear kN'
      rw [hvs.length, List.take_length] at hnm
      k_steps
      unfold Stop
      refine for_any ?_
      k_steps
      rename Fr _ _ _ _ => kF; rename News _ _ _ _ => kN
      rename IntsAre _ (List.take _ _) => hnums
      rename List.length _ = min _ _ => hx1
      rename List.length _ ≤ List.length _ => hx2
      clear hx1 hx2
      rename _ ∧ _ => l2
      obtain ⟨Sl, hSl⟩ := head_of kN
      subst hSl
      obtain ⟨_, _, _, _, _, _, lG2⟩ := l2
      replace lG2 := below_of lG2
      generalize List.take _ _ = nums at hnums
      rename List Value => sv
      have hin : NamesIn (ks.foldl addK []) := foldl_addK_in hks (by simp)
      have kN' : News s1.heap s1.heap.objs.size _ ((Sl, listOf sv.toArray 0) :: (rw, listOf vs'.toArray n') :: (s1.heap.objs.size + 1 + 1 + 1 + 1, on') :: (s1.heap.objs.size + 1 + 1 + 1, orw') :: (s1.heap.objs.size + 1 + 1, oh') :: (s1.heap.objs.size + 1, op) :: G) := News.sub kN (fun p hp => by simp only [List.mem_cons] at hp ⊢; rcases hp with h | h | h <;> simp [h])
      clear kN
      refine for_list (by rfl) (fun i m' news' gens os => AllBare gens ∧ os = s1.os ∧ ∃ nv rs, LawLed w s1.heap.objs.size [Sl] op nv rs news') kF kN' ?base2 ?step2 ?done2
      case base2 =>
        refine ⟨hgb1, hos1, _, _, hin, _, _, _, _, _, _, _, _, rfl, hon', horw, hoh', hnm, hG, ownOff_add (ownOff_less hoff' fun a ha => ?_) lG2, fun a ha => ?_, by unfold Apt; omega⟩
        · exact mem_skip2 a ha
        · rw [List.mem_singleton.mp ha]; unfold Apt; omega
      case step2 =>
        rintro i v I oI s₁ m' news' hv kF kN hSI hLI hoI hnI ⟨hgb2, hos2, nv, rs, hin2, on, orw, oh, vs2, n2, rw, o, G, rfl, hon, horw, hoh, hnm2, hG2, hoff2, hpre2, hap1, hap2, hap3, hap4⟩
        obtain ⟨num, nt, rfl, hnum⟩ := IntsAre.at hnums i v hv
        clear kN' hnI hoff' lG lG2 hG hv
        have hIrw : Apt I rw := Ne.symm (hoI _ (.head _))
        have hIS : Apt I Sl := Nat.ne_of_gt hSI
        have hSrw : Apt Sl rw := hpre2 _ (.head _)
        have hI4 : Apt I (s1.heap.objs.size + 1 + 1 + 1 + 1) := Ne.symm (hoI _ (.tail _ (.head _)))
        have hI3 : Apt I (s1.heap.objs.size + 1 + 1 + 1) := Ne.symm (hoI _ (.tail _ (.tail _ (.head _))))
        have hI2 : Apt I (s1.heap.objs.size + 1 + 1) := Ne.symm (hoI _ (.tail _ (.tail _ (.tail _ (.head _)))))
        have hI1 : Apt I (s1.heap.objs.size + 1) := Ne.symm (hoI _ (.tail _ (.tail _ (.tail _ (.tail _ (.head _))))))
        have hoffI : OwnOff G [I, Sl, rw, s1.heap.objs.size + 1 + 1 + 1 + 1, s1.heap.objs.size + 1 + 1 + 1, s1.heap.objs.size + 1 + 1, s1.heap.objs.size + 1] := ownOff_addNe hoff2 fun q hq => hoI q (.tail _ (.tail _ (.tail _ (.tail _ (.tail _ hq)))))
        refine wpAny_mono (Q := fun _ s' => Halt (∃ h tk, s' = { s₁ with heap := h, toks := tk } ∧ Fr s1.heap s1.heap.objs.size h (fun y => if y = "number" then some (.int num nt) else m' y) ∧ News s1.heap s1.heap.objs.size h ((I, oI) :: (Sl, listOf sv.toArray 0) :: (rw, listOf vs2.toArray n2) :: (s1.heap.objs.size + 1 + 1 + 1 + 1, on) :: (s1.heap.objs.size + 1 + 1 + 1, orw) :: (s1.heap.objs.size + 1 + 1, oh) :: (s1.heap.objs.size + 1, op) :: G))) (E := fun _ _ => False) ?N0 (fun _ s' hN0 => ?N1) fun _ _ h => h
        case N0 =>
          k_steps
          rename Fr _ _ _ _ => kF; rename News _ _ _ _ => kN
          exact halt ⟨_, _, rfl, kF, kN⟩
        case N1 =>
        clear kF kN
        obtain ⟨h2, tk2, rfl, kF, kN⟩ := Halt.out hN0
        refine wpAny_execs_cons ?_
        refine wpAny_mono (Q := fun f s' => Halt (∃ h tk k t on2, f = .next ∧ s' = { s₁ with heap := h, toks := tk } ∧ on2.data = .cell (some (.str k t)) ∧ k ∈ tab ∧ Fr s1.heap s1.heap.objs.size h (fun y => if y = "number" then some (.int num nt) else m' y) ∧ News s1.heap s1.heap.objs.size h ((I, oI) :: (Sl, listOf sv.toArray 0) :: (rw, listOf vs2.toArray n2) :: (s1.heap.objs.size + 1 + 1 + 1 + 1, on2) :: (s1.heap.objs.size + 1 + 1 + 1, orw) :: (s1.heap.objs.size + 1 + 1, oh) :: (s1.heap.objs.size + 1, op) :: G))) (E := fun _ _ => False) ?C1 (fun f s' hC1 => ?C1r) fun _ _ h => h
        case C1 =>
          k_steps
          all_goals (rename Fr _ _ _ _ => kF; rename News _ _ _ _ => kN; rename Obj.data _ = Data.cell (some (Value.str _ _)) => hh; exact halt ⟨_, _, _, _, _, rfl, rfl, hh, by simp only [tab, List.mem_cons, true_or, or_true], kF, kN⟩)
        case C1r =>
        clear kF kN
        obtain ⟨h3, tk3, k, kt, on2, rfl, rfl, hon2, hkt, kF, kN⟩ := Halt.out hC1
        (try dsimp only)
        refine wpAny_execs_cons ?_
        refine wpAny_mono (Q := fun f s' => Halt (∃ h tk t, f = .next ∧ s' = { s₁ with heap := h, toks := tk } ∧ Fr s1.heap s1.heap.objs.size h (fun y => if y = "deed" then some (.int (num.fmod 7) t) else if y = "number" then some (.int num nt) else m' y) ∧ News s1.heap s1.heap.objs.size h ((I, oI) :: (Sl, listOf sv.toArray 0) :: (rw, listOf vs2.toArray n2) :: (s1.heap.objs.size + 1 + 1 + 1 + 1, on2) :: (s1.heap.objs.size + 1 + 1 + 1, orw) :: (s1.heap.objs.size + 1 + 1, oh) :: (s1.heap.objs.size + 1, op) :: G))) (E := fun _ _ => False) ?C2 (fun f s' hC2 => ?C2r) fun _ _ h => h
        case C2 =>
          k_steps
          rename Fr _ _ _ _ => kF; rename News _ _ _ _ => kN
          exact halt ⟨_, _, _, rfl, rfl, kF, kN⟩
        case C2r =>
        clear kF kN
        obtain ⟨h4, tk4, dt, rfl, rfl, kF, kN⟩ := Halt.out hC2
        (try dsimp only)
        have hd1 : 0 ≤ num.fmod 7 := Int.fmod_nonneg_of_pos _ (by decide)
        have hd2 : num.fmod 7 < 7 := Int.fmod_lt_of_pos _ (by decide)
        have hlen2 := rs_len hG2 hin2
        have hpre3 : ∀ a ∈ [I, Sl], Apt a rw := List.forall_mem_cons.mpr ⟨hIrw, List.forall_mem_cons.mpr ⟨hSrw, fun _ h => nomatch h⟩⟩
        refine wpAny_execs_cons ?_
        refine wpAny_mono (Q := fun f s' => Halt (f = .next ∧ LawSt w s1.heap s1.heap.objs.size [(I, oI), (Sl, listOf sv.toArray 0)] op (some (.str k kt)) s1.os s')) (E := fun _ _ => False) ?C3 (fun f s' hC3 => ?C4) fun _ _ h => h
        case C3 =>
          clear hC1 hC2 hN0
          generalize num.fmod 7 = d at kF hd1 hd2
          by_cases hd3 : d < 3
          case pos =>
            obtain ⟨od, md, r, om, t1, t2, ls, kN2, _, _, _⟩ := SetAt.look (s := { s₁ with heap := h4, toks := tk4 }) kF kN hG2 fun p hp => .tail _ (.tail _ (.tail _ (.tail _ (.tail _ (.tail _ (.tail _ hp))))))
            clear kN
            k_steps
            unfold Stop
            rename Fr _ _ _ _ => kF; rename News _ _ _ _ => kN
            refine add_ct (pre := (I, oI) :: (Sl, listOf sv.toArray 0) :: (rw, listOf vs2.toArray n2) :: (s1.heap.objs.size + 1 + 1 + 1 + 1, on2) :: (s1.heap.objs.size + 1 + 1 + 1, orw) :: (s1.heap.objs.size + 1 + 1, oh) :: (s1.heap.objs.size + 1, op) :: []) (post := []) (G := G) kB kF kX kT rfl rfl (by decide) (by rw [List.append_nil]; exact News.sub kN fun p hp => .tail _ (.tail _ (.tail _ hp))) hG2 (by omega) (by rw [List.append_nil]; exact hoffI) fun h' tk' G' hG3 hoff3 F' N' => ?_
            simp only [List.append_nil, List.cons_append, List.nil_append, List.map_cons, List.map_nil] at N' hoff3
            clear kF kN
            k_steps
            unfold Stop
            rename Fr _ _ _ _ => kF; rename News _ _ _ _ => kN
            refine notin_names kN (.tail _ (.tail _ (.head _))) hnm2 ?_
            by_cases hkm : k ∈ rs
            · rw [decide_eq_true hkm]
              rw [if_pos hkm] at hG3
              simp only [Bool.not_true]
              k_steps
              rename Fr _ _ _ _ => kF; rename News _ _ _ _ => kN
              exact halt ⟨rfl, hgb2, hos2, _, _, rs, kF, kN, hin2, _, _, _, _, _, _, _, _, rfl, hon2, horw, hoh, hnm2, hG3, hoff3, hpre3, hap1, hap2, hap3, hap4⟩
            · rw [decide_eq_false hkm]
              rw [if_neg hkm] at hG3
              simp only [Bool.not_false]
              k_steps
              unfold Stop
              rename Fr _ _ _ _ => kF; rename News _ _ _ _ => kN
              refine append_K kF kN (by k_upd) (fun h' F' N' => ?_) (by rw [List.size_toArray, hnm2.length, sizeLine_eq]; omega)
              clear kF kN
              simp only [List.push_toArray] at N'
              k_steps
              exact halt ⟨rfl, hgb2, hos2, _, _, rs ++ [k], F', N', hin2.append (fun x hx => by rw [List.mem_singleton.mp hx]; exact hkt), _, _, _, _, _, _, _, _, rfl, hon2, horw, hoh, hnm2.snoc, hG3, hoff3, hpre3, hap1, hap2, hap3, hap4⟩
          case neg =>
            have hdc : d = 3 ∨ d = 4 ∨ d = 5 ∨ d = 6 := by omega
            clear hd1 hd2 hd3
            rcases hdc with hdc | hdc | hdc | hdc <;> subst hdc
            · skip
              k_steps
              unfold Stop
              rename Fr _ _ _ _ => kF; rename News _ _ _ _ => kN
              refine new_ct kB kF kX kT rfl rfl (by decide) kN (src_set hG2 fun p hp => .tail _ (.tail _ (.tail _ (.tail _ (.tail _ (.tail _ (.tail _ hp))))))) (by omega) hgb2 fun o2 G2 s3 hG3 hoff3 F3 N3 hb3 ho3 => ?_
              rw [foldl_nodup (acc := []) (by simpa using hG2.nodup), List.nil_append] at hG3
              have N4 := News.sub N3 (mem_swap (xs := (I, oI) :: (Sl, listOf sv.toArray 0) :: (rw, listOf vs2.toArray n2) :: (s1.heap.objs.size + 1 + 1 + 1 + 1, on2) :: (s1.heap.objs.size + 1 + 1 + 1, orw) :: (s1.heap.objs.size + 1 + 1, oh) :: (s1.heap.objs.size + 1, op) :: []) (G := G) (G2 := G2))
              simp only [List.cons_append, List.nil_append] at N4
              have hoff3' : OwnOff G2 ([I, Sl, rw, s1.heap.objs.size + 1 + 1 + 1 + 1, s1.heap.objs.size + 1 + 1 + 1, s1.heap.objs.size + 1 + 1, s1.heap.objs.size + 1] ++ G.map (fun (x : Addr × Obj) => x.1)) := hoff3
              have hoff4 : OwnOff G2 [I, Sl, rw, s1.heap.objs.size + 1 + 1 + 1 + 1, s1.heap.objs.size + 1 + 1 + 1, s1.heap.objs.size + 1 + 1, s1.heap.objs.size + 1] := ownOff_less hoff3' fun a ha => List.mem_append_left _ ha
              clear kF kN N3 hoffI hoff2 hoff3
              k_steps
              rename Fr _ _ _ _ => kF; rename News _ _ _ _ => kN
              rename Obj.data _ = Data.cell (some (Value.ref o2)) => hoh2
              exact halt ⟨rfl, hb3, ho3.trans hos2, _, _, rs, kF, kN, hin2, _, _, _, _, _, _, _, _, rfl, hon2, horw, hoh2, hnm2, hG3, hoff4, hpre3, hap1, hap2, hap3, hap4⟩
            · skip
              obtain ⟨od, md, r, om, t1, t2, ls, kN2, _, _, _⟩ := SetAt.look (s := { s₁ with heap := h4, toks := tk4 }) kF kN hG2 fun p hp => .tail _ (.tail _ (.tail _ (.tail _ (.tail _ (.tail _ (.tail _ hp))))))
              clear kN
              k_steps
              unfold Stop
              rename Fr _ _ _ _ => kF; rename News _ _ _ _ => kN
              refine disc_ct (pre := (I, oI) :: (Sl, listOf sv.toArray 0) :: (rw, listOf vs2.toArray n2) :: (s1.heap.objs.size + 1 + 1 + 1 + 1, on2) :: (s1.heap.objs.size + 1 + 1 + 1, orw) :: (s1.heap.objs.size + 1 + 1, oh) :: (s1.heap.objs.size + 1, op) :: []) (post := []) (G := G) kB kF kX kT rfl rfl (by decide) (by rw [List.append_nil]; exact News.sub kN fun p hp => .tail _ (.tail _ (.tail _ hp))) hG2 (by omega) (by rw [List.append_nil]; exact hoffI) fun h' tk' G' hG3 hoff3 F' N' => ?_
              simp only [List.append_nil, List.cons_append, List.nil_append, List.map_cons, List.map_nil] at N' hoff3
              clear kF kN hoffI hoff2
              k_steps
              unfold Stop
              rename Fr _ _ _ _ => kF; rename News _ _ _ _ => kN
              refine wpAny_Assign_Name ?_ (by rfl)
              refine comp_evalS (by with_unfolding_all rfl) (by decide) (by rfl) (by decide) (by rfl) ?_
              k_steps
              rename Fr _ _ _ _ => kF; rename News _ _ _ _ => kN
              refine compAt_src (fun y => decide (y ≠ k)) (src_list (.tail _ (.tail _ (.head _))) hnm2) kX kT kF kN (by decide) (by omega) (fun C k' t' s₃ m₃ E' hk' hCL hC0 hn hx F3 N3 => ?tests) (fun C k' t' s₃ m₃ E' hk' hCL hC0 hn hx F3 N3 => elt_self hn hx rfl rfl (by decide)) (fun n P q Fv wr Gr s₂ hgot hC D ys s' hg => ?fin)
              case tests =>
                refine forIn_one ?_
                obtain ⟨oC, hoC, hoN⟩ := LCg.ns_obj hn
                have N4 : News s1.heap s1.heap.objs.size s₃.heap ((C, oC) :: _) := List.forall_mem_cons.mpr ⟨⟨hoC, hCL, hC0⟩, N3⟩
                clear N3 kF kN
                k_steps
                all_goals first | exact ⟨_, _, rfl, fun _ _ e => e⟩ | (by_cases hkk : k' = k <;> simp [hkk])
              case fin =>
                obtain ⟨hys, hlt, F4, N4, hb4, ho4⟩ := hgot D ys s' hg
                clear kF kN
                have aI : Apt I D := Nat.ne_of_lt (hlt (I, oI) (.head _))
                have aS : Apt Sl D := Nat.ne_of_lt (hlt (Sl, _) (.tail _ (.head _)))
                have a4 : Apt (s1.heap.objs.size + 1 + 1 + 1 + 1) D := Nat.ne_of_lt (hlt (_, on2) (.tail _ (.tail _ (.tail _ (.head _)))))
                have a3 : Apt (s1.heap.objs.size + 1 + 1 + 1) D := Nat.ne_of_lt (hlt (_, orw) (.tail _ (.tail _ (.tail _ (.tail _ (.head _))))))
                have a2 : Apt (s1.heap.objs.size + 1 + 1) D := Nat.ne_of_lt (hlt (_, oh) (.tail _ (.tail _ (.tail _ (.tail _ (.tail _ (.head _)))))))
                have a1 : Apt (s1.heap.objs.size + 1) D := Nat.ne_of_lt (hlt (_, op) (.tail _ (.tail _ (.tail _ (.tail _ (.tail _ (.tail _ (.head _))))))))
                have hoffD : OwnOff G' [I, Sl, D, s1.heap.objs.size + 1 + 1 + 1 + 1, s1.heap.objs.size + 1 + 1 + 1, s1.heap.objs.size + 1 + 1, s1.heap.objs.size + 1] := ownOff_put3 hoff3 fun q hq => Nat.ne_of_lt (hlt q (.tail _ (.tail _ (.tail _ (.tail _ (.tail _ (.tail _ (.tail _ hq))))))))
                clear hlt
                k_steps
                rename Fr _ _ _ _ => kF; rename News _ _ _ _ => kN
                rename Obj.data _ = Data.cell (some (Value.ref D)) => horw2
                exact halt ⟨rfl, hb4 hgb2, ho4.trans hos2, _, _, _, kF, News.sub kN (mem_drop3 (x := (D, _))), fun x hx => hin2 x (List.mem_filter.mp hx).1, _, _, _, _, _, _, _, _, rfl, hon2, horw2, hoh, hys, hG3, hoffD, List.forall_mem_cons.mpr ⟨aI, List.forall_mem_cons.mpr ⟨aS, fun _ h => nomatch h⟩⟩, a4, a3, a2, a1⟩
            · skip
              k_steps
              unfold Stop
              rename Fr _ _ _ _ => kF; rename News _ _ _ _ => kN
              refine ne_names kN (.tail _ (.tail _ (.tail _ (.head _)))) (.head _) hnm2 .nil hin2.ok (fun _ h => nomatch h) (by simp only [units_deeper, units_caller]; decide) ?_
              have sMk : StopMark := True.intro
              by_cases hrs : rs = []
              · rw [decide_eq_true hrs]
                subst hrs
                simp only [Bool.not_true]
                k_steps
                unfold Stop
                rename Fr _ _ _ _ => kF; rename News _ _ _ _ => kN
                obtain ⟨od, md, r, om, t1, t2, ls, kN2, _, _, _⟩ := SetAt.look (s := { s₁ with heap := _ }) kF kN hG2 fun p hp => .tail _ (.tail _ (.tail _ (.tail _ (.tail _ (.tail _ (.tail _ (.tail _ hp)))))))
                clear kN
                refine wpAny_Try_except ?_
                k_steps
                unfold Stop
                rename Fr _ _ _ _ => kF; rename News _ _ _ _ => kN
                refine pop_none (pre := (I, oI) :: (Sl, listOf sv.toArray 0) :: (rw, listOf vs2.toArray n2) :: (s1.heap.objs.size + 1 + 1 + 1 + 1, on2) :: (s1.heap.objs.size + 1 + 1 + 1, orw) :: (s1.heap.objs.size + 1 + 1, oh) :: (s1.heap.objs.size + 1, op) :: []) (post := []) (G := G) kB kF kX kT rfl rfl (by decide) (by rw [List.append_nil]; exact News.sub kN fun p hp => .tail _ (.tail _ (.tail _ (.tail _ hp)))) hG2 fun e g h' tk' Fg R hsm => ?_
                refine caught_key (by rfl) rfl kX kT Fg hsm R rfl rfl rfl rfl (by k_is) fun h'' F' N' => ?_
                simp only [List.append_nil, List.cons_append, List.nil_append] at N'
                clear kF kN Fg R hsm
                k_steps
                rename Fr _ _ _ _ => kF; rename News _ _ _ _ => kN
                exact halt ⟨rfl, hgb2, hos2, _, _, [], kF, kN, hin2, _, _, _, _, _, _, _, _, rfl, hon2, horw, hoh, hnm2, hG2, hoffI, hpre3, hap1, hap2, hap3, hap4⟩
              · rw [decide_eq_false hrs]
                obtain ⟨rs', x, rfl⟩ : ∃ rs' x, rs = rs' ++ [x] := by
                  rcases List.eq_nil_or_concat rs with h | ⟨l, x, h⟩
                  · exact absurd h hrs
                  · exact ⟨l, x, by rw [h, List.concat_eq_append]⟩
                simp only [Bool.not_false]
                k_steps
                unfold Stop
                rename Fr _ _ _ _ => kF; rename News _ _ _ _ => kN
                refine item_last kN (.tail _ (.tail _ (.tail _ (.head _)))) hnm2 (fun t => ?_) (by with_unfolding_all rfl)
                k_steps
                unfold Stop
                rename Fr _ _ _ _ => kF; rename News _ _ _ _ => kN
                refine slice_names (lo := none) (hi := some (-1)) kF kN (.tail _ (.tail _ (.tail _ (.head _)))) hnm2 (by first | exact .none | constructor) (by first | exact .int _ _ | constructor) (by omega) (fun D h5 zs hzs F5 N5 hlt => ?_) (by with_unfolding_all rfl) (by intro _; rfl)
                have hzs2 : Names zs rs' := by
                  have e : ((rs' ++ [x]).drop (kms_lo none (rs' ++ [x]).length)).take (kms_hi (some (-1)) (rs' ++ [x]).length - kms_lo none (rs' ++ [x]).length) = rs' := by simp [kms_lo, kms_hi]
                  rw [e] at hzs
                  exact hzs
                clear hzs kF kN
                have aI : Apt I D := Nat.ne_of_lt (hlt (I, oI) (.tail _ (.head _)))
                have aS : Apt Sl D := Nat.ne_of_lt (hlt (Sl, _) (.tail _ (.tail _ (.head _))))
                have a4 : Apt (s1.heap.objs.size + 1 + 1 + 1 + 1) D := Nat.ne_of_lt (hlt (_, on2) (.tail _ (.tail _ (.tail _ (.tail _ (.head _))))))
                have a3 : Apt (s1.heap.objs.size + 1 + 1 + 1) D := Nat.ne_of_lt (hlt (_, orw) (.tail _ (.tail _ (.tail _ (.tail _ (.tail _ (.head _)))))))
                have a2 : Apt (s1.heap.objs.size + 1 + 1) D := Nat.ne_of_lt (hlt (_, oh) (.tail _ (.tail _ (.tail _ (.tail _ (.tail _ (.tail _ (.head _))))))))
                have a1 : Apt (s1.heap.objs.size + 1) D := Nat.ne_of_lt (hlt (_, op) (.tail _ (.tail _ (.tail _ (.tail _ (.tail _ (.tail _ (.tail _ (.head _)))))))))
                have hoffD : OwnOff G [I, Sl, D, s1.heap.objs.size + 1 + 1 + 1 + 1, s1.heap.objs.size + 1 + 1 + 1, s1.heap.objs.size + 1 + 1, s1.heap.objs.size + 1] := ownOff_put3 hoffI fun q hq => Nat.ne_of_lt (hlt q (.tail _ (.tail _ (.tail _ (.tail _ (.tail _ (.tail _ (.tail _ (.tail _ hq)))))))))
                have N6 := News.sub N5 (mem_new3 (x := (D, listOf zs.toArray 0)))
                clear hlt N5
                k_steps
                unfold Stop
                rename Fr _ _ _ _ => kF; rename News _ _ _ _ => kN
                rename Obj.data _ = Data.cell (some (Value.ref D)) => horw2
                rename Obj => orw2
                obtain ⟨od, md, r, om, t1, t2, ls, kN2, _, _, _⟩ := SetAt.look (s := { s₁ with heap := _ }) kF kN hG2 fun p hp => .tail _ (.tail _ (.tail _ (.tail _ (.tail _ (.tail _ (.tail _ hp))))))
                clear kN
                refine wpAny_Try_except ?_
                k_steps
                unfold Stop
                rename Fr _ _ _ _ => kF; rename News _ _ _ _ => kN
                have hl9 : rs'.length ≤ 5 := by simp at hlen2; omega
                refine pop_last (pre := (I, oI) :: (Sl, listOf sv.toArray 0) :: (D, listOf zs.toArray 0) :: (s1.heap.objs.size + 1 + 1 + 1 + 1, on2) :: (s1.heap.objs.size + 1 + 1 + 1, orw2) :: (s1.heap.objs.size + 1 + 1, oh) :: (s1.heap.objs.size + 1, op) :: []) (post := []) (G := G) kB kF kX kT rfl rfl (by decide) (by rw [List.append_nil]; exact News.sub kN fun p hp => .tail _ (.tail _ (.tail _ hp))) hG2 (by omega) (by rw [List.append_nil]; exact hoffD) fun h' tk' G' kt2 hG3 hoff3 F' N' => ?_
                simp only [List.append_nil, List.cons_append, List.nil_append, List.map_cons, List.map_nil] at N' hoff3
                clear kF kN
                k_steps
                all_goals first
                  | (exfalso; rename (x != x) = true => hbad; simp at hbad; done)
                  | (rename Fr _ _ _ _ => kF; rename News _ _ _ _ => kN
                     exact halt ⟨rfl, hgb2, hos2, _, _, rs', kF, kN, fun y hy => hin2 y (by simp [hy]), _, _, _, _, _, _, _, _, rfl, hon2, horw2, hoh, hzs2, hG3, hoff3, List.forall_mem_cons.mpr ⟨aI, List.forall_mem_cons.mpr ⟨aS, fun _ h => nomatch h⟩⟩, a4, a3, a2, a1⟩)
            · skip
              k_steps
              unfold Stop
              rename Fr _ _ _ _ => kF; rename News _ _ _ _ => kN
              refine ne_names kN (.tail _ (.tail _ (.tail _ (.head _)))) (.head _) hnm2 .nil hin2.ok (fun _ h => nomatch h) (by simp only [units_deeper, units_caller]; decide) ?_
              have sMk : StopMark := True.intro
              by_cases hrs : rs = []
              · rw [decide_eq_true hrs]
                subst hrs
                simp only [Bool.not_true]
                k_steps
                unfold Stop
                rename Fr _ _ _ _ => kF; rename News _ _ _ _ => kN
                obtain ⟨od, md, r, om, t1, t2, ls, kN2, _, _, _⟩ := SetAt.look (s := { s₁ with heap := _ }) kF kN hG2 fun p hp => .tail _ (.tail _ (.tail _ (.tail _ (.tail _ (.tail _ (.tail _ (.tail _ hp)))))))
                clear kN
                refine wpAny_Try_except ?_
                k_steps
                unfold Stop
                rename Fr _ _ _ _ => kF; rename News _ _ _ _ => kN
                refine pop_noneF (pre := (I, oI) :: (Sl, listOf sv.toArray 0) :: (rw, listOf vs2.toArray n2) :: (s1.heap.objs.size + 1 + 1 + 1 + 1, on2) :: (s1.heap.objs.size + 1 + 1 + 1, orw) :: (s1.heap.objs.size + 1 + 1, oh) :: (s1.heap.objs.size + 1, op) :: []) (post := []) (G := G) kB kF kX kT rfl rfl (by decide) (by rw [List.append_nil]; exact News.sub kN fun p hp => .tail _ (.tail _ (.tail _ (.tail _ hp)))) hG2 fun e g h' tk' Fg R hsm => ?_
                refine caught_key (by rfl) rfl kX kT Fg hsm R rfl rfl rfl rfl (by k_is) fun h'' F' N' => ?_
                simp only [List.append_nil, List.cons_append, List.nil_append] at N'
                clear kF kN Fg R hsm
                k_steps
                rename Fr _ _ _ _ => kF; rename News _ _ _ _ => kN
                exact halt ⟨rfl, hgb2, hos2, _, _, [], kF, kN, hin2, _, _, _, _, _, _, _, _, rfl, hon2, horw, hoh, hnm2, hG2, hoffI, hpre3, hap1, hap2, hap3, hap4⟩
              · rw [decide_eq_false hrs]
                obtain ⟨x, rs', rfl⟩ : ∃ x rs', rs = x :: rs' := by
                  cases rs with
                  | nil => exact absurd rfl hrs
                  | cons x r => exact ⟨x, r, rfl⟩
                simp only [Bool.not_false]
                k_steps
                unfold Stop
                rename Fr _ _ _ _ => kF; rename News _ _ _ _ => kN
                refine item_at (ks := x :: rs') kN (.tail _ (.tail _ (.tail _ (.head _)))) hnm2 (by decide) (by decide) rfl (fun t => ?_) (by with_unfolding_all rfl)
                k_steps
                unfold Stop
                rename Fr _ _ _ _ => kF; rename News _ _ _ _ => kN
                refine slice_names (lo := some 1) (hi := none) kF kN (.tail _ (.tail _ (.tail _ (.head _)))) hnm2 (by first | exact .int _ _ | constructor) (by first | exact .none | constructor) (by omega) (fun D h5 zs hzs F5 N5 hlt => ?_) (by with_unfolding_all rfl) (by intro _; rfl)
                have hzs2 : Names zs rs' := by
                  have e : ((x :: rs').drop (kms_lo (some 1) (x :: rs').length)).take (kms_hi none (x :: rs').length - kms_lo (some 1) (x :: rs').length) = rs' := by simp [kms_lo, kms_hi]
                  rw [e] at hzs
                  exact hzs
                clear hzs kF kN
                have aI : Apt I D := Nat.ne_of_lt (hlt (I, oI) (.tail _ (.head _)))
                have aS : Apt Sl D := Nat.ne_of_lt (hlt (Sl, _) (.tail _ (.tail _ (.head _))))
                have a4 : Apt (s1.heap.objs.size + 1 + 1 + 1 + 1) D := Nat.ne_of_lt (hlt (_, on2) (.tail _ (.tail _ (.tail _ (.tail _ (.head _))))))
                have a3 : Apt (s1.heap.objs.size + 1 + 1 + 1) D := Nat.ne_of_lt (hlt (_, orw) (.tail _ (.tail _ (.tail _ (.tail _ (.tail _ (.head _)))))))
                have a2 : Apt (s1.heap.objs.size + 1 + 1) D := Nat.ne_of_lt (hlt (_, oh) (.tail _ (.tail _ (.tail _ (.tail _ (.tail _ (.tail _ (.head _))))))))
                have a1 : Apt (s1.heap.objs.size + 1) D := Nat.ne_of_lt (hlt (_, op) (.tail _ (.tail _ (.tail _ (.tail _ (.tail _ (.tail _ (.tail _ (.head _)))))))))
                have hoffD : OwnOff G [I, Sl, D, s1.heap.objs.size + 1 + 1 + 1 + 1, s1.heap.objs.size + 1 + 1 + 1, s1.heap.objs.size + 1 + 1, s1.heap.objs.size + 1] := ownOff_put3 hoffI fun q hq => Nat.ne_of_lt (hlt q (.tail _ (.tail _ (.tail _ (.tail _ (.tail _ (.tail _ (.tail _ (.tail _ hq)))))))))
                have N6 := News.sub N5 (mem_new3 (x := (D, listOf zs.toArray 0)))
                clear hlt N5
                k_steps
                unfold Stop
                rename Fr _ _ _ _ => kF; rename News _ _ _ _ => kN
                rename Obj.data _ = Data.cell (some (Value.ref D)) => horw2
                rename Obj => orw2
                obtain ⟨od, md, r, om, t1, t2, ls, kN2, _, _, _⟩ := SetAt.look (s := { s₁ with heap := _ }) kF kN hG2 fun p hp => .tail _ (.tail _ (.tail _ (.tail _ (.tail _ (.tail _ (.tail _ hp))))))
                clear kN
                refine wpAny_Try_except ?_
                k_steps
                unfold Stop
                rename Fr _ _ _ _ => kF; rename News _ _ _ _ => kN
                have hl9 : rs'.length ≤ 5 := by simp at hlen2; omega
                refine pop_first (pre := (I, oI) :: (Sl, listOf sv.toArray 0) :: (D, listOf zs.toArray 0) :: (s1.heap.objs.size + 1 + 1 + 1 + 1, on2) :: (s1.heap.objs.size + 1 + 1 + 1, orw2) :: (s1.heap.objs.size + 1 + 1, oh) :: (s1.heap.objs.size + 1, op) :: []) (post := []) (G := G) kB kF kX kT rfl rfl (by decide) (by rw [List.append_nil]; exact News.sub kN fun p hp => .tail _ (.tail _ (.tail _ hp))) hG2 (by omega) (by rw [List.append_nil]; exact hoffD) fun h' tk' G' kt2 hG3 hoff3 F' N' => ?_
                simp only [List.append_nil, List.cons_append, List.nil_append, List.map_cons, List.map_nil] at N' hoff3
                clear kF kN
                k_steps
                all_goals first
                  | (exfalso; rename (x != x) = true => hbad; simp at hbad; done)
                  | (rename Fr _ _ _ _ => kF; rename News _ _ _ _ => kN
                     exact halt ⟨rfl, hgb2, hos2, _, _, rs', kF, kN, fun y hy => hin2 y (by simp [hy]), _, _, _, _, _, _, _, _, rfl, hon2, horw2, hoh, hzs2, hG3, hoff3, List.forall_mem_cons.mpr ⟨aI, List.forall_mem_cons.mpr ⟨aS, fun _ h => nomatch h⟩⟩, a4, a3, a2, a1⟩)
        case C4 =>
          clear kF kN
          obtain ⟨rfl, hgb5, hos5, m5, led, rs5, kF, kN, hin5, on5, orw5, oh5, vs5, n5, rw5, o5, G5, rfl, hon5, horw5, hoh5, hnm5, hG5, hoff5, hpre5, b1, b2, b3, b4⟩ := Halt.out hC3
          simp only [List.cons_append, List.nil_append] at kN
          clear hC3 hG2 hoffI hoff2 hpre2 hpre3 hap1 hap2 hap3 hap4 hlen2
          have hlen5 := rs_len hG5 hin5
          have hsz5 : vs5.toArray.size = rs5.length := by rw [List.size_toArray]; exact hnm5.length
          obtain ⟨od, md, r, om, t1, t2, ls, kN2, _, _, _⟩ := SetAt.look kF kN hG5 fun p hp => .tail _ (.tail _ (.tail _ (.tail _ (.tail _ (.tail _ (.tail _ hp))))))
          clear kN
          (try dsimp only)
          k_steps
          unfold Stop
          rename Fr _ _ _ _ => kF; rename News _ _ _ _ => kN
          refine comp_evalS (by with_unfolding_all rfl) (by decide) (by rfl) (by decide) (by rfl) ?_
          k_steps
          rename Fr _ _ _ _ => kF; rename News _ _ _ _ => kN
          refine compAt_src (fun y => true) (src_set hG5 fun p hp => .tail _ (.tail _ (.tail _ (.tail _ (.tail _ (.tail _ (.tail _ (.tail _ (.tail _ (.tail _ hp)))))))))) kX kT kF kN (by decide) (by omega) (fun C k' t' s₃ m₃ E' hk' hCL hC0 hn hx F3 N3 => forIn_none ⟨rfl, _, _, rfl, fun _ _ e => e⟩) (fun C k' t' s₃ m₃ E' hk' hCL hC0 hn hx F3 N3 => elt_self hn hx rfl rfl (by decide)) (fun n P q Fv wr Gr s₂ hgot hC D ys s' hg => ?_)
          obtain ⟨hys, hlt, F4, N4, hb4, ho4⟩ := hgot D ys s' hg
          have hys2 : Names ys rs5 := by rw [List.filter_eq_self.mpr fun _ _ => rfl] at hys; exact hys
          clear kF kN hys
          k_steps
          unfold Stop
          rename Fr _ _ _ _ => kF; rename News _ _ _ _ => kN
          refine ne_names kN (.head _) (.tail _ (.tail _ (.tail _ (.tail _ (.tail _ (.tail _ (.head _))))))) hys2 hnm5 hin5.ok hin5.ok (by simp only [units_deeper, units_caller]; decide) ?_
          rw [decide_eq_true rfl]
          simp only [Bool.not_true]
          k_steps
          unfold Stop
          rename Fr _ _ _ _ => kF; rename News _ _ _ _ => kN
          refine len_ct kB kF kX kT rfl rfl (by simp only [depth_deeper, depth_caller]; omega) kN hG5 (fun p hp => .tail _ (.tail _ (.tail _ (.tail _ (.tail _ (.tail _ (.tail _ (.tail _ (.tail _ (.tail _ (.tail _ hp))))))))))) (by omega) fun h' tk' lt F' N' => ⟨⟨by omega, by omega⟩, ?_⟩
          clear kF kN
          k_steps
          · exfalso
            first
              | (rename (rs5.length : Int) ≠ _ => hbad; exact hbad rfl)
              | (rename ¬ ((rs5.length : Int) = _) => hbad; exact hbad rfl)
              | (rename (_ : Bool) = true => hbad; simp at hbad; done)
          · unfold Stop
            rename Fr _ _ _ _ => kF; rename News _ _ _ _ => kN
            have hI : InstAt _ o5 (instObj OSa od) OSa (some (setD w t1 t2 r md)) := InstAt.of_news kN (.tail _ (.head _)) (.tail _ (.tail _ (.head _)))
            refine in_K kF kX hI (f := 64) (by k_is) (by k_is) ?_
            refine has_ct kB kF kX kT rfl rfl (by simp only [depth_deeper, depth_caller]; omega) kN hG5 (fun p hp => .tail _ (.tail _ (.tail _ (.tail _ (.tail _ (.tail _ (.tail _ (.tail _ (.tail _ (.tail _ (.tail _ hp))))))))))) fun h' tk' F' N' => ?_
            clear kF kN hI
            by_cases hkm : k ∈ rs5
            · rw [decide_eq_true hkm]
              k_steps
              unfold Stop
              rename Fr _ _ _ _ => kF; rename News _ _ _ _ => kN
              refine in_names kN (.tail _ (.tail _ (.tail _ (.tail _ (.tail _ (.tail _ (.head _))))))) hnm5 ?_
              rw [decide_eq_true hkm]
              k_steps
              rename Fr _ _ _ _ => kF; rename News _ _ _ _ => kN
              exact halt ⟨_, _, kF, News.sub kN fun p hp => .tail _ (.tail _ (.tail _ (.tail _ hp))), List.forall_mem_cons.mpr ⟨Ne.symm (hpre5 I (.head _)), List.forall_mem_cons.mpr ⟨Ne.symm hI4, List.forall_mem_cons.mpr ⟨Ne.symm hI3, List.forall_mem_cons.mpr ⟨Ne.symm hI2, List.forall_mem_cons.mpr ⟨Ne.symm hI1, fun q hq => hoff5 q hq I (.head _)⟩⟩⟩⟩⟩, hb4 hgb5, ho4.trans hos5, _, rs5, hin5, on5, orw5, oh5, vs5, n5, rw5, o5, G5, rfl, hon5, horw5, hoh5, hnm5, hG5, ownOff_less hoff5 (fun a ha => .tail _ ha), fun a ha => hpre5 a (.tail _ ha), b1, b2, b3, b4⟩
            · rw [decide_eq_false hkm]
              k_steps
              unfold Stop
              rename Fr _ _ _ _ => kF; rename News _ _ _ _ => kN
              refine in_names kN (.tail _ (.tail _ (.tail _ (.tail _ (.tail _ (.tail _ (.head _))))))) hnm5 ?_
              rw [decide_eq_false hkm]
              k_steps
              rename Fr _ _ _ _ => kF; rename News _ _ _ _ => kN
              exact halt ⟨_, _, kF, News.sub kN fun p hp => .tail _ (.tail _ (.tail _ (.tail _ hp))), List.forall_mem_cons.mpr ⟨Ne.symm (hpre5 I (.head _)), List.forall_mem_cons.mpr ⟨Ne.symm hI4, List.forall_mem_cons.mpr ⟨Ne.symm hI3, List.forall_mem_cons.mpr ⟨Ne.symm hI2, List.forall_mem_cons.mpr ⟨Ne.symm hI1, fun q hq => hoff5 q hq I (.head _)⟩⟩⟩⟩⟩, hb4 hgb5, ho4.trans hos5, _, rs5, hin5, on5, orw5, oh5, vs5, n5, rw5, o5, G5, rfl, hon5, horw5, hoh5, hnm5, hG5, ownOff_less hoff5 (fun a ha => .tail _ ha), fun a ha => hpre5 a (.tail _ ha), b1, b2, b3, b4⟩
      case done2 =>
        rintro s2 m' news' kF kN ⟨hgb2, hos2, nv, rs, hin2, on, orw, oh, vs2, n2, rw, o, G, rfl, hon, horw, hoh, hnm2, hG2, hoff2, hpre2, hap1, hap2, hap3, hap4⟩
        clear kN' hoff' lG lG2 hG
        have hSrw : Apt Sl rw := hpre2 _ (.head _)
        have hlen2 := rs_len hG2 hin2
        have hsz2 : vs2.toArray.size = rs.length := by rw [List.size_toArray]; exact hnm2.length
        have hlen3 : (0 : Int) ≤ rs.length := Int.natCast_nonneg _
        (try dsimp only)
        refine wpAny_execs_cons ?_
        refine wpAny_mono (E := fun _ _ => False) (Q := fun f s' => Halt (∃ h tk pl plt, f = .next ∧ s' = { s2 with heap := h, toks := tk } ∧ 0 ≤ pl ∧ pl ≤ (rs.length : Int) ∧ Fr s1.heap s1.heap.objs.size h (fun y => if y = "place" then some (.int pl plt) else m' y) ∧ News s1.heap s1.heap.objs.size h ((Sl, listOf sv.toArray 0) :: (rw, listOf vs2.toArray n2) :: (s1.heap.objs.size + 1 + 1 + 1 + 1, on) :: (s1.heap.objs.size + 1 + 1 + 1, orw) :: (s1.heap.objs.size + 1 + 1, oh) :: (s1.heap.objs.size + 1, op) :: G))) ?P1 (fun f s' hP1 => ?P2) fun _ _ h => h.elim
        case P1 =>
          k_steps
          unfold Stop
          rename Fr _ _ _ _ => kF; rename News _ _ _ _ => kN
          refine ne_names kN (.tail _ (.tail _ (.head _))) (.head _) hnm2 .nil hin2.ok (fun _ h => nomatch h) (by simp only [units_deeper, units_caller]; decide) ?_
          by_cases hrs : rs = []
          · rw [decide_eq_true hrs]
            simp only [Bool.not_true]
            k_steps
            rename Fr _ _ _ _ => kF; rename News _ _ _ _ => kN
            exact halt ⟨_, _, _, _, by trivial, rfl, by omega, by omega, kF, News.sub kN fun p hp => .tail _ hp⟩
          · rw [decide_eq_false hrs]
            have hpos : 0 < rs.length := List.length_pos_iff.mpr hrs
            simp only [Bool.not_false]
            k_steps
            have e1 : 0 ≤ pick.fmod (rs.length : Int) := Int.fmod_nonneg_of_pos _ (by omega)
            have e2 : pick.fmod (rs.length : Int) < rs.length := Int.fmod_lt_of_pos _ (by omega)
            rename Fr _ _ _ _ => kF; rename News _ _ _ _ => kN
            exact halt ⟨_, _, _, _, by trivial, rfl, e1, Int.le_of_lt e2, kF, News.sub kN fun p hp => .tail _ hp⟩
        case P2 =>
        clear kF kN
        obtain ⟨h3, tk3, pl, plt, rfl, rfl, hpl0, hpl1, kF, kN⟩ := Halt.out hP1
        clear hP1
        (try dsimp only)
        have sMk : StopMark := True.intro
        refine wpAny_execs_cons ?_
        refine wpAny_mono (E := fun _ _ => False) (Q := fun f s' => Halt (f = .next ∧ AllBare s'.gens ∧ s'.os = s1.os ∧ Fr s1.heap s1.heap.objs.size s'.heap (fun y => if y = "place" then some (.int pl plt) else m' y) ∧ News s1.heap s1.heap.objs.size s'.heap ((Sl, listOf sv.toArray 0) :: (rw, listOf vs2.toArray n2) :: (s1.heap.objs.size + 1 + 1 + 1 + 1, on) :: (s1.heap.objs.size + 1 + 1 + 1, orw) :: (s1.heap.objs.size + 1 + 1, oh) :: (s1.heap.objs.size + 1, op) :: G))) ?T1 (fun f s3 hT1 => ?T2) fun _ _ h => h.elim
        case T1 =>
          k_steps
          unfold Stop
          rename Fr _ _ _ _ => kF; rename News _ _ _ _ => kN
          refine slice_names (lo := none) (hi := some pl) kF kN (.tail _ (.head _)) hnm2 (by first | exact .none | constructor) (by first | exact .int _ _ | constructor) (by omega) (fun D1 h5 zs1 hzs1 F5 N5 hlt1 => ?_) (by with_unfolding_all rfl) (by intro _; rfl)
          clear kF kN
          have hs1 : ∀ k ∈ List.take (kms_hi (some pl) rs.length - kms_lo none rs.length) (List.drop (kms_lo none rs.length) rs), k ∈ rs := slice_in
          have hl1 := slice_len (rs := rs) (a := kms_lo none rs.length) (b := kms_hi (some pl) rs.length - kms_lo none rs.length)
          generalize List.take _ _ = ks1 at hzs1 hs1 hl1
          k_steps
          unfold Stop
          rename Fr _ _ _ _ => kF; rename News _ _ _ _ => kN
          refine add_names kF kN (.tail _ (.head _)) (.head _) hzs1 (.cons _ .nil) (by simp only [List.length_cons, List.length_nil]; omega) (fun D2 h6 zs2 hzs2 F6 N6 hlt2 => ?_)
          clear kF kN
          k_steps
          unfold Stop
          rename Fr _ _ _ _ => kF; rename News _ _ _ _ => kN
          refine slice_names (lo := some (pl + 1)) (hi := none) kF kN (.tail _ (.tail _ (.tail _ (.tail _ (.head _))))) hnm2 (by first | exact .int _ _ | constructor) (by first | exact .none | constructor) (by omega) (fun D3 h7 zs3 hzs3 F7 N7 hlt3 => ?_) (by with_unfolding_all rfl) (by intro _; rfl)
          clear kF kN
          have hs3 : ∀ k ∈ List.take (kms_hi none rs.length - kms_lo (some (pl + 1)) rs.length) (List.drop (kms_lo (some (pl + 1)) rs.length) rs), k ∈ rs := slice_in
          have hl3 := slice_len (rs := rs) (a := kms_lo (some (pl + 1)) rs.length) (b := kms_hi none rs.length - kms_lo (some (pl + 1)) rs.length)
          generalize List.take _ _ = ks3 at hzs3 hs3 hl3
          k_steps
          unfold Stop
          rename Fr _ _ _ _ => kF; rename News _ _ _ _ => kN
          refine add_names kF kN (.tail _ (.head _)) (.head _) hzs2 hzs3 (by simp only [List.length_append, List.length_cons, List.length_nil]; omega) (fun D4 h8 zs4 hzs4 F8 N8 hlt4 => ?_)
          clear kF kN
          k_steps
          unfold Stop
          rename Fr _ _ _ _ => kF; rename News _ _ _ _ => kN
          refine new_ct kB kF kX kT rfl rfl (by decide) kN (src_list (.head _) hzs4) (by simp only [List.length_append, List.length_cons, List.length_nil]; omega) hgb2 fun o2 G2 s3 hG3 hoff3 F3 N3 hb3 ho3 => ?_
          clear kF kN
          k_steps
          unfold Stop
          rename Fr _ _ _ _ => kF; rename News _ _ _ _ => kN
          have hkl := addK_len (ks1 ++ dash ++ ks3) []
          simp only [List.length_append, List.length_cons, List.length_nil] at hkl
          have hdl : dash.length = 1 := rfl
          have hG3' : SetAt PRG w G2 o2 ((ks1 ++ dash ++ ks3).foldl addK []) := hG3
          clear hG3
          have hsub : ∀ k ∈ (ks1 ++ dash ++ ks3).foldl addK [], k ∈ tab ++ dash := foldl_addK_in (fun k hk => by
            rcases List.mem_append.mp hk with hk | hk
            · rcases List.mem_append.mp hk with hk | hk
              · exact List.mem_append_left _ (hin2 k (hs1 k hk))
              · exact List.mem_append_right _ hk
            · exact List.mem_append_left _ (hin2 k (hs3 k hk))) (fun k hk => nomatch hk)
          have hne : rs ≠ (ks1 ++ dash ++ ks3).foldl addK [] := fun e => by
            have h1 : ("-" : Str) ∈ (ks1 ++ dash ++ ks3).foldl addK [] := foldl_addK_sup (.inl (by simp [dash]))
            rw [← e] at h1
            exact dash_not (hin2 _ h1)
          refine set_eq kB kF kX kT rfl rfl (by decide) kN hG2 (fun p hp => List.mem_append_right _ (.tail _ (.tail _ (.tail _ (.tail _ (.tail _ (.tail _ (.tail _ (.tail _ (.tail _ (.tail _ (.tail _ hp)))))))))))) hG3' (fun p hp => List.mem_append_left _ hp) (by omega) (by omega) hin2.ok (fun k hk => dash_ok k (hsub k hk)) (by decide) hb3 fun s4 F4 N4 hb4 ho4 => ?_
          clear kF kN
          rw [decide_eq_false hne]
          k_steps
          rename Fr _ _ _ _ => kF; rename News _ _ _ _ => kN
          exact halt ⟨rfl, hb4, (ho4.trans ho3).trans hos2, kF, News.sub kN fun p hp => List.mem_append_right _ (.tail _ (.tail _ (.tail _ (.tail _ (.tail _ hp)))))⟩
        case T2 =>
        clear kF kN hgb2 hos2
        obtain ⟨rfl, hgb3, hos3, kF, kN⟩ := Halt.out hT1
        clear hT1
        (try dsimp only)
        refine wpAny_execs_cons ?_
        refine wpAny_mono (E := fun _ _ => False) (Q := fun f s' => Halt (∃ ob Gb, f = .next ∧ AllBare s'.gens ∧ s'.os = s1.os ∧ SetAt PRG w Gb ob rs.reverse ∧ (∀ p ∈ Gb, ∀ q ∈ G, p.1 ≠ q.1) ∧ OwnOff Gb [Sl, rw, s1.heap.objs.size + 1 + 1 + 1 + 1, s1.heap.objs.size + 1 + 1 + 1, s1.heap.objs.size + 1 + 1, s1.heap.objs.size + 1] ∧ Fr s1.heap s1.heap.objs.size s'.heap (fun y => if y = "back" then some (.ref ob) else if y = "place" then some (.int pl plt) else m' y) ∧ News s1.heap s1.heap.objs.size s'.heap ((Sl, listOf sv.toArray 0) :: (rw, listOf vs2.toArray n2) :: (s1.heap.objs.size + 1 + 1 + 1 + 1, on) :: (s1.heap.objs.size + 1 + 1 + 1, orw) :: (s1.heap.objs.size + 1 + 1, oh) :: (s1.heap.objs.size + 1, op) :: (G ++ Gb)))) ?B1 (fun f s4 hB1 => ?B2) fun _ _ h => h.elim
        case B1 =>
          k_steps
          unfold Stop
          rename Fr _ _ _ _ => kF; rename News _ _ _ _ => kN
          refine LCg.ListComp_U (F₀ := kF) (by with_unfolding_all rfl) (by decide) (by rfl) (by decide) (by rfl) ?_
          k_steps
          unfold Stop
          rename Fr _ _ _ _ => kF; rename News _ _ _ _ => kN; rename IsRange _ _ _ _ _ _ _ _ => hr
          refine LCg.CompSrc.range (by rfl) kF kN hr (small_one (by omega) (by omega) (by omega) (by omega)) (rangeSize_nat _ _) (by rw [sizeLine_eq]; omega) ?_
          intro g
          refine nm_rest (fun i k => rs.reverse[i]? = some k) (fun i v I oI C oC D m₂ ys h tk E' hi hv hC hx F' N' off ne => ?turn) ?fin
          case turn =>
            clear kF kN hr
            obtain ⟨t, rfl⟩ := hv
            have hi2 : i < rs.length := by omega
            obtain ⟨x, hx2⟩ : ∃ x, rs.reverse[i]? = some x := ⟨_, List.getElem?_eq_getElem (by rw [List.length_reverse]; exact hi2)⟩
            have hx3 : rs[rs.length - 1 - i]? = some x := by rw [← hx2, List.getElem?_reverse hi2]
            k_steps
            unfold Stop
            rename Fr _ _ _ _ => kF; rename News _ _ _ _ => kN
            refine item_at kN (.tail _ (.tail _ (.tail _ (.tail _ (.head _))))) hnm2 (by omega) (by omega) (by
              have e : ((rs.length : Int) - 1 - (0 + (i : Int))).toNat = rs.length - 1 - i := by omega
              rw [e]; exact hx3) (fun t => ?_) (by with_unfolding_all rfl)
            exact LCg.CompEnd.intro kF kN _ (fun p hp => hp) off True.intro ⟨rfl, x, t, rfl, hx2⟩
          case fin =>
            unfold NmDone
            intro ys ks' hn hl hk D h tk F' N' off
            have hks' : ks' = rs.reverse := by
              refine List.ext_getElem? fun i => ?_
              cases q : ks'[i]? with
              | some k => exact (hk i k q).symm
              | none =>
                have := List.getElem?_eq_none_iff.mp q
                rw [List.getElem?_eq_none (by rw [List.length_reverse]; omega)]
            clear kF kN
            k_steps
            unfold Stop
            rename Fr _ _ _ _ => kF; rename News _ _ _ _ => kN
            subst hks'
            refine new_ct kB kF kX kT rfl rfl (by decide) kN (src_list (.head _) hn) (by rw [List.length_reverse]; omega) hgb3 fun ob Gb s4 hGb hoffb F3 N3 hb4 ho4 => ?_
            rw [foldl_nodup (acc := []) (by rw [List.nil_append]; exact nodup_rev hG2.nodup), List.nil_append] at hGb
            have hoffb' : OwnOff Gb (D :: ([Sl, rw, s1.heap.objs.size + 1 + 1 + 1 + 1, s1.heap.objs.size + 1 + 1 + 1, s1.heap.objs.size + 1 + 1, s1.heap.objs.size + 1] ++ G.map (fun (x : Addr × Obj) => x.1))) := hoffb
            clear kF kN hoffb
            k_steps
            rename Fr _ _ _ _ => kF; rename News _ _ _ _ => kN
            refine halt ⟨ob, Gb, by trivial, hb4, ho4.trans hos3, hGb, fun p hp q hq => hoffb' p hp q.1 (.tail _ (List.mem_append_right _ (List.mem_map_of_mem (f := fun (x : Addr × Obj) => x.1) hq))), ownOff_less hoffb' (fun a ha => .tail _ (List.mem_append_left _ ha)), kF, News.sub kN (mem_perm (xs := (Sl, listOf sv.toArray 0) :: (rw, listOf vs2.toArray n2) :: (s1.heap.objs.size + 1 + 1 + 1 + 1, on) :: (s1.heap.objs.size + 1 + 1 + 1, orw) :: (s1.heap.objs.size + 1 + 1, oh) :: (s1.heap.objs.size + 1, op) :: []))⟩
        case B2 =>
        clear kF kN hgb3 hos3
        obtain ⟨ob, Gb, rfl, hgb4, hos4, hGb, hGGb, hoffb, kF, kN⟩ := Halt.out hB1
        clear hB1
        (try dsimp only)
        have hlenb : rs.reverse.length ≤ 5 := by rw [List.length_reverse]; exact hlen2
        have hinb : NamesIn rs.reverse := fun x hx => hin2 x (List.mem_reverse.mp hx)
        refine wpAny_execs_cons ?_
        refine wpAny_mono (E := fun _ _ => False) (Q := fun f s' => Halt (f = .next ∧ AllBare s'.gens ∧ s'.os = s1.os ∧ Fr s1.heap s1.heap.objs.size s'.heap (fun y => if y = "back" then some (.ref ob) else if y = "place" then some (.int pl plt) else m' y) ∧ News s1.heap s1.heap.objs.size s'.heap ((Sl, listOf sv.toArray 0) :: (rw, listOf vs2.toArray n2) :: (s1.heap.objs.size + 1 + 1 + 1 + 1, on) :: (s1.heap.objs.size + 1 + 1 + 1, orw) :: (s1.heap.objs.size + 1 + 1, oh) :: (s1.heap.objs.size + 1, op) :: (G ++ Gb)))) ?D1 (fun f s5 hD1 => ?D2) fun _ _ h => h.elim
        case D1 =>
          k_steps
          unfold Stop
          rename Fr _ _ _ _ => kF; rename News _ _ _ _ => kN
          refine add_names kF kN (.tail _ (.head _)) (.tail _ (.head _)) hnm2 hnm2 (by omega) (fun D1 h5 zs1 hzs1 F5 N5 hlt1 => ?_)
          clear kF kN
          k_steps
          unfold Stop
          rename Fr _ _ _ _ => kF; rename News _ _ _ _ => kN
          refine new_ct kB kF kX kT rfl rfl (by decide) kN (src_list (.head _) hzs1) (by rw [List.length_append]; omega) hgb4 fun o1 G1 s5 hG1 hoff1 F6 N6 hb5 ho5 => ?_
          rw [foldl_double hG2.nodup] at hG1
          clear kF kN
          k_steps
          unfold Stop
          rename Fr _ _ _ _ => kF; rename News _ _ _ _ => kN
          refine set_eq kB kF kX kT rfl rfl (by decide) kN hG2 (fun p hp => List.mem_append_right _ (.tail _ (.tail _ (.tail _ (.tail _ (.tail _ (.tail _ (.tail _ (List.mem_append_left _ hp))))))))) hG1 (fun p hp => List.mem_append_left _ hp) (by omega) (by omega) hin2.ok hin2.ok (by decide) hb5 fun s6 F7 N7 hb6 ho6 => ?_
          clear kF kN
          rw [decide_eq_true rfl]
          k_steps
          unfold Stop
          rename Fr _ _ _ _ => kF; rename News _ _ _ _ => kN
          refine set_eq kB kF kX kT rfl rfl (by decide) kN hG2 (fun p hp => List.mem_append_right _ (.tail _ (.tail _ (.tail _ (.tail _ (.tail _ (.tail _ (.tail _ (List.mem_append_left _ hp))))))))) hGb (fun p hp => List.mem_append_right _ (.tail _ (.tail _ (.tail _ (.tail _ (.tail _ (.tail _ (.tail _ (List.mem_append_right _ hp))))))))) (by omega) (by omega) hin2.ok hinb.ok (by decide) hb6 fun s7 F8 N8 hb7 ho7 => ?_
          clear kF kN
          rw [rev_eq hG2.nodup]
          by_cases hl2 : rs.length < 2
          · rw [decide_eq_true hl2]
            k_steps
            · exfalso
              first
                | omega
                | (simp_all; done)
                | (simp_all; omega)
            · unfold Stop
              rename Fr _ _ _ _ => kF; rename News _ _ _ _ => kN
              refine add_names kF kN (.tail _ (List.mem_append_right _ (.tail _ (.tail _ (.head _))))) (.head _) hnm2 (.cons _ .nil) (by simp only [List.length_cons, List.length_nil]; omega) (fun D2 h9 zs2 hzs2 F9 N9 hlt2 => ?_)
              clear kF kN
              k_steps
              unfold Stop
              rename Fr _ _ _ _ => kF; rename News _ _ _ _ => kN
              refine new_ct kB kF kX kT rfl rfl (by decide) kN (src_list (.head _) hzs2) (by simp only [List.length_append, List.length_cons, List.length_nil]; omega) hb7 fun o3 G3 s8 hG3 hoff3 F10 N10 hb8 ho8 => ?_
              have hG3' : SetAt PRG w G3 o3 ((rs ++ dash).foldl addK []) := hG3
              have hkl := addK_len (rs ++ dash) []
              have hdl : dash.length = 1 := rfl
              simp only [List.length_append, List.length_nil] at hkl
              have hsub : ∀ k ∈ (rs ++ dash).foldl addK [], k ∈ tab ++ dash := foldl_addK_in (fun k hk => by
                rcases List.mem_append.mp hk with hk | hk
                · exact List.mem_append_left _ (hin2 k hk)
                · exact List.mem_append_right _ hk) (fun k hk => nomatch hk)
              have hne : rs ≠ (rs ++ dash).foldl addK [] := fun e => by
                have h1 : ("-" : Str) ∈ (rs ++ dash).foldl addK [] := foldl_addK_sup (.inl (by simp [dash]))
                rw [← e] at h1
                exact dash_not (hin2 _ h1)
              clear kF kN hG3
              k_steps
              unfold Stop
              rename Fr _ _ _ _ => kF; rename News _ _ _ _ => kN
              refine set_eq kB kF kX kT rfl rfl (by decide) kN hG2 (fun p hp => List.mem_append_right _ (.tail _ (.tail _ (List.mem_append_right _ (.tail _ (.tail _ (.tail _ (.tail _ (.tail _ (.tail _ (.tail _ (List.mem_append_left _ hp)))))))))))) hG3' (fun p hp => List.mem_append_left _ hp) (by omega) (by omega) hin2.ok (fun k hk => dash_ok k (hsub k hk)) (by decide) hb8 fun s9 F11 N11 hb9 ho9 => ?_
              clear kF kN
              rw [decide_eq_false hne]
              k_steps
              rename Fr _ _ _ _ => kF; rename News _ _ _ _ => kN
              exact halt ⟨by trivial, hb9, by rw [ho9, ho8]; exact ho7.trans (ho6.trans (ho5.trans hos4)), kF, News.sub kN fun p hp => List.mem_append_right _ (.tail _ (.tail _ (List.mem_append_right _ (.tail _ hp))))⟩
          · rw [decide_eq_false hl2]
            k_steps
            · exfalso
              first
                | omega
                | (simp_all; done)
                | (simp_all; omega)
            · unfold Stop
              rename Fr _ _ _ _ => kF; rename News _ _ _ _ => kN
              refine add_names kF kN (.tail _ (List.mem_append_right _ (.tail _ (.tail _ (.head _))))) (.head _) hnm2 (.cons _ .nil) (by simp only [List.length_cons, List.length_nil]; omega) (fun D2 h9 zs2 hzs2 F9 N9 hlt2 => ?_)
              clear kF kN
              k_steps
              unfold Stop
              rename Fr _ _ _ _ => kF; rename News _ _ _ _ => kN
              refine new_ct kB kF kX kT rfl rfl (by decide) kN (src_list (.head _) hzs2) (by simp only [List.length_append, List.length_cons, List.length_nil]; omega) hb7 fun o3 G3 s8 hG3 hoff3 F10 N10 hb8 ho8 => ?_
              have hG3' : SetAt PRG w G3 o3 ((rs ++ dash).foldl addK []) := hG3
              have hkl := addK_len (rs ++ dash) []
              have hdl : dash.length = 1 := rfl
              simp only [List.length_append, List.length_nil] at hkl
              have hsub : ∀ k ∈ (rs ++ dash).foldl addK [], k ∈ tab ++ dash := foldl_addK_in (fun k hk => by
                rcases List.mem_append.mp hk with hk | hk
                · exact List.mem_append_left _ (hin2 k hk)
                · exact List.mem_append_right _ hk) (fun k hk => nomatch hk)
              have hne : rs ≠ (rs ++ dash).foldl addK [] := fun e => by
                have h1 : ("-" : Str) ∈ (rs ++ dash).foldl addK [] := foldl_addK_sup (.inl (by simp [dash]))
                rw [← e] at h1
                exact dash_not (hin2 _ h1)
              clear kF kN hG3
              k_steps
              unfold Stop
              rename Fr _ _ _ _ => kF; rename News _ _ _ _ => kN
              refine set_eq kB kF kX kT rfl rfl (by decide) kN hG2 (fun p hp => List.mem_append_right _ (.tail _ (.tail _ (List.mem_append_right _ (.tail _ (.tail _ (.tail _ (.tail _ (.tail _ (.tail _ (.tail _ (List.mem_append_left _ hp)))))))))))) hG3' (fun p hp => List.mem_append_left _ hp) (by omega) (by omega) hin2.ok (fun k hk => dash_ok k (hsub k hk)) (by decide) hb8 fun s9 F11 N11 hb9 ho9 => ?_
              clear kF kN
              rw [decide_eq_false hne]
              k_steps
              rename Fr _ _ _ _ => kF; rename News _ _ _ _ => kN
              exact halt ⟨by trivial, hb9, by rw [ho9, ho8]; exact ho7.trans (ho6.trans (ho5.trans hos4)), kF, News.sub kN fun p hp => List.mem_append_right _ (.tail _ (.tail _ (List.mem_append_right _ (.tail _ hp))))⟩
        case D2 =>
        clear kF kN hgb4 hos4
        obtain ⟨rfl, hgb5, hos5, kF, kN⟩ := Halt.out hD1
        clear hD1
        (try dsimp only)
        refine wpAny_execs_cons ?_
        refine wpAny_mono (E := fun _ _ => False) (Q := fun f s' => Halt (∃ G9 Dt vt, f = .next ∧ AllBare s'.gens ∧ s'.os = s1.os ∧ SetAt PRG w G9 o [] ∧ Names vt rs.reverse ∧ Fr s1.heap s1.heap.objs.size s'.heap (fun y => if y = "told" then some (.ref Dt) else if y = "back" then some (.ref ob) else if y = "place" then some (.int pl plt) else m' y) ∧ News s1.heap s1.heap.objs.size s'.heap ((Dt, listOf vt.toArray vt.length) :: (Sl, listOf sv.toArray 0) :: (rw, listOf vs2.toArray n2) :: (s1.heap.objs.size + 1 + 1 + 1 + 1, on) :: (s1.heap.objs.size + 1 + 1 + 1, orw) :: (s1.heap.objs.size + 1 + 1, oh) :: (s1.heap.objs.size + 1, op) :: (G9 ++ Gb)))) ?T9 (fun f s6 hT9 => ?R9) fun _ _ h => h.elim
        case T9 =>
          refine LCg.Assign_ListComp_U (F₀ := kF) (by rfl) (by with_unfolding_all rfl) (by with_unfolding_all rfl) (by decide) (by rfl) (by decide) (by rfl) (by rfl) (by rfl) ?_
          k_steps
          unfold Stop
          rename Fr _ _ _ _ => kF; rename News _ _ _ _ => kN; rename IsRange _ _ _ _ _ _ _ _ => hr
          refine LCg.CompSrc.range (by rfl) kF kN hr (small_one (by omega) (by omega) (by omega) (by omega)) (rangeSize_nat _ _) (by rw [sizeLine_eq]; omega) ?_
          intro g
          have hn9 : ((rs.length : Int) - 0).toNat = rs.length := by omega
          rw [hn9]
          refine pop_rest (pre := (Sl, listOf sv.toArray 0) :: (rw, listOf vs2.toArray n2) :: (s1.heap.objs.size + 1 + 1 + 1 + 1, on) :: (s1.heap.objs.size + 1 + 1 + 1, orw) :: (s1.heap.objs.size + 1 + 1, oh) :: (s1.heap.objs.size + 1, op) :: []) (Gb := Gb) (G := G) hG2 (by
            have h9 : OwnOff G ([Sl, rw, s1.heap.objs.size + 1 + 1 + 1 + 1, s1.heap.objs.size + 1 + 1 + 1, s1.heap.objs.size + 1 + 1, s1.heap.objs.size + 1] ++ Gb.map (fun (x : Addr × Obj) => x.1)) := fun q hq b hb => by
              rcases List.mem_append.mp hb with hb | hb
              · exact hoff2 q hq b hb
              · obtain ⟨p, hp, rfl⟩ := List.mem_map.mp hb
                exact Ne.symm (hGGb p hp q hq)
            exact h9) ?turn ?fin
          case turn =>
            intro ks x' Gc i v I oI C oC D m₂ ys h tk E' hGc hlc hoc hv hC hx F' N' off ne
            clear kF kN hr
            obtain ⟨od, md, r, om, t1, t2, ls, kN2, _, _, _⟩ := SetAt.look (s := { s1 with heap := h }) F' N' hGc fun p hp => .tail _ (.tail _ (.tail _ (List.mem_append_right _ (List.mem_append_left _ hp))))
            simp only [List.cons_append, List.nil_append] at kN2
            k_steps
            unfold Stop
            rename Fr _ _ _ _ => kF; rename News _ _ _ _ => kN
            show wpAny _ _ (call (.ref 100) [.ref o]) _ _ _
            refine pop_last (pre := (I, oI) :: (C, oC) :: (D, LCg.lst ys) :: (Sl, listOf sv.toArray 0) :: (rw, listOf vs2.toArray n2) :: (s1.heap.objs.size + 1 + 1 + 1 + 1, on) :: (s1.heap.objs.size + 1 + 1 + 1, orw) :: (s1.heap.objs.size + 1 + 1, oh) :: (s1.heap.objs.size + 1, op) :: []) (post := Gb) (G := Gc) kB kF kX kT rfl rfl (by decide) (News.sub kN fun p hp => .tail _ (.tail _ (.tail _ hp))) hGc (by omega) (fun q hq b hb => by
              have h3 := LCg.Off3.mem off q (List.mem_append_right _ (List.mem_append_left _ hq))
              rcases List.mem_cons.mp hb with rfl | hb
              · exact h3.1
              rcases List.mem_cons.mp hb with rfl | hb
              · exact h3.2.1
              rcases List.mem_cons.mp hb with rfl | hb
              · exact h3.2.2
              exact hoc q hq b hb) fun h' tk' G' kt2 hG3 hoff3 F6 N6 => ?_
            clear kF kN
            k_steps
            unfold Stop
            rename Fr _ _ _ _ => kF; rename News _ _ _ _ => kN
            refine LCg.CompEnd.intro kF kN _ (fun p hp => hp) ?off True.intro (halt ⟨G', kt2, rfl, rfl, hG3, fun q hq b hb => hoff3 q hq b (.tail _ (.tail _ (.tail _ hb)))⟩)
            refine LCg.Off3.of fun p hp => ?_
            rcases List.mem_append.mp hp with h | h
            · exact LCg.Off3.mem off p (List.mem_append_left _ h)
            rcases List.mem_append.mp h with h | h
            · exact ⟨hoff3 p h I (.head _), hoff3 p h C (.tail _ (.head _)), hoff3 p h D (.tail _ (.tail _ (.head _)))⟩
            · exact LCg.Off3.mem off p (List.mem_append_right _ (List.mem_append_right _ h))
          case fin =>
            unfold NmDone
            intro ys Gn hn hs9 ho9 D h tk F' N' off
            refine halt ⟨Gn, D, ys, rfl, hgb5, hos5, hs9, hn, F', N'⟩
        case R9 =>
        clear kF kN hgb5 hos5
        obtain ⟨G9, Dt, vt, rfl, hgb6, hos6, hG9, hvt, kF, kN⟩ := Halt.out hT9
        clear hT9
        (try dsimp only)
        k_steps
        unfold Stop
        rename Fr _ _ _ _ => kF; rename News _ _ _ _ => kN
        refine comp_evalS (by with_unfolding_all rfl) (by decide) (by rfl) (by decide) (by rfl) ?_
        k_steps
        rename Fr _ _ _ _ => kF; rename News _ _ _ _ => kN
        refine compAt_src (fun y => true) (src_set hGb fun p hp => .tail _ (.tail _ (.tail _ (.tail _ (.tail _ (.tail _ (.tail _ (List.mem_append_right _ hp)))))))) kX kT kF kN (by decide) (by first | omega | (simp only [List.length_nil]; omega)) (fun C k' t' s₃ m₃ E' hk' hCL hC0 hn hx F3 N3 => forIn_none ⟨rfl, _, _, rfl, fun _ _ e => e⟩) (fun C k' t' s₃ m₃ E' hk' hCL hC0 hn hx F3 N3 => elt_self hn hx rfl rfl (by decide)) (fun n P q Fv wr Gr s₂ hgot hC u1D u1ys u1s hg => ?_)
        obtain ⟨u1h, u1lt, u1F, u1N, u1b, u1o⟩ := hgot u1D u1ys u1s hg
        rw [List.filter_eq_self.mpr fun _ _ => rfl] at u1h
        clear kF kN hgot hC hg
        k_steps
        unfold Stop
        rename Fr _ _ _ _ => kF; rename News _ _ _ _ => kN
        refine eq_names kN (.tail _ (.head _)) (.head _) hvt u1h hinb.ok hinb.ok (by simp only [units_deeper, units_caller]; decide) ?_
        rw [decide_eq_true rfl]
        k_steps
        unfold Stop
        rename Fr _ _ _ _ => kF; rename News _ _ _ _ => kN
        refine comp_evalS (by with_unfolding_all rfl) (by decide) (by rfl) (by decide) (by rfl) ?_
        k_steps
        rename Fr _ _ _ _ => kF; rename News _ _ _ _ => kN
        refine compAt_src (fun y => true) (src_set hG9 fun p hp => .tail _ (.tail _ (.tail _ (.tail _ (.tail _ (.tail _ (.tail _ (.tail _ (List.mem_append_left _ hp))))))))) kX kT kF kN (by decide) (by first | omega | (simp only [List.length_nil]; omega)) (fun C k' t' s₃ m₃ E' hk' hCL hC0 hn hx F3 N3 => forIn_none ⟨rfl, _, _, rfl, fun _ _ e => e⟩) (fun C k' t' s₃ m₃ E' hk' hCL hC0 hn hx F3 N3 => elt_self hn hx rfl rfl (by decide)) (fun n P q Fv wr Gr s₂ hgot hC u2D u2ys u2s hg => ?_)
        obtain ⟨u2h, u2lt, u2F, u2N, u2b, u2o⟩ := hgot u2D u2ys u2s hg
        rw [List.filter_eq_self.mpr fun _ _ => rfl] at u2h
        clear kF kN hgot hC hg
        k_steps
        unfold Stop
        rename Fr _ _ _ _ => kF; rename News _ _ _ _ => kN
        refine eq_names kN (.tail _ (.head _)) (.head _) u2h .nil (fun _ h => nomatch h) (fun _ h => nomatch h) (by simp only [units_deeper, units_caller]; decide) ?_
        rw [decide_eq_true rfl]
        k_steps
        rename Fr _ _ _ _ => kF; rename News _ _ _ _ => kN
        show GoodWG PySem.Challenge.rw_jv0045_01.row.claim _ _ [ofPy (PyData.list (List.map PyData.int sns))] s1 (Except.ok (Flow.ret (Value.bool true))) _
        refine ⟨.inl ⟨_, .bool true, [], rfl, fun _ => rfl, .bool true, ?_, fun _ => ⟨List.nodup_nil, fun _ h => nomatch h⟩⟩, .of_keep kF.keep, ?_, ?_⟩
        · first | rfl | wrow_post
        · exact (u2o.trans u1o).trans hos6
        · exact u2b (u1b hgb6)
    ))

end SLawX
end Mine
theorem PySem.Challenge.cw_jv0045_01_holds : PySem.Challenge.rw_jv0045_01.Holds := by
  exact Mine.law_try
