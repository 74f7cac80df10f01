import PyProof.Rows.All
import Wide.All
import OpenK.AllK
import Wide.FinOn
import PySem.Challenge.RW_op0066_01
open PySem PySem.W PyProof.Rows PySem.Calls
set_option Elab.async false
set_option maxRecDepth 100000
set_option maxHeartbeats 8000000
set_option linter.unusedVariables false

-- part Toks
open PySem
namespace Mine

theorem setGen_toks (s : Shared) (g : Nat) (x : GenState) : (s.setGen g x).toks = s.toks := rfl

theorem runs_toks {M : Model} {Γ : Ctx} {p : Pos} {t : Sem Fin} {fs : List Frame} {s : Shared} {e : End} {s' : Shared}
    (h : Runs M Γ p t fs s e s') : s.toks ≤ s'.toks := by
  induction h <;> (try simp only [setGen_toks] at *) <;> (try dsimp only at *) <;> first | exact Nat.le_refl _ | assumption | omega | (exact Nat.le_trans (by assumption) (by assumption))

theorem wakes_toks {M : Model} {Γ : Ctx} {p : Pos} {g : Nat} {r : Resume} {s : Shared} {res : GenResult} {s' : Shared}
    (h : Wakes M Γ p g r s res s') : s.toks ≤ s'.toks := by
  unfold Wakes at h
  split at h
  · exact h.elim
  · split at h
    · obtain ⟨e₁, s₁, hr, _, _, rfl⟩ := h
      have := runs_toks hr
      simpa only [setGen_toks] using this
    · rw [h.2]; exact Nat.le_refl _
    · rw [h.2]; exact Nat.le_refl _
  · obtain ⟨e₁, s₁, hr, _, _, rfl⟩ := h
    have := runs_toks hr
    simpa only [setGen_toks] using this
  · rw [h.2]; exact Nat.le_refl _
  · rw [h.2]; exact Nat.le_refl _

theorem wp_toks {α : Type} {M : Model} {Γ : Ctx} (n : Nat) (t : Sem α) {Q : α → Pos → Shared → Prop} {E : Value → Pos → Shared → Prop} :
    ∀ {p : Pos} {s : Shared}, n ≤ s.toks → Sem.wp M Γ t (fun a p s' => n ≤ s'.toks → Q a p s') (fun e p s' => n ≤ s'.toks → E e p s') p s → Sem.wp M Γ t Q E p s := by
  induction t with
  | pure a => intro p s hn h; exact h hn
  | raise e => intro p s hn h; exact h hn
  | unsupported _ => intro p s hn h; exact h
  | finish _ => intro p s hn h; exact h
  | rule _ k ih => intro p s hn h; exact ih () hn h
  | «at» p' k ih => intro p s hn h; exact ih () hn h
  | load a _ k ih => intro p s hn h; obtain ⟨o, ho, h⟩ := h; exact ⟨o, ho, ih o hn h⟩
  | update a _ f k ih => intro p s hn h; exact ⟨h.1, ih () hn h.2⟩
  | loadIfAlive a k ih => intro p s hn h; exact ih _ hn h
  | point _ k ih => intro p s hn h; exact ih _ hn h
  | register _ _ => intro p s hn h; exact h
  | alloc o k ih => intro p s hn h; exact ih _ hn h
  | fresh k ih => intro p s hn h; exact ih _ (Nat.le_succ_of_le hn) h
  | ask k ih => intro p s hn h; exact ih _ hn h
  | choose src m k ih => intro p s hn h; exact ⟨h.1, ih _ hn h.2⟩
  | os q _ k ih => intro p s hn h; exact ih _ hn h
  | call c hd _ _ k ih =>
    intro p s hn h
    obtain ⟨r, s', hr, h⟩ := h
    exact ⟨r, s', hr, ih r (Nat.le_trans hn (runs_toks hr)) h⟩
  | handled own k ih => intro p s hn h; exact ih _ hn h
  | genState g k ih => intro p s hn h; obtain ⟨o, ho, h⟩ := h; exact ⟨o, ho, ih _ hn h⟩
  | newGen c k ih => intro p s hn h; exact ih _ hn h
  | resume g r _ k ih =>
    intro p s hn h
    obtain ⟨res, s', hr, h⟩ := h
    exact ⟨res, s', hr, ih res (Nat.le_trans hn (wakes_toks hr)) h⟩
  | yield => intro p s hn h; exact h
  | stack k ih => intro p s hn h; exact ih _ hn h
  | fork => intro p s hn h; exact h
  | thread k ih => intro p s hn h; exact ih _ hn h
  | await => intro p s hn h; exact h

/-- toks never fall: what comes back may be told so -/
theorem wpAny_toks {α : Type} {M : Model} {A : Around} {t : Sem α} {Q : α → Shared → Prop} {E : Value → Shared → Prop} {s : Shared} (n : Nat) (hn : n ≤ s.toks)
    (h : wpAny M A t (fun a s' => n ≤ s'.toks → Q a s') (fun e s' => n ≤ s'.toks → E e s') s) : wpAny M A t Q E s :=
  fun Γ p hΓ => wp_toks n t hn (h Γ p hΓ)
theorem codeAny_toks {M : Model} {A : Around} {c : Code} {R : Result → Shared → Prop} {s : Shared} (n : Nat) (hn : n ≤ s.toks)
    (h : codeAny M A c (fun r s' => n ≤ s'.toks → R r s') s) : codeAny M A c R s :=
  fun Γ p hc hΓ => let ⟨r, s', hr, h⟩ := h Γ p hc hΓ; ⟨r, s', hr, h (Nat.le_trans hn (runs_toks hr))⟩
end Mine

-- part Hd
namespace Mine
set_option maxRecDepth 100000 in
set_option maxHeartbeats 8000000 in
open_top hd for PySem.Challenge.rw_op0066_01
end Mine

-- part Base
namespace Mine
abbrev PG : Program := PySem.Challenge.rw_op0066_01.row.prog
noncomputable abbrev KK (w : World) : Frag := hd.heap_39 w.params

/-- entering a def (a closure too); nothing of the caller's heap changes -/
theorem enter {prog : Program} {w : World} {A : Around} {E : Value → Shared → Prop} {s : Shared} {Q : Value → Shared → Prop} {name qual : Str} {params : Arguments} {body : List Stmt} {scope : Scope}
    {cl : List (Str × Addr)} {dV kV doc pm cdv ct : Value} {an : Option Addr} {fo : Obj} {f : Addr} {pos : List Value} {binds : List (Str × Value)}
    (hroom : A.depth < recursionLimit) (hlim : s.heap.NoLimit) (ho : s.heap.get? f = some fo) (hd : fo.data = .func (fnX name qual params body scope cl dV kV doc pm an cdv ct)) (hcd : s.heap.CodeRec cdv qual)
    (hbind : BindsTo s (fnX name qual params body scope cl dV kV doc pm an cdv ct) ⟨pos, []⟩ binds) (hloc : ∀ y ∈ binds, scope.names.lookup y.1 = some .local)
    (hcell : ∀ x ∈ scope.names, x.2 ≠ .cell) (hco : scope.isCoroutine = false) (hgen : scope.isGenerator = false) (hk : scope.kind = .function)
    (h : ∀ h₁, Fr s.heap s.heap.objs.size h₁ (fun y => binds.reverse.lookup y) →
      wpAny (model prog w) (A.deeper (envX qual scope s.heap.objs.size f cdv cl)) (execs body (envX qual scope s.heap.objs.size f cdv cl))
        (fun fl s' => Q (match fl with | .ret v => v | _ => .none) s') (fun _ _ => False) { s with heap := h₁, toks := s.toks + binds.length }) :
    wpAny (model prog w) A (call (.ref f) pos) Q E s := by
  refine wpAny_call (codeAny_call_def (fd := fnX name qual params body scope cl dV kV doc pm an cdv ct) (body := body) (binds := binds) hroom ho hd hlim hcd rfl hbind hcell hloc (fun h₁ hns hk₁ => ?_) hco hgen hk)
  exact wpAny_mono (h h₁ ⟨hns, hk₁, Nat.le_refl _⟩) (fun _ _ x => x) (fun _ _ x => x.elim)

/-- cutting a statement off -/
theorem cut {M : Model} {A : Around} {env : Env} {st : Stmt} {rest : List Stmt} {Q : Flow → Shared → Prop} {E : Value → Shared → Prop} {s : Shared} (P : Shared → Prop)
    (h1 : wpAny M A (exec st env) (fun f s' => f = .next ∧ P s') E s) (h2 : ∀ s', P s' → wpAny M A (execs rest env) Q E s') : wpAny M A (execs (st :: rest) env) Q E s :=
  wpAny_execs_cons (wpAny_mono h1 (fun f s' hf => by obtain ⟨rfl, hp⟩ := hf; exact h2 s' hp) fun _ _ e => e)
/-- the same; toks have not fallen -/
theorem cutT {M : Model} {A : Around} {env : Env} {st : Stmt} {rest : List Stmt} {Q : Flow → Shared → Prop} {E : Value → Shared → Prop} {s : Shared} (n : Nat) (P : Shared → Prop) (hn : n ≤ s.toks)
    (h1 : wpAny M A (exec st env) (fun f s' => n ≤ s'.toks → f = .next ∧ P s') (fun e s' => n ≤ s'.toks → E e s') s) (h2 : ∀ s', P s' → wpAny M A (execs rest env) Q E s') : wpAny M A (execs (st :: rest) env) Q E s :=
  cut P (wpAny_toks n hn h1) h2
end Mine

-- part Rep
namespace Mine
/-- replacing, as a list function: y by z, from the left; s signs are still to be skipped -/
def repS (y z : List Nat) : Nat → List Nat → List Nat
  | _, [] => []
  | s + 1, _ :: l => repS y z s l
  | 0, c :: l => if y.isPrefixOf (c :: l) then z ++ repS y z (y.length - 1) l else c :: repS y z 0 l
theorem repS_skip (y z : List Nat) : ∀ (s : Nat) (l : List Nat), repS y z s l = repS y z 0 (l.drop s)
  | 0, l => by rw [List.drop_zero]
  | s + 1, [] => by rw [List.drop_nil]; rfl
  | s + 1, c :: l => by rw [List.drop_succ_cons]; exact repS_skip y z s l
theorem repS_len (y z : List Nat) : ∀ (s : Nat) (l : List Nat), (repS y z s l).length ≤ l.length + l.length * z.length
  | _, [] => by unfold repS; exact Nat.zero_le _
  | s + 1, _ :: l => by
    unfold repS
    have := repS_len y z s l
    rw [List.length_cons, Nat.add_mul, Nat.one_mul]; omega
  | 0, c :: l => by
    unfold repS
    rw [List.length_cons, Nat.add_mul, Nat.one_mul]
    split
    · have := repS_len y z (y.length - 1) l
      rw [List.length_append]; omega
    · have := repS_len y z 0 l
      rw [List.length_cons]; omega
theorem pre_at (y l : List Nat) : y.isPrefixOf l = (l.take y.length == y) := by
  rw [Bool.eq_iff_iff, List.isPrefixOf_iff_prefix, beq_iff_eq, List.prefix_iff_eq_take]
  exact ⟨fun h => h.symm, fun h => h.symm⟩
open StrLaws in
theorem at_iff (x y : Str) (hy : 1 ≤ y.length) (k : Nat) : At x y x.length k ↔ (k < x.length ∧ y.cps.toList.isPrefixOf (x.cps.toList.drop k) = true) := by
  rw [pre_at]
  have hyl : y.cps.toList.length = y.length := Array.length_toList
  have hxl : x.cps.toList.length = x.length := Array.length_toList
  show (k + y.length ≤ x.length ∧ Builtin.Str.subAt x y k = true) ↔ _
  rw [subAt_eq, hyl]
  constructor
  · rintro ⟨h1, h2⟩; exact ⟨by omega, h2⟩
  · rintro ⟨h1, h2⟩
    refine ⟨?_, h2⟩
    have h3 := congrArg List.length (eq_of_beq h2)
    rw [List.length_take, List.length_drop, hyl, hxl] at h3
    omega
open StrLaws in
theorem rep_free (x y : Str) (z : List Nat) (hy : 1 ≤ y.length) (b : Nat) (hb : b ≤ x.length) : ∀ (n a : Nat), a + n = b → (∀ k, a ≤ k → k < b → ¬ At x y x.length k) →
    repS y.cps.toList z 0 (x.cps.toList.drop a) = (x.cps.toList.drop a).take n ++ repS y.cps.toList z 0 (x.cps.toList.drop b)
  | 0, a, e, _ => by
    have : a = b := by omega
    subst this
    rw [List.take_zero, List.nil_append]
  | n + 1, a, e, h => by
    have hxl : x.cps.toList.length = x.length := Array.length_toList
    have hlt : a < x.cps.toList.length := by omega
    have ih := rep_free x y z hy b hb n (a + 1) (by omega) (fun k h1 h2 => h k (by omega) h2)
    have hn := h a (Nat.le_refl _) (by omega)
    rw [at_iff x y hy] at hn
    rw [List.drop_eq_getElem_cons hlt] at hn ⊢
    conv => lhs; unfold repS
    rw [if_neg (fun hh => hn ⟨by omega, hh⟩), List.take_succ_cons, List.cons_append, ih]
open StrLaws in
theorem rep_at (x y : Str) (z : List Nat) (hy : 1 ≤ y.length) (k : Nat) (h : At x y x.length k) :
    repS y.cps.toList z 0 (x.cps.toList.drop k) = z ++ repS y.cps.toList z 0 (x.cps.toList.drop (k + y.length)) := by
  have hxl : x.cps.toList.length = x.length := Array.length_toList
  have hyl : y.cps.toList.length = y.length := Array.length_toList
  obtain ⟨h1, h2⟩ := (at_iff x y hy k).mp h
  have hlt : k < x.cps.toList.length := by omega
  rw [List.drop_eq_getElem_cons hlt] at h2 ⊢
  conv => lhs; unfold repS
  rw [if_pos h2, repS_skip, List.drop_drop, hyl]
  congr 3
  omega
open StrLaws in
theorem rep_chain (x y z : Str) (hy : 1 ≤ y.length) : ∀ (cuts : List Nat) (a f : Nat), a ≤ x.length → ChainG x y x.length a cuts f → (∀ k, f ≤ k → ¬ At x y x.length k) →
    (Str.join z (partsFrom x y.length a cuts)).cps.toList = repS y.cps.toList z.cps.toList 0 (x.cps.toList.drop a)
  | [], a, f, ha, hc, hn => by
    have hxl : x.cps.toList.length = x.length := Array.length_toList
    have e : f = a := hc
    subst e
    show (Builtin.Str.strSub x f x.length).cps.toList = _
    rw [strSub_toList, rep_free x y z.cps.toList hy x.length (Nat.le_refl _) (x.length - f) f (by omega) (fun k h1 _ => hn k h1), ← hxl, List.drop_length]
    unfold repS
    rw [List.append_nil]
  | c :: r, a, f, ha, hc, hn => by
    obtain ⟨p, q, hpq⟩ := partsFrom_ne x y.length (c + y.length) r
    have hc1 : c + y.length ≤ x.length := hc.2.1.1
    have ih := rep_chain x y z hy r (c + y.length) f hc1 hc.2.2.2 hn
    have e : Str.join z (partsFrom x y.length a (c :: r)) = Builtin.Str.strSub x a c ++ z ++ Str.join z (partsFrom x y.length (c + y.length) r) := by
      show Str.join z (Builtin.Str.strSub x a c :: partsFrom x y.length (c + y.length) r) = _
      rw [hpq]
      rfl
    have h1 := hc.1
    rw [e, Str.cps_append, Str.cps_append, Array.toList_append, Array.toList_append, strSub_toList, ih, rep_free x y z.cps.toList hy c (by omega) (c - a) a (by omega) (fun k h1 h2 => hc.2.2.1 k h1 h2), rep_at x y z.cps.toList hy c hc.2.1, List.append_assoc]
open StrLaws in
theorem replace_rep (x y z : Str) (hy : 1 ≤ y.length) : (Txt.replace x y z).cps.toList = repS y.cps.toList z.cps.toList 0 x.cps.toList := by
  obtain ⟨f, hG, hn⟩ := occ_tight x y hy
  have key := rep_chain x y z hy _ 0 f (Nat.zero_le _) hG hn
  rw [List.drop_zero] at key
  rw [← key]
  have h0 : (y.length == 0) = false := by rw [beq_eq_false_iff_ne]; omega
  unfold Txt.replace
  rw [h0, Bool.false_and, Bool.or_false]
  split
  · rename_i he
    rw [List.isEmpty_iff.mp he]
    show _ = (Builtin.Str.strSub x 0 x.length).cps.toList
    rw [sub_whole]
  · rw [glued_eq_join, partsBetween_eq]
theorem replace_len (x y z : Str) (hy : 1 ≤ y.length) : (Txt.replace x y z).length ≤ x.length + (x.length + 1) * z.length := by
  have h := repS_len y.cps.toList z.cps.toList 0 x.cps.toList
  rw [← replace_rep x y z hy] at h
  have e : ∀ a : Str, a.cps.toList.length = a.length := fun a => Array.length_toList
  rw [e, e, e] at h
  rw [Nat.add_mul]
  omega
theorem replace_none (x y z : Str) (h : (!(Builtin.Str.occurrences x y 0 x.length 1).isEmpty) = false) (hy : 1 ≤ y.length) : Txt.replace x y z = x := by
  have hn : ¬ ∃ i, i + y.length ≤ x.length ∧ Builtin.Str.subAt x y i = true := fun e => by
    rw [(StrLaws.found_iff x y).mpr e] at h
    cases h
  obtain ⟨f, hG, _⟩ := StrLaws.occ_tight x y hy
  unfold Txt.replace
  cases ho : Builtin.Str.occurrences x y 0 x.length (x.length + 1) with
  | nil => rfl
  | cons c r =>
    rw [ho] at hG
    exact absurd ⟨c, hG.2.1⟩ hn
end Mine

-- part Esc
namespace Mine

/-- the frame of _escape_attrib between two of its ifs -/
def EscP (s : Shared) (x : Str) (s' : Shared) : Prop :=
  ∃ h' tk' t, s' = { s with heap := h', toks := tk' } ∧ Fr s.heap s.heap.objs.size h' (fun y => if y = Str.ofString "text" then some (.str x t) else none) ∧ s.toks ≤ tk'

theorem replace_grows {x y z : Str} {a b n : Nat} (hx : x.length ≤ a) (hz : z.length ≤ b) (hn : a + (a + 1) * b ≤ n) (hy : 1 ≤ y.length := by decide) : (Txt.replace x y z).length ≤ n := by
  refine Nat.le_trans (replace_len x y z hy) (Nat.le_trans ?_ hn)
  exact Nat.add_le_add hx (Nat.mul_le_mul (Nat.succ_le_succ hx) hz)

theorem escp_same {s : Shared} {x y : Str} {h : Heap} {tk : Nat} {t : Tok} (e : y = x) (F : Fr s.heap s.heap.objs.size h (fun y => if y = Str.ofString "text" then some (.str x t) else none)) (hle : s.toks ≤ tk) :
    EscP s y { s with heap := h, toks := tk } := by subst e; exact ⟨h, tk, t, rfl, F, hle⟩
theorem escp_set {s : Shared} {x y : Str} {h : Heap} {tk : Nat} {t t' : Tok}
    (F : Fr s.heap s.heap.objs.size h (fun z => if z = Str.ofString "text" then some (.str y t') else if z = Str.ofString "text" then some (.str x t) else none)) (hle : s.toks ≤ tk) :
    EscP s y { s with heap := h, toks := tk } := by
  refine ⟨h, tk, t', rfl, ?_, hle⟩
  have e : (fun z => if z = Str.ofString "text" then some (Value.str y t') else if z = Str.ofString "text" then some (.str x t) else none) = fun z => if z = Str.ofString "text" then some (.str y t') else none := by
    funext z; split <;> rfl
  rwa [e] at F

local macro_rules | `(tactic| walk_at "mine escif") => `(tactic| (
  (iterate 6 walk1)
  (dsimp only)
  (refine split_bool (fun hc => ?_) (fun hc => ?_))
  ((refine wpAny_execs_cons ?_); (iterate 11 walk1); (dsimp only [List.cons_append, List.nil_append]); walk1; (refine wpAny_execs_nil ?_); intro hle; exact ⟨rfl, escp_set (by assumption) hle⟩)
  ((refine wpAny_execs_nil ?_); intro hle; exact ⟨rfl, escp_same (replace_none _ _ _ hc (by decide)) (by assumption) hle⟩)))

def escT (x : Str) : Str :=
  Txt.replace (Txt.replace (Txt.replace (Txt.replace (Txt.replace (Txt.replace (Txt.replace x (Str.ofString "&") (Str.ofString "&amp;")) (Str.ofString "<") (Str.ofString "&lt;")) (Str.ofString ">") (Str.ofString "&gt;"))
    (Str.ofString "\"") (Str.ofString "&quot;")) (Str.ofString "\r") (Str.ofString "&#13;")) (Str.ofString "\n") (Str.ofString "&#10;")) (Str.ofString "\t") (Str.ofString "&#09;")

theorem esc_raw {w : World} {p : Program} {loose : List Str} {mean : ExcName → Option Value} {mg mb : Str → Option Value} {A : Around} {E : Value → Shared → Prop} {s : Shared} {Q : Value → Shared → Prop} {x : Str} {tk : Tok}
    (hroom : A.depth < recursionLimit) (X : (hd.heap_39 w.params).In s.heap) (T : Top p loose mean mg mb s.heap) (hpos : 0 < s.toks) (hx : x.length ≤ 16)
    (ret : ∀ t h' tk', s.heap.StaysIn h' → s.toks ≤ tk' → Q (.str (escT x) t) { s with heap := h', toks := tk' }) :
    wpAny (model PG w) A (call (.ref 28) [.str x tk]) Q E s := by
  refine enter (binds := [(Str.ofString "text", .str x tk)]) hroom T.nolimit (X 28 _ rfl) rfl (codeRec_of X rfl) (BindsTo.of_eq rfl) (locs rfl) (by decide) rfl rfl rfl ?_
  intro h₁ F₀
  have N₀ : ∀ h₁, News s.heap s.heap.objs.size h₁ [] := fun _ => News.nil
  have F : Fr s.heap s.heap.objs.size h₁ (fun y => if y = Str.ofString "text" then some (.str x tk) else none) := by
    have e : (fun y => List.lookup y [(Str.ofString "text", Value.str x tk)].reverse) = fun y => if y = Str.ofString "text" then some (.str x tk) else none := by
      funext y; simp only [List.reverse_cons, List.reverse_nil, List.nil_append, List.lookup_cons, List.lookup_nil]; split <;> simp_all
    rwa [e] at F₀
  clear F₀
  refine wpAny_execs_cons (wpAny_Try_except ?_)
  have hle : s.toks ≤ s.toks + [(Str.ofString "text", Value.str x tk)].length := Nat.le_add_right _ _
  generalize s.toks + [(Str.ofString "text", Value.str x tk)].length = tk₁ at hle
  have N := N₀ h₁
  refine cutT s.toks (EscP s (Txt.replace x (Str.ofString "&") (Str.ofString "&amp;"))) hle ?_ ?_
  · walk_at "mine escif"
  replace hx := replace_grows (y := Str.ofString "&") (z := Str.ofString "&amp;") (b := 5) (n := 101) hx (by decide) (by decide)
  generalize hx1 : Txt.replace x (Str.ofString "&") (Str.ofString "&amp;") = x1 at hx ⊢
  clear F N hle
  rintro _ ⟨h1, tk1, t1, rfl, F, hle⟩
  have N := N₀ h1
  refine cutT s.toks (EscP s (Txt.replace x1 (Str.ofString "<") (Str.ofString "&lt;"))) hle ?_ ?_
  · walk_at "mine escif"
  replace hx := replace_grows (y := Str.ofString "<") (z := Str.ofString "&lt;") (b := 4) (n := 509) hx (by decide) (by decide)
  generalize hx2 : Txt.replace x1 (Str.ofString "<") (Str.ofString "&lt;") = x2 at hx ⊢
  clear F N hle
  rintro _ ⟨h2, tk2, t2, rfl, F, hle⟩
  have N := N₀ h2
  refine cutT s.toks (EscP s (Txt.replace x2 (Str.ofString ">") (Str.ofString "&gt;"))) hle ?_ ?_
  · walk_at "mine escif"
  replace hx := replace_grows (y := Str.ofString ">") (z := Str.ofString "&gt;") (b := 4) (n := 2549) hx (by decide) (by decide)
  generalize hx3 : Txt.replace x2 (Str.ofString ">") (Str.ofString "&gt;") = x3 at hx ⊢
  clear F N hle
  rintro _ ⟨h3, tk3, t3, rfl, F, hle⟩
  have N := N₀ h3
  refine cutT s.toks (EscP s (Txt.replace x3 (Str.ofString "\"") (Str.ofString "&quot;"))) hle ?_ ?_
  · walk_at "mine escif"
  replace hx := replace_grows (y := Str.ofString "\"") (z := Str.ofString "&quot;") (b := 6) (n := 17849) hx (by decide) (by decide)
  generalize hx4 : Txt.replace x3 (Str.ofString "\"") (Str.ofString "&quot;") = x4 at hx ⊢
  clear F N hle
  rintro _ ⟨h4, tk4, t4, rfl, F, hle⟩
  have N := N₀ h4
  refine cutT s.toks (EscP s (Txt.replace x4 (Str.ofString "\r") (Str.ofString "&#13;"))) hle ?_ ?_
  · walk_at "mine escif"
  replace hx := replace_grows (y := Str.ofString "\r") (z := Str.ofString "&#13;") (b := 5) (n := 107099) hx (by decide) (by decide)
  generalize hx5 : Txt.replace x4 (Str.ofString "\r") (Str.ofString "&#13;") = x5 at hx ⊢
  clear F N hle
  rintro _ ⟨h5, tk5, t5, rfl, F, hle⟩
  have N := N₀ h5
  refine cutT s.toks (EscP s (Txt.replace x5 (Str.ofString "\n") (Str.ofString "&#10;"))) hle ?_ ?_
  · walk_at "mine escif"
  replace hx := replace_grows (y := Str.ofString "\n") (z := Str.ofString "&#10;") (b := 5) (n := 642599) hx (by decide) (by decide)
  generalize hx6 : Txt.replace x5 (Str.ofString "\n") (Str.ofString "&#10;") = x6 at hx ⊢
  clear F N hle
  rintro _ ⟨h6, tk6, t6, rfl, F, hle⟩
  have N := N₀ h6
  refine cutT s.toks (EscP s (Txt.replace x6 (Str.ofString "\t") (Str.ofString "&#09;"))) hle ?_ ?_
  · walk_at "mine escif"
  replace hx := replace_grows (y := Str.ofString "\t") (z := Str.ofString "&#09;") (b := 5) (n := 3855599) hx (by decide) (by decide)
  generalize hx7 : Txt.replace x6 (Str.ofString "\t") (Str.ofString "&#09;") = x7 at hx ⊢
  clear F N hle
  rintro _ ⟨h7, tk7, t7, rfl, F, hle⟩
  have N := N₀ h7
  refine wpAny_execs_cons ?_
  iterate 2 walk1
  dsimp only
  have e : escT x = x7 := by unfold escT; rw [hx1, hx2, hx3, hx4, hx5, hx6, hx7]
  rw [← e]
  exact ret _ _ _ F.keep hle
end Mine

-- part Pesc
namespace Mine
/-- a list function that goes sign by sign -/
def Hom (f : List Nat → List Nat) : Prop := f [] = [] ∧ ∀ a b, f (a ++ b) = f a ++ f b
theorem Hom.comp {f g : List Nat → List Nat} (hf : Hom f) (hg : Hom g) : Hom (fun l => f (g l)) :=
  ⟨by show f (g []) = []; rw [hg.1, hf.1], fun a b => by show f (g (a ++ b)) = _; rw [hg.2, hf.2]⟩
theorem Hom.flat {f : List Nat → List Nat} (hf : Hom f) : ∀ l, f l = l.flatMap fun c => f [c]
  | [] => hf.1
  | c :: l => by rw [List.flatMap_cons, ← hf.flat l, ← hf.2]; rfl
theorem hom_flatMap (g : Nat → List Nat) : Hom (fun l => l.flatMap g) := ⟨rfl, fun a b => List.flatMap_append⟩
def one1 (c : Nat) (z : List Nat) (d : Nat) : List Nat := if c == d then z else [d]
theorem rep_one (c : Nat) (z : List Nat) : ∀ l, repS [c] z 0 l = l.flatMap (one1 c z)
  | [] => rfl
  | d :: l => by
    rw [List.flatMap_cons, ← rep_one c z l]
    conv => lhs; unfold repS
    unfold one1
    show (if (c == d && true) = true then z ++ repS [c] z 0 l else d :: repS [c] z 0 l) = _
    rw [Bool.and_true]
    split
    · rfl
    · rfl
def escL (l : List Nat) : List Nat :=
  ((((((l.flatMap (one1 38 [38, 97, 109, 112, 59])).flatMap (one1 60 [38, 108, 116, 59])).flatMap (one1 62 [38, 103, 116, 59])).flatMap (one1 34 [38, 113, 117, 111, 116, 59])).flatMap (one1 13 [38, 35, 49, 51, 59])).flatMap (one1 10 [38, 35, 49, 48, 59])).flatMap (one1 9 [38, 35, 48, 57, 59])
theorem escL_hom : Hom escL := (((((((hom_flatMap _).comp (hom_flatMap _)).comp (hom_flatMap _)).comp (hom_flatMap _)).comp (hom_flatMap _)).comp (hom_flatMap _)).comp (hom_flatMap _) : Hom escL)
theorem rep_chr (x z : Str) (c : Nat) {y : Str} (hy : y = ⟨#[c]⟩) : (Txt.replace x y z).cps.toList = x.cps.toList.flatMap (one1 c z.cps.toList) := by
  subst hy
  rw [replace_rep x ⟨#[c]⟩ z (Nat.le_refl 1)]
  exact rep_one c _ _
theorem escT_list (x : Str) : (escT x).cps.toList = escL x.cps.toList := by
  unfold escT escL
  rw [rep_chr (y := Str.ofString "\t") _ _ 9 rfl, rep_chr (y := Str.ofString "\n") _ _ 10 rfl, rep_chr (y := Str.ofString "\r") _ _ 13 rfl, rep_chr (y := Str.ofString "\"") _ _ 34 rfl, rep_chr (y := Str.ofString ">") _ _ 62 rfl, rep_chr (y := Str.ofString "<") _ _ 60 rfl, rep_chr (y := Str.ofString "&") _ _ 38 rfl]
  rfl
theorem escL_other {c : Nat} (h : c ∉ [38, 60, 62, 34, 13, 10, 9]) : escL [c] = [c] := by
  simp only [List.mem_cons, List.not_mem_nil, or_false, not_or] at h
  obtain ⟨h1, h2, h3, h4, h5, h6, h7⟩ := h
  have e : ∀ d z, c ≠ d → [c].flatMap (one1 d z) = [c] := fun d z hd => by
    rw [List.flatMap_singleton]; unfold one1; rw [if_neg (by simpa using Ne.symm hd)]
  unfold escL
  rw [e 38 _ h1, e 60 _ h2, e 62 _ h3, e 34 _ h4, e 13 _ h5, e 10 _ h6, e 9 _ h7]
theorem escL_one (c : Nat) : (escL [c]).length ≤ 6 := by
  by_cases h : c ∈ [38, 60, 62, 34, 13, 10, 9]
  · have e : ∀ c ∈ [38, 60, 62, 34, 13, 10, 9], (escL [c]).length ≤ 6 := by decide
    exact e c h
  · rw [escL_other h]; exact (by decide : 1 ≤ 6)
theorem flat_len {g : Nat → List Nat} {n : Nat} (h : ∀ c, (g c).length ≤ n) : ∀ l : List Nat, (l.flatMap g).length ≤ n * l.length
  | [] => Nat.zero_le _
  | c :: l => by
    rw [List.flatMap_cons, List.length_append, List.length_cons, Nat.mul_add, Nat.mul_one]
    have h1 := h c
    have h2 := flat_len h l
    omega
theorem escT_len {x : Str} (h : x.length ≤ 16) : (escT x).length ≤ 96 := by
  have h1 := flat_len escL_one x.cps.toList
  rw [← escL_hom.flat, ← escT_list] at h1
  have e : ∀ a : Str, a.cps.toList.length = a.length := fun a => Array.length_toList
  rw [e, e] at h1
  omega
end Mine

-- part Red
namespace Mine

theorem iter_raw {prog : Program} {w : World} {A : Around} {E : Value → Shared → Prop} {s : Shared} {x : Value} {Q : Value → Shared → Prop} (h : wpAny (model prog w) A.in1 (pyIter x) Q E s) :
    wpAny (model prog w) A (call (.builtin "iter") [x]) Q E s := by
  refine call_function_entry (by decide +kernel) (by decide +kernel) kdk_entry_iter (kdk_args_iter _) ?_
  unfold Builtin.«iter»
  refine wpAny_bind (m := someArgs "iter" 1 2 _) (wpAny_of_eq (a := [x]) (by first | rfl | kernel_rfl!) ?_)
  show wpAny _ _ (pyIter x >>= _) _ _ _
  exact wpAny_bind (wpAny_mono h (fun v s' h' => wpAny_pure ⟨_, rfl, h'⟩) fun _ _ e => e)

theorem fnAt_stays {f : Addr} {h h' : Heap} (X : FnAt f h) (k : h.StaysIn h') : FnAt f h' := let ⟨oc, od, fd, sl, e⟩ := X; ⟨oc, od, fd, sl, k _ _ e⟩
theorem stays_trans {a b c : Heap} (h : a.StaysIn b) (k : b.StaysIn c) : a.StaysIn c := fun x o e => k x o (h x o e)

theorem fr_stays {h₀ h h' : Heap} {L : Addr} {m : Str → Option Value} (F : Fr h₀ L h m) (k : h.StaysIn h') : Fr h₀ L h' m := ⟨F.ns.at' fun o e => k _ o e, fun b o e => k b o (F.keep b o e), F.above⟩
theorem fr_congr {h₀ h : Heap} {L : Addr} {m m' : Str → Option Value} (F : Fr h₀ L h m) (e : ∀ y, m y = m' y) : Fr h₀ L h m' := (funext e : m = m') ▸ F

/-- what pyIter makes of a value: an iterator that lies new on the heap and walks -/
def Iters (w : World) (sq : Value) (h₀ : Heap) (n : Nat) (P : Nat → Value → Prop) : Prop :=
  ∀ (A : Around) (s : Shared) (Q : Value → Shared → Prop) (E : Value → Shared → Prop), h₀.StaysIn s.heap →
    (∀ (o : Obj) (fp : List Addr) (St : Nat → Heap → Prop), (∀ A' : Around, A'.handled = none → Walks PG w A' s.heap.objs.size fp [s.heap.objs.size] n P St) →
      (∀ b ∈ fp, b = s.heap.objs.size ∨ ∃ o, h₀.get? b = some o) → St 0 (s.heap.push o) → Q (.ref s.heap.objs.size) { s with heap := s.heap.push o }) →
    wpAny (model PG w) A (pyIter sq) Q E s

theorem reduce_raw {w : World} {p : Program} {loose : List Str} {mean : ExcName → Option Value} {mg mb : Str → Option Value} {A : Around} {E : Value → Shared → Prop} {s : Shared} {Q : Value → Shared → Prop}
    {f : Addr} {sq : Value} {x : Str} {tx : Tok} {n : Nat} {P : Nat → Value → Prop} (J : Nat → Value → Prop)
    (hh : A.handled = none) (hroom : A.depth < recursionLimit) (X : (hd.heap_39 w.params).In s.heap) (T : Top p loose mean mg mb s.heap) (hfn : FnAt f s.heap) (hit : Iters w sq s.heap n P) (h0 : J 0 (.str x tx))
    (step : ∀ i v acc (A' : Around) (s' : Shared) (Q' : Value → Shared → Prop) (E' : Value → Shared → Prop), i < n → P i v → J i acc → A'.handled = none → A'.depth ≤ A.depth + 1 → A'.units ≤ A.units + 3 →
      s.heap.StaysIn s'.heap → s.toks ≤ s'.toks → (∀ r h'' tk'', s'.heap.StaysIn h'' → J (i + 1) r → Q' r { s' with heap := h'', toks := tk'' }) → wpAny (model PG w) A' (call (.ref f) [acc, v]) Q' E' s')
    (ret : ∀ r h' tk', s.heap.StaysIn h' → s.toks ≤ tk' → J n r → Q r { s with heap := h', toks := tk' }) :
    wpAny (model PG w) A (call (.ref 37) [(.ref f), sq, .str x tx]) Q E s := by
  refine wpAny_toks s.toks (Nat.le_refl _) ?_
  refine enter (binds := [(Str.ofString "function", (.ref f)), (Str.ofString "sequence", sq), (Str.ofString "initial", .str x tx)]) hroom T.nolimit (X 37 _ rfl) rfl (codeRec_of X rfl) (by first | exact BindsTo.of_eq rfl | exact binds_K X rfl rfl rfl rfl rfl) (locs rfl) (by decide) rfl rfl rfl ?_
  intro h₁ F
  have N : News s.heap s.heap.objs.size h₁ [] := News.nil
  refine wpAny_execs_cons ?_
  iterate 7 walk1
  refine iter_raw (hit _ _ _ _ F.keep ?_)
  intro o fp St W hfp hst
  have F1 := F.push o
  have N1 : News s.heap s.heap.objs.size (h₁.push o) [] := News.nil
  have hIL : h₁.objs.size ≠ s.heap.objs.size := Nat.ne_of_gt F.ns.lt
  have hI0 : s.heap.get? h₁.objs.size = none := Heap.get?_none_of_le (Nat.le_of_lt F.ns.lt)
  have hLf : s.heap.objs.size ∉ fp := fun hm => by
    rcases hfp _ hm with e | ⟨o', e⟩
    · exact hIL e.symm
    · exact absurd (Heap.lt_size e) (Nat.lt_irrefl _)
  dsimp only
  clear N F
  have W0 := W callerA rfl
  have WD := fun e => W (A.deeper e) hh
  refine wpAny_storeName_local rfl F1.ns (fun h₂ hn₂ hs₂ => ?_) rfl
  have F2 := F1.set hn₂ hs₂
  have N2 : News s.heap s.heap.objs.size h₂ [] := News.nil
  have st2 : St 0 h₂ := W0.frame _ _ _ hst fun b hb o' e => hs₂.extBut b o' (fun (h : b = s.heap.objs.size) => hLf (h ▸ hb)) e
  clear N1 F1
  dsimp only
  refine wpAny_execs_cons ?_
  iterate 4 walk1
  refine wpAny_is_other (by rfl) (by intro x; cases x) ?_
  refine wpAny_truthy_bool ?_
  rw [if_neg Bool.false_ne_true]
  refine wpAny_execs_cons ?_
  iterate 2 walk1
  refine wpAny_storeName_local rfl F2.ns (fun h₃ hn₃ hs₃ => ?_) rfl
  have F3 := F2.set hn₃ hs₃
  have N3 : News s.heap s.heap.objs.size h₃ [] := News.nil
  have st3 : St 0 h₃ := W0.frame _ _ _ st2 fun b hb o' e => hs₃.extBut b o' (fun (h : b = s.heap.objs.size) => hLf (h ▸ hb)) e
  clear N2 F2 hn₂ hn₃ st2
  dsimp only
  refine wpAny_execs_nil ?_
  dsimp only
  refine wpAny_execs_cons (wpAny_For ?_)
  iterate 1 walk1
  refine (WD _).self 0 _ _ _ st3 ?_
  refine codeAny_forLoop (fun k s' => ∃ i h' tk' acc el, s' = { s with heap := h', toks := tk' } ∧
    Fr s.heap s.heap.objs.size h' (fun y => if y = Str.ofString "element" then el else if y = Str.ofString "value" then some acc else if y = Str.ofString "it" then some (.ref h₁.objs.size) else
      if y = Str.ofString "function" then some (.ref f) else if y = Str.ofString "sequence" then some sq else if y = Str.ofString "initial" then some (.str x tx) else none) ∧
    J i acc ∧ St i h' ∧ i ≤ n ∧ k = n + 1 - i ∧ s.toks ≤ tk') ?_ (n + 1) ?_
  · rintro k s' ⟨i, h', tk', acc, el, rfl, F4, hJ, hst4, hin, rfl, htk⟩
    by_cases hlt : i < n
    · refine wpAny_toks s.toks htk ?_
      refine (WD _).item i _ _ _ hlt hst4 fun v h5 tk5 hP st5 hk5 => ?_
      intro htk5
      dsimp only at htk5 ⊢
      have F5 : Fr s.heap s.heap.objs.size h5 _ := ⟨F4.ns.at' fun o' e => hk5 _ o' (fun hm => hIL (List.mem_singleton.mp hm).symm) e, fun b o' e => hk5 b o' (fun hm => by rw [List.mem_singleton.mp hm, hI0] at e; cases e) (F4.keep b o' e), F4.above⟩
      refine wpAny_assign_Name (wpAny_storeName_local rfl F5.ns (fun h6 hn6 hs6 => ?_) rfl)
      have F6 := F5.set hn6 hs6
      have N6 : News s.heap s.heap.objs.size h6 [] := News.nil
      have st6 : St (i + 1) h6 := W0.frame _ _ _ st5 fun b hb o' e => hs6.extBut b o' (fun (h : b = s.heap.objs.size) => hLf (h ▸ hb)) e
      clear F4 F5 hn6 F3 N3
      refine wpAny_execs_cons ?_
      iterate 3 walk1
      refine callWith_F (fnAt_stays hfn F6.keep) ?_
      iterate 5 walk1
      refine ⟨fnAt_stays hfn F6.keep, ?_⟩
      refine wpAny_toks s.toks (by dsimp only; omega) ?_
      refine step i v acc _ _ _ _ hlt hP hJ hh (Nat.le_refl _) (Nat.le_refl _) F6.keep (by dsimp only; omega) fun r h7 tk7 hk7 hJ7 => ?_
      intro htk7
      dsimp only at htk7 ⊢
      have F7 := fr_stays F6 hk7
      refine wpAny_storeName_local rfl F7.ns (fun h8 hn8 hs8 => ?_) rfl
      have F8 := F7.set hn8 hs8
      have st8 : St (i + 1) h8 := W0.frame _ _ _ st6 fun b hb o' e => hs8.extBut b o' (fun (h : b = s.heap.objs.size) => hLf (h ▸ hb)) (hk7 b o' e)
      refine wpAny_execs_nil ?_
      refine ⟨n + 1 - (i + 1), by omega, i + 1, h8, _, r, some v, rfl, fr_congr F8 fun y => ?_, hJ7, st8, hlt, rfl, by dsimp only; omega⟩
      by_cases e1 : y = Str.ofString "value"
      · subst e1; rfl
      · by_cases e2 : y = Str.ofString "element"
        · subst e2; rfl
        · simp only [if_neg e1, if_neg e2]
    · have hin' : i = n := by omega
      subst hin'
      refine (WD _).done _ _ _ hst4 fun h5 tk5 hk5 => ?_
      dsimp only
      have F5 : Fr s.heap s.heap.objs.size h5 _ := ⟨F4.ns.at' fun o' e => hk5 _ o' (fun hm => hIL (List.mem_singleton.mp hm).symm) e, fun b o' e => hk5 b o' (fun hm => by rw [List.mem_singleton.mp hm, hI0] at e; cases e) (F4.keep b o' e), F4.above⟩
      clear F3 N3 F4
      have N5 : News s.heap s.heap.objs.size h5 [] := News.nil
      refine wpAny_execs_nil ?_
      dsimp only
      refine wpAny_execs_cons ?_
      iterate 2 walk1
      dsimp only
      intro hle
      exact ret _ _ _ F5.keep hle hJ
  · refine ⟨0, h₃, _, _, none, rfl, fr_congr F3 fun y => ?_, h0, st3, Nat.zero_le _, rfl, ?_⟩
    · by_cases e1 : y = Str.ofString "value"
      · subst e1; rfl
      · simp only [if_neg e1]
        by_cases e2 : y = Str.ofString "it"
        · subst e2; rfl
        · simp only [if_neg e2]
          by_cases e3 : y = Str.ofString "element"
          · subst e3; rfl
          · simp only [if_neg e3, List.reverse_cons, List.reverse_nil, List.nil_append, List.cons_append, List.lookup_cons, List.lookup_nil]
            by_cases e4 : y = Str.ofString "function"
            · subst e4; rfl
            · by_cases e5 : y = Str.ofString "sequence"
              · subst e5; rfl
              · by_cases e6 : y = Str.ofString "initial"
                · subst e6; rfl
                · simp only [if_neg e4, if_neg e5, if_neg e6, beq_eq_false_iff_ne.mpr e4, beq_eq_false_iff_ne.mpr e5, beq_eq_false_iff_ne.mpr e6]
    · omega
end Mine

-- part Its
namespace Mine
theorem iters_list {w : World} {h₀ : Heap} {l : Addr} {items : Array Value} (hl : h₀.IsList l items) : Iters w (.ref l) h₀ items.size (fun i v => items[i]? = some v) := by
  intro A s Q E hk h
  have hls : s.heap.IsList l items := hl.at fun o e => hk l o e
  obtain ⟨ol, hol, _⟩ := id hls
  have hne : l ≠ s.heap.objs.size := Nat.ne_of_lt (Heap.lt_size hol)
  refine wpAny_pyIter_list hls ?_
  refine h _ [s.heap.objs.size, l] (fun i h => h.IsListIter s.heap.objs.size l i ∧ h.IsList l items) (fun A' hA => Walks.list hA _ _ hne items) ?_ ⟨⟨_, Heap.get?_push_size _ rfl, rfl, rfl⟩, hls.at fun o e => Heap.get?_push_of_some _ e⟩
  intro b hb
  rcases List.mem_cons.mp hb with e | hb
  · exact .inl e
  · obtain ⟨ol, hol, _⟩ := hl
    exact .inr ⟨ol, by rw [List.mem_singleton.mp hb]; exact hol⟩
theorem iters_str {w : World} {h₀ : Heap} {x : Str} {t : Tok} : Iters w (.str x t) h₀ x.cps.size (SignAt x) := by
  intro A s Q E hk h
  refine wpAny_pyIter_str fun o St W st => ?_
  exact h o [s.heap.objs.size] St W (fun b hb => .inl (List.mem_singleton.mp hb)) st
theorem range_small {n : Nat} (hn : n ≤ 1000) : Builtin.Range.small 0 (n : Int) 1 = true := by
  unfold Builtin.Range.small Builtin.Range.rangeFitsLong Builtin.Range.rangeSize
  simp only [Bool.and_eq_true, decide_eq_true_eq]
  simp
  omega
theorem iters_range {w : World} {h₀ : Heap} {r : Addr} {n : Nat} {t u v : Tok} (hr : IsRange h₀ r 0 n 1 t u v) (hn : n ≤ 1000) : Iters w (.ref r) h₀ n (fun _ v => ∃ i t, v = .int i t) := by
  intro A s Q E hk h
  have hrs : IsRange s.heap r 0 n 1 t u v := hk _ _ hr
  refine wpAny_pyIter_range hrs (range_small hn) ?_
  have hsz : Builtin.Range.rangeSize 0 (n : Int) 1 = (n : Int) := by unfold Builtin.Range.rangeSize; simp; omega
  refine h _ [s.heap.objs.size] (fun i h => IsRangeIter h s.heap.objs.size (0 + (i : Nat) * 1) ((n : Int) - (i : Nat)) 1) (fun A' hA => ?_) (fun b hb => .inl (List.mem_singleton.mp hb)) ?_
  · have W := Walks.range (prog := PG) (w := w) hA s.heap.objs.size 0 1 n
    exact ⟨W.sub, W.frame, fun i s Q E hi st hQ => W.item i s Q E hi st fun v h' tk hP => hQ v h' tk (let ⟨t, e⟩ := hP; ⟨_, t, e⟩), W.done, W.self⟩
  · rw [hsz]; simpa using Heap.get?_push_size _ rfl
end Mine

-- part Put
namespace Mine

/-- the i-th statement of the def at a, where it is a def itself: its parameters, body, scope -/
noncomputable def nestedAt (w : World) (a i : Nat) : Option (Arguments × List Stmt × Scope) :=
  match (hd.heap_39 w.params).lookup a with
  | some ⟨_, _, .func fd, _⟩ => (match fd.body with
    | .stmts b => (match b[i]? with
      | some (.FunctionDef _ args body _ _ _ scope _ _ _) => some (args, body, scope)
      | _ => none)
    | _ => none)
  | _ => none

/-- a closure of that make lies at f -/
def ClosAt (ps : Arguments) (bd : List Stmt) (sc : Scope) (h : Heap) (f : Addr) (cl : List (Str × Addr)) : Prop :=
  ∃ o name qual doc pm ct cdv, h.get? f = some o ∧ o.data = .func (fnX name qual ps bd sc cl .none .none doc pm none cdv ct) ∧ h.CodeRec cdv qual
theorem ClosAt.stays {ps : Arguments} {bd : List Stmt} {sc : Scope} {h h' : Heap} {f : Addr} {cl : List (Str × Addr)} (x : ClosAt ps bd sc h f cl) (k : h.StaysIn h') : ClosAt ps bd sc h' f cl :=
  let ⟨o, name, qual, doc, pm, ct, cdv, e, hd, hc⟩ := x; ⟨o, name, qual, doc, pm, ct, cdv, k _ _ e, hd, hc.keeps k⟩

def PutSpec (w : World) (ps : Arguments) (bd : List Stmt) (sc : Scope) : Prop :=
  ∀ (p : Program) (loose : List Str) (mean : ExcName → Option Value) (mg mb : Str → Option Value) (A : Around) (E : Value → Shared → Prop) (s : Shared) (Q : Value → Shared → Prop)
    (f c d pr : Addr) (cl : List (Str × Addr)) (x pat key wd : Str) (tx u u' v : Tok) (M : Str → Option Value),
    A.depth < recursionLimit → (hd.heap_39 w.params).In s.heap → Top p loose mean mg mb s.heap → ClosAt ps bd sc s.heap f cl → cl.lookup (Str.ofString "words") = some c → s.heap.IsCell c (some (.ref d)) →
    s.heap.MapOf (PySem.strKind PG w) d M → IsTup s.heap pr #[.str pat u, .str key u'] → M key = some (.str wd v) → u ≠ 0 → v ≠ 0 → u ≠ v → (pat == wd) = false → x.length + (x.length + 1) * wd.length ≤ 16777216 →
    (∀ t h' tk', s.heap.StaysIn h' → Q (.str (Txt.replace x pat wd) t) { s with heap := h', toks := tk' }) →
    wpAny (model PG w) A (call (.ref f) [.str x tx, .ref pr]) Q E s

theorem put_ok (w : World) : ∃ ps bd sc, nestedAt w 98 1 = some (ps, bd, sc) ∧ PutSpec w ps bd sc := by
  refine ⟨_, _, _, rfl, ?_⟩
  intro p loose mean mg mb A E s Q f c d pr cl x pat key wd tx u u' v M hroom X T hf hcl hc hM hpr hkey hu hv huv hyz hlen ret
  obtain ⟨o, name, qual, doc, pm, ct, cdv, ho, hd, hcd⟩ := hf
  refine enter (binds := [(Str.ofString "text", .str x tx), (Str.ofString "pair", .ref pr)]) hroom T.nolimit ho hd hcd (BindsTo.of_eq rfl) (locs rfl) (by decide) rfl rfl rfl ?_
  intro h₁ F
  have N : News s.heap s.heap.objs.size h₁ [] := News.nil
  refine wpAny_execs_cons ?_
  have hpr1 : IsTup h₁ pr [Value.str pat u, Value.str key u'].toArray := hpr.keeps F.keep
  have hM1 : h₁.MapOf (PySem.strKind PG w) d M := let ⟨o, es, ep, e, r⟩ := hM; ⟨o, es, ep, F.keep _ _ e, r⟩
  iterate 9 walk1
  refine item_tupleT hpr1 (by decide) (by decide) (j := 0) rfl rfl ?_
  iterate 2 walk1
  refine wpAny_Name (wpAny_loadName_free rfl rfl hcl (hc.keeps F.keep) ?_) (by decide)
  iterate 3 walk1
  refine item_tupleT hpr1 (by decide) (by decide) (j := 1) rfl rfl ?_
  refine tail_any (Heap.MapOf.typeIs hM1) slot_dict_getitem.lookup (wpAny_getItem_of (knd := PySem.strKind PG w) (k := key) (by simp [PySem.strKind, Value.isStrOf]) hM1 hkey ?_) (by with_unfolding_all rfl)
  iterate 1 walk1
  refine SC.replace hu hv huv hyz hlen fun t' k => ?_
  exact ret _ _ _ F.keep
end Mine

-- part Wri
namespace Mine

/-- the seven references and their signs -/
def pairs : List (Str × Str) := [(Str.ofString "&amp;", Str.ofString "&"), (Str.ofString "&lt;", Str.ofString "<"), (Str.ofString "&gt;", Str.ofString ">"), (Str.ofString "&quot;", Str.ofString "\""),
  (Str.ofString "&#13;", Str.ofString "\r"), (Str.ofString "&#10;", Str.ofString "\n"), (Str.ofString "&#09;", Str.ofString "\t")]
def putAll (W : Str → Str) (l : List (Str × Str)) (x : Str) : Str := l.foldl (fun t p => Txt.replace t p.1 (W p.2)) x
def roundT (W : Str → Str) (x : Str) : Str := putAll W pairs (escT x)


/-- the list spelled, its tokens not below n -/
def SpelledAt (h : Heap) (l : Addr) (n : Nat) : Prop :=
  ∃ items : Array Value, h.IsList l items ∧ items.size = 7 ∧ ∀ (i : Nat) (q : Str × Str), pairs[i]? = some q → ∃ (pr : Addr) (u u' : Tok), items[i]? = some (Value.ref pr) ∧ IsTup h pr #[.str q.1 u, .str q.2 u'] ∧ n ≤ u
theorem SpelledAt.stays {h h' : Heap} {l : Addr} {n : Nat} (x : SpelledAt h l n) (k : h.StaysIn h') : SpelledAt h' l n :=
  let ⟨items, hl, hs, r⟩ := x; ⟨items, hl.at fun o e => k _ o e, hs, fun i q e => let ⟨pr, u, u', a, b, c⟩ := r i q e; ⟨pr, u, u', a, b.keeps k, c⟩⟩
/-- the table of words at d: of these words, their tokens below n -/
def WordsAt (w : World) (h : Heap) (d : Addr) (W : Str → Str) (n : Nat) : Prop :=
  ∃ M : Str → Option Value, h.MapOf (PySem.strKind PG w) d M ∧ ∀ q ∈ pairs, ∃ v : Nat, M q.2 = some (.str (W q.2) v) ∧ 0 < v ∧ v < n ∧ (W q.2).length ≤ 2
theorem mapOf_stays {w : World} {h h' : Heap} {d : Addr} {M : Str → Option Value} (x : h.MapOf (PySem.strKind PG w) d M) (k : h.StaysIn h') : h'.MapOf (PySem.strKind PG w) d M :=
  let ⟨o, es, ep, e, r⟩ := x; ⟨o, es, ep, k _ _ e, r⟩
theorem WordsAt.stays {w : World} {h h' : Heap} {d : Addr} {W : Str → Str} {n : Nat} (x : WordsAt w h d W n) (k : h.StaysIn h') : WordsAt w h' d W n :=
  let ⟨M, hm, r⟩ := x; ⟨M, mapOf_stays hm k, r⟩

/-- everything that the closure _law_written at f stands upon -/
def RoundAt (w : World) (h : Heap) (f : Addr) (W : Str → Str) : Prop :=
  ∃ ps bd sc psp bdp scp cl clp fp c1 c2 c3 l d n, nestedAt w 98 2 = some (ps, bd, sc) ∧ nestedAt w 98 1 = some (psp, bdp, scp) ∧ ClosAt ps bd sc h f cl ∧ ClosAt psp bdp scp h fp clp ∧
    cl.lookup (Str.ofString "_law_put") = some c1 ∧ cl.lookup (Str.ofString "spelled") = some c2 ∧ clp.lookup (Str.ofString "words") = some c3 ∧
    h.IsCell c1 (some (.ref fp)) ∧ h.IsCell c2 (some (.ref l)) ∧ h.IsCell c3 (some (.ref d)) ∧ SpelledAt h l n ∧ WordsAt w h d W n
theorem RoundAt.stays {w : World} {h h' : Heap} {f : Addr} {W : Str → Str} (x : RoundAt w h f W) (k : h.StaysIn h') : RoundAt w h' f W :=
  let ⟨ps, bd, sc, psp, bdp, scp, cl, clp, fp, c1, c2, c3, l, d, n, e1, e2, a1, a2, l1, l2, l3, b1, b2, b3, g1, g2⟩ := x
  ⟨ps, bd, sc, psp, bdp, scp, cl, clp, fp, c1, c2, c3, l, d, n, e1, e2, a1.stays k, a2.stays k, l1, l2, l3, b1.keeps k, b2.keeps k, b3.keeps k, g1.stays k, g2.stays k⟩

theorem pairs_one : ∀ q ∈ pairs, 1 ≤ q.1.length := by decide
theorem putAll_len {W : Str → Str} : ∀ (l : List (Str × Str)) (x : Str), (∀ q ∈ l, 1 ≤ q.1.length ∧ (W q.2).length ≤ 2) → (putAll W l x).length + 1 ≤ 3 ^ l.length * (x.length + 1)
  | [], x, _ => by show x.length + 1 ≤ 1 * (x.length + 1); omega
  | q :: r, x, h => by
    have ih := putAll_len r (Txt.replace x q.1 (W q.2)) fun a ha => h a (.tail _ ha)
    have h1 := replace_len x q.1 (W q.2) (h q (.head _)).1
    have h2 : (x.length + 1) * (W q.2).length ≤ (x.length + 1) * 2 := Nat.mul_le_mul_left _ (h q (.head _)).2
    have h3 : (Txt.replace x q.1 (W q.2)).length + 1 ≤ 3 * (x.length + 1) := by omega
    show (putAll W r (Txt.replace x q.1 (W q.2))).length + 1 ≤ 3 ^ (r.length + 1) * (x.length + 1)
    refine Nat.le_trans ih ?_
    rw [Nat.pow_succ, Nat.mul_assoc]
    exact Nat.mul_le_mul_left _ h3
theorem putAll_snoc {W : Str → Str} {i : Nat} {q : Str × Str} (e : pairs[i]? = some q) (x : Str) : putAll W (pairs.take (i + 1)) x = Txt.replace (putAll W (pairs.take i) x) q.1 (W q.2) := by
  unfold putAll
  rw [List.take_add_one, e, List.foldl_append]
  rfl
theorem closAt_fn {ps : Arguments} {bd : List Stmt} {sc : Scope} {h : Heap} {f : Addr} {cl : List (Str × Addr)} (x : ClosAt ps bd sc h f cl) : FnAt f h := by
  obtain ⟨⟨oc, od, dt, sl⟩, name, qual, doc, pm, ct, cdv, e, hd, hc⟩ := x
  exact ⟨oc, od, _, sl, by rw [e, show dt = _ from hd]⟩

theorem written_raw {w : World} {p : Program} {loose : List Str} {mean : ExcName → Option Value} {mg mb : Str → Option Value} {A : Around} {E : Value → Shared → Prop} {s : Shared} {Q : Value → Shared → Prop}
    {f : Addr} {W : Str → Str} {x : Str} {tx : Tok} {tv : Value}
    (hh : A.handled = none) (hroom : A.depth + 2 < recursionLimit) (X : (hd.heap_39 w.params).In s.heap) (T : Top p loose mean mg mb s.heap) (hpos : 0 < s.toks) (hR : RoundAt w s.heap f W) (hx : x.length ≤ 16)
    (ret : ∀ t h' tk', s.heap.StaysIn h' → Q (.str (roundT W x) t) { s with heap := h', toks := tk' }) :
    wpAny (model PG w) A (call (.ref f) [.str x tx, tv]) Q E s := by
  obtain ⟨ps, bd, sc, psp, bdp, scp, cl, clp, fp, c1, c2, c3, l, d, n, e1, e2, a1, a2, l1, l2, l3, b1, b2, b3, g1, g2⟩ := hR
  obtain ⟨ps', bd', sc', e2', hput⟩ := put_ok w
  rw [e2] at e2'
  cases e2'
  have e1' : nestedAt w 98 2 = some (_, _, _) := rfl
  rw [e1'] at e1
  cases e1
  obtain ⟨o, name, qual, doc, pm, ct, cdv, ho, hd, hcd⟩ := a1
  refine enter (binds := [(Str.ofString "text", .str x tx), (Str.ofString "turn", tv)]) (Nat.lt_of_le_of_lt (Nat.le_add_right _ _) hroom) T.nolimit ho hd hcd (BindsTo.of_eq rfl) (locs rfl) (by decide) rfl rfl rfl ?_
  intro h₁ F
  have N : News s.heap s.heap.objs.size h₁ [] := News.nil
  refine wpAny_execs_cons ?_
  iterate 5 walk1
  refine wpAny_Name (wpAny_loadName_free rfl rfl l1 (b1.keeps F.keep) ?_) (by decide)
  iterate 1 walk1
  refine wpAny_Name (wpAny_loadName_free rfl rfl l2 (b2.keeps F.keep) ?_) (by decide)
  iterate 8 walk1
  refine esc_raw (by show A.depth + 1 < recursionLimit; omega) (X.keeps F.keep) (T.keeps F.keep) (by dsimp only; omega) hx fun t h2 tk2 hk2 htk2 => ?_
  dsimp only at hk2 htk2 ⊢
  iterate 1 walk1
  have k2 : s.heap.StaysIn h2 := stays_trans F.keep hk2
  refine ⟨X.keeps k2, ?_⟩
  obtain ⟨items, hl, hs, hit⟩ := g1
  obtain ⟨M, hM, hWd⟩ := g2
  have its := iters_list (w := w) (h₀ := h2) (hl.at fun o e => k2 _ o e)
  rw [hs] at its
  refine reduce_raw (fun i v => ∃ t, v = .str (putAll W (pairs.take i) (escT x)) t) hh (by show A.depth + 1 < recursionLimit; omega) (X.keeps k2) (T.keeps k2) (closAt_fn (a2.stays k2)) its ⟨t, rfl⟩ ?_ ?_
  · rintro i v acc A' s' Q' E' hi hP ⟨t', rfl⟩ hA hdp hun hk htk hret
    have k3 : s.heap.StaysIn s'.heap := stays_trans k2 hk
    obtain ⟨q, hq⟩ : ∃ q, pairs[i]? = some q := ⟨pairs[i]'hi, List.getElem?_eq_getElem (h := hi)⟩
    obtain ⟨pr, u, u', hpr, htup, hu⟩ := hit i q hq
    have hqm : q ∈ pairs := List.mem_of_getElem? hq
    obtain ⟨v', hMq, hv0, hvn, hlen⟩ := hWd q hqm
    have hP' : items[i]? = some v := hP
    rw [hpr] at hP'
    cases hP'
    have hdp' : A'.depth ≤ A.depth + 2 := hdp
    refine hput p loose mean mg mb A' E' s' Q' fp c3 d pr clp _ q.1 q.2 (W q.2) t' u u' v' M (by omega) (X.keeps k3) (T.keeps k3) (a2.stays k3) l3 (b3.keeps k3) (mapOf_stays hM k3) (htup.keeps k3) hMq (neN (by omega)) (neN (by omega)) (neN (by omega)) ?_ ?_ ?_
    · refine Bool.eq_false_iff.mpr fun e => ?_
      have e' := congrArg Str.length (eq_of_beq e)
      have h4 : 4 ≤ q.1.length := (by decide : ∀ q ∈ pairs, 4 ≤ q.1.length) q hqm
      omega
    · have h1 := putAll_len (W := W) (pairs.take i) (escT x) fun a ha => by obtain ⟨_, _, _, _, e⟩ := hWd a (List.mem_of_mem_take ha); exact ⟨pairs_one a (List.mem_of_mem_take ha), e⟩
      have h2 := escT_len hx
      have h3 : (pairs.take i).length ≤ 7 := by rw [List.length_take]; exact Nat.min_le_right _ _
      have h4 : 3 ^ (pairs.take i).length ≤ 3 ^ 7 := Nat.pow_le_pow_right (by decide) h3
      have h5 : 3 ^ (pairs.take i).length * ((escT x).length + 1) ≤ 3 ^ 7 * 97 := Nat.mul_le_mul h4 (by omega)
      have h6 : ((putAll W (pairs.take i) (escT x)).length + 1) * (W q.2).length ≤ ((putAll W (pairs.take i) (escT x)).length + 1) * 2 := Nat.mul_le_mul_left _ hlen
      have h7 : 3 ^ 7 * 97 = 212139 := by decide
      omega
    · intro t'' h'' tk'' hk''
      exact hret _ _ _ hk'' ⟨t'', by rw [putAll_snoc hq]⟩
  · rintro r h' tk' hk' htk' ⟨t', rfl⟩
    exact ret t' h' tk' (stays_trans k2 hk')
end Mine

-- part Led
namespace Mine

/-- the nine signs that the table has words for -/
def keys : List Str := [Str.ofString "&", Str.ofString "<", Str.ofString ">", Str.ofString "\"", Str.ofString "\r", Str.ofString "\n", Str.ofString "\t", Str.ofString ".", Str.ofString " "]

/-- everything that the closure _law_led at f stands upon -/
def LeadAt (w : World) (h : Heap) (f d : Addr) (W : Str → Str) : Prop :=
  ∃ ps bd sc cl c M, nestedAt w 105 0 = some (ps, bd, sc) ∧ ClosAt ps bd sc h f cl ∧ cl.lookup (Str.ofString "words") = some c ∧ h.IsCell c (some (.ref d)) ∧ h.MapOf (PySem.strKind PG w) d M ∧
    ∀ k ∈ keys, ∃ v, M k = some (.str (W k) v) ∧ (W k).length ≤ 2
theorem LeadAt.stays {w : World} {h h' : Heap} {f d : Addr} {W : Str → Str} (x : LeadAt w h f d W) (k : h.StaysIn h') : LeadAt w h' f d W :=
  let ⟨ps, bd, sc, cl, c, M, e, a, l, b, m, r⟩ := x; ⟨ps, bd, sc, cl, c, M, e, a.stays k, l, b.keeps k, mapOf_stays m k, r⟩
/-- the frame L and the list P are none of its parts -/
theorem LeadAt.but {w : World} {h h' : Heap} {f d L P : Addr} {W : Str → Str} {m : Str → Option Value} {its : Array Value} {n : Nat} (x : LeadAt w h f d W) (hL : h.Ns L m) (hdL : d ≠ L) (hP : h.get? P = some (PySem.W.listOf its n))
    (k : ∀ b o, b ≠ L → b ≠ P → h.get? b = some o → h'.get? b = some o) : LeadAt w h' f d W := by
  obtain ⟨ps, bd, sc, cl, c, M, e, ⟨o, name, qual, doc, pm, ct, cdv, ho, hd, ⟨cc, co, vs, t, e1, hco, hcd, hcv⟩⟩, l, ⟨oc, hoc, hocd⟩, ⟨om, es, ep, hom, hmx, hmd, hmr⟩, r⟩ := x
  obtain ⟨oL, esL, epL, hoL, hLd, _⟩ := hL
  have ne : ∀ {b : Addr} {o : Obj}, h.get? b = some o → (∀ es ep, o.data ≠ .dict es ep) → (∀ its n, o.data ≠ .seq its n) → h'.get? b = some o := fun {b o} e h1 h2 =>
    k b o (fun q => by rw [q, hoL] at e; cases e; exact h1 _ _ hLd) (fun q => by rw [q, hP] at e; cases e; exact h2 _ _ rfl) e
  refine ⟨ps, bd, sc, cl, c, M, e, ⟨o, name, qual, doc, pm, ct, cdv, ne ho (fun _ _ q => by rw [hd] at q; cases q) (fun _ _ q => by rw [hd] at q; cases q), hd, ⟨cc, co, vs, t, e1, ne hco (fun _ _ q => by rw [hcd] at q; cases q) (fun _ _ q => by rw [hcd] at q; cases q), hcd, hcv⟩⟩, l,
    ⟨oc, ne hoc (fun _ _ q => by rw [hocd] at q; cases q) (fun _ _ q => by rw [hocd] at q; cases q), hocd⟩, ⟨om, es, ep, k d om hdL (fun q => by rw [q, hP] at hom; cases hom; cases hmd) hom, hmx, hmd, hmr⟩, r⟩

def here (r : Str) : Bool := !(Builtin.Str.occurrences (Str.ofString "rwxst") r 0 (Str.ofString "rwxst").length 1).isEmpty
def ledT (wd r : Str) : Str := ⟨#[(wd ++ Str.ofString "  ").cps.getD (if here r then 1 else 0) 0]⟩
theorem item_at {x : Str} {i : Nat} (h : i < x.length) (h' : x.length ≤ 1000) : (decide ((i : Int) < -(2 ^ 63 : Int)) || decide ((i : Int) ≥ 2 ^ 63)) = false ∧ (seqIndex? (i : Int) x.length).bind (x.cps[·]?) = some (x.cps.getD i 0) := by
  have h2 : i < x.cps.size := h
  refine ⟨?_, ?_⟩
  · simp only [Bool.or_eq_false_iff, decide_eq_false_iff_not]; omega
  · have e : seqIndex? (i : Int) x.length = some i := by
      unfold seqIndex?
      simp
      omega
    rw [e]
    simp [h2]

theorem led_raw {w : World} {p : Program} {loose : List Str} {mean : ExcName → Option Value} {mg mb : Str → Option Value} {A : Around} {E : Value → Shared → Prop} {s : Shared} {Q : Value → Shared → Prop}
    {f d : Addr} {W : Str → Str} {k r : Str} {tk tr : Tok}
    (hroom : A.depth < recursionLimit) (X : (hd.heap_39 w.params).In s.heap) (T : Top p loose mean mg mb s.heap) (hR : LeadAt w s.heap f d W) (hk : k ∈ keys)
    (ret : ∀ t h' tk', s.heap.StaysIn h' → Q (.str (ledT (W k) r) t) { s with heap := h', toks := tk' }) :
    wpAny (model PG w) A (call (.ref f) [.str k tk, .str r tr]) Q E s := by
  obtain ⟨ps, bd, sc, cl, c, M, e1, a1, l1, b1, hM, hW⟩ := hR
  have e1' : nestedAt w 105 0 = some (_, _, _) := rfl
  rw [e1'] at e1
  cases e1
  obtain ⟨o, name, qual, doc, pm, ct, cdv, ho, hd, hcd⟩ := a1
  obtain ⟨v, hMk, hlen⟩ := hW k hk
  refine enter (binds := [(Str.ofString "sign", .str k tk), (Str.ofString "right", .str r tr)]) hroom T.nolimit ho hd hcd (BindsTo.of_eq rfl) (locs rfl) (by decide) rfl rfl rfl ?_
  intro h₁ F
  have N : News s.heap s.heap.objs.size h₁ [] := News.nil
  have hM1 : h₁.MapOf (PySem.strKind PG w) d M := mapOf_stays hM F.keep
  refine wpAny_execs_cons ?_
  iterate 4 walk1
  refine wpAny_Name (wpAny_loadName_free rfl rfl l1 (b1.keeps F.keep) ?_) (by decide)
  iterate 1 walk1
  refine tail_any (Heap.MapOf.typeIs hM1) slot_dict_getitem.lookup (wpAny_getItem_of (knd := PySem.strKind PG w) (k := k) (by simp [PySem.strKind, Value.isStrOf]) hM1 hMk ?_) (by with_unfolding_all rfl)
  iterate 7 walk1
  refine wpAny_truthy_bool ?_
  have hlen2 : (W k ++ Str.ofString "  ").length = (W k).length + 2 := by rw [Str.length_append]; rfl
  refine split_bool (fun hc => ?_) (fun hc => ?_)
  · iterate 1 walk1
    obtain ⟨e2, e3⟩ := item_at (x := W k ++ Str.ofString "  ") (i := 1) (by omega) (by omega)
    refine tail_any (typeIs_str _ _ _) PySem.F.slot_str_getitem.lookup (P.getItem_str e2 e3 ?_) (by with_unfolding_all rfl)
    have e4 : ledT (W k) r = ⟨#[(W k ++ Str.ofString "  ").cps.getD 1 0]⟩ := by unfold ledT here; rw [if_pos hc]
    rw [← e4]
    exact ret _ _ _ F.keep
  · iterate 1 walk1
    obtain ⟨e2, e3⟩ := item_at (x := W k ++ Str.ofString "  ") (i := 0) (by omega) (by omega)
    refine tail_any (typeIs_str _ _ _) PySem.F.slot_str_getitem.lookup (P.getItem_str e2 e3 ?_) (by with_unfolding_all rfl)
    have e4 : ledT (W k) r = ⟨#[(W k ++ Str.ofString "  ").cps.getD 0 0]⟩ := by unfold ledT here; rw [hc]; rfl
    rw [← e4]
    exact ret _ _ _ F.keep
end Mine

-- part Wrd
namespace Mine

def sgn : Str := Str.ofString "&<>\"\r\n\t."
/-- the word of the k-th sign -/
def wordT (ns : List Int) (k : Nat) : Str :=
  if 6 < k then (if k = 7 then Str.ofString "." else Str.ofString "")
  else if k < ns.length then (⟨#[sgn.cps.getD ((ns.getD k 0).fmod 8).toNat 0]⟩ : Str) ++ Txt.slice sgn (some (((ns.getD k 0).fdiv 8 + k + 1).fmod 9)) (some (((ns.getD k 0).fdiv 8 + k + 1).fmod 9 + 1))
  else Str.ofString "&" ++ Txt.slice (Txt.slice sgn (some ((k : Int) + 1)) (some 7)) none (some 1)

theorem add_tok {prog : Program} {w : World} {A : Around} {E : Value → Shared → Prop} {s : Shared} {x y : Str} {t u : Tok} {Q : Value → Shared → Prop} (hx : x.length ≠ 0) (hsz : (x ++ y).length ≤ sizeLine)
    (hpos : @LT.lt Nat _ 0 t) (hle : @LT.lt Nat _ t s.toks) (h : ∀ t' k : Nat, 0 < t' → t' < k → s.toks ≤ k → Q (.str (x ++ y) t') { s with toks := k }) : wpAny (model prog w) A (binaryOp .Add (.str x t) (.str y u)) Q E s := by
  refine P.add_str ?_
  rw [if_neg (by simpa using hx)]
  by_cases hy : y.length = 0
  · rw [if_pos (by simpa using hy)]
    have e : x ++ y = x := Str.ext' (by
      have : y.cps = #[] := Array.eq_empty_of_size_eq_zero hy
      rw [Str.cps_append, this, Array.append_empty])
    have h1 := h t s.toks hpos hle (Nat.le_refl _)
    rw [e] at h1
    exact h1
  · rw [if_neg (by simpa using hy)]
    exact ⟨hsz, h s.toks (s.toks + 1) (Nat.lt_trans hpos hle) (Nat.lt_succ_self _) (Nat.le_succ _)⟩
theorem slice_len (x : Str) (a b : Option Int) : (Txt.slice x a b).length ≤ x.length := PyProof.Txt.length_slice_le x a b

theorem word_raw {w : World} {p : Program} {loose : List Str} {mean : ExcName → Option Value} {mg mb : Str → Option Value} {A : Around} {E : Value → Shared → Prop} {s : Shared} {Q : Value → Shared → Prop}
    {l : Addr} {vs : List Value} {ns : List Int} {k : Nat} {tk : Tok}
    (hroom : A.depth < recursionLimit) (X : (hd.heap_39 w.params).In s.heap) (T : Top p loose mean mg mb s.heap) (hpos : 0 < s.toks) (hl : s.heap.IsList l vs.toArray) (hI : IntsAre vs ns) (hlen : ns.length ≤ 63) (hk : k < 9)
    (ret : ∀ (t : Nat) h' tk', s.heap.StaysIn h' → 0 < t → t < tk' → s.toks ≤ tk' → Q (.str (wordT ns k) t) { s with heap := h', toks := tk' }) :
    wpAny (model PG w) A (call (.ref 91) [.ref l, .int k tk]) Q E s := by
  refine enter (binds := [(Str.ofString "script", .ref l), (Str.ofString "k", .int k tk)]) hroom T.nolimit (X 91 _ rfl) rfl (codeRec_of X rfl) (BindsTo.of_eq rfl) (locs rfl) (by decide) rfl rfl rfl ?_
  intro h₁ F
  have N : News s.heap s.heap.objs.size h₁ [] := News.nil
  refine wpAny_execs_cons ?_
  iterate 2 walk1
  refine wpAny_storeName_local rfl F.ns (fun h₂ hn₂ hs₂ => ?_) rfl
  have F2 := F.set hn₂ hs₂
  have N2 : News s.heap s.heap.objs.size h₂ [] := News.nil
  clear N F
  dsimp only
  have hlen2 : vs.length = ns.length := hI.length
  have hl2 : h₂.IsList l vs.toArray := hl.at fun o e => F2.keep _ o e
  refine wpAny_execs_cons ?_
  iterate 6 walk1
  dsimp only
  refine split_dec (fun hc => ?_) (fun hc => ?_)
  · refine wpAny_execs_cons ?_
    iterate 6 walk1
    refine wpAny_truthy_bool ?_
    refine split_bool (fun hc => ?_) (fun hc => ?_)
    · iterate 1 walk1
      dsimp only
      have e : wordT ns k = Str.ofString "." := by
        have hc' : ((k : Int) == 7) = true := hc
        have hk7 : k = 7 := by have := eq_of_beq hc'; omega
        unfold wordT; rw [if_pos (by omega), if_pos hk7]
      rw [← e]
      refine ret _ _ _ F2.keep ?_ ?_ ?_ <;> omega
    · iterate 1 walk1
      dsimp only
      have e : wordT ns k = Str.ofString "" := by
        have hc' : ((k : Int) == 7) = false := hc
        have hk7 : ¬ k = 7 := by intro e; subst e; exact absurd hc' (by decide)
        unfold wordT; rw [if_pos (by omega), if_neg hk7]
      rw [← e]
      refine ret _ _ _ F2.keep ?_ ?_ ?_ <;> omega
  · refine wpAny_execs_nil ?_
    dsimp only
    have hT : s.toks ≤ s.toks + [(Str.ofString "script", Value.ref l), (Str.ofString "k", Value.int k tk)].length + 1 + 1 + 1 := by omega
    generalize s.toks + [(Str.ofString "script", Value.ref l), (Str.ofString "k", Value.int k tk)].length + 1 + 1 + 1 = T1 at hT
    refine wpAny_execs_cons (wpAny_If (wpAny_toks s.toks hT ?_))
    iterate 7 walk1
    iterate 3 walk1
    refine wpAny_truthy_bool ?_
    intro hT2
    dsimp only at hT2
    refine split_dec (fun hc2 => ?_) (fun hc2 => ?_)
    · refine wpAny_execs_cons ?_
      iterate 16 walk1
      dsimp only
      iterate 1 walk1
      dsimp only
      refine wpAny_storeName_local rfl F2.ns (fun h₃ hn₃ hs₃ => ?_) rfl
      have F3 := F2.set hn₃ hs₃
      have N3 : News s.heap s.heap.objs.size h₃ [] := News.nil
      have hl3 : h₃.IsList l vs.toArray := hl.at fun o e => F3.keep _ o e
      clear N2 F2 hl2
      dsimp only
      refine wpAny_execs_cons ?_
      iterate 11 walk1
      dsimp only
      have hf8 : 0 ≤ (ns.getD (k : Int).toNat 0).fmod 8 ∧ (ns.getD (k : Int).toNat 0).fmod 8 < 8 := ⟨Int.fmod_nonneg_of_pos _ (by decide), Int.fmod_lt_of_pos _ (by decide)⟩
      have hf8' : (ns.getD (k : Int).toNat 0).fmod 8 = (((ns.getD (k : Int).toNat 0).fmod 8).toNat : Int) := by omega
      rw [hf8']
      obtain ⟨e2, e3⟩ := item_at (x := Str.ofString "&<>\"\r\n\t.") (i := ((ns.getD (k : Int).toNat 0).fmod 8).toNat) (by show _ < 8; omega) (by decide)
      refine tail_any (typeIs_str _ _ _) PySem.F.slot_str_getitem.lookup (P.getItem_str e2 e3 ?_) (by with_unfolding_all rfl)
      dsimp only
      generalize hT3 : T1 + 1 + 1 + 1 + 1 + 1 + 1 + 1 + 1 + 1 + 1 + 1 = T3
      refine wpAny_toks (T3 + 1 + 1) (Nat.le_refl _) ?_
      iterate 5 walk1
      (try dsimp only)
      iterate 7 walk1
      (try dsimp only)
      intro hle
      (try dsimp only at hle)
      have e : wordT ns k = (⟨#[sgn.cps.getD ((ns.getD k 0).fmod 8).toNat 0]⟩ : Str) ++ Txt.slice sgn (some (((ns.getD k 0).fdiv 8 + k + 1).fmod 9)) (some (((ns.getD k 0).fdiv 8 + k + 1).fmod 9 + 1)) := by
        unfold wordT; rw [if_neg (by omega), if_pos (by omega)]
      refine add_tok ?_ ?_ ?_ ?_ fun t' k' h1 h2 h3 => ?_
      · show (1 : Nat) ≠ 0; decide
      · rw [Str.length_append]
        have h1 := slice_len sgn (some (((ns.getD k 0).fdiv 8 + k + 1).fmod 9)) (some (((ns.getD k 0).fdiv 8 + k + 1).fmod 9 + 1))
        have h3 : sgn.length = 8 := by decide
        rw [sizeLine_eq]
        unfold sgn at h1 h3
        show 1 + _ ≤ _
        simp only [Int.toNat_natCast] at h1 ⊢
        omega
      · omega
      · dsimp only; omega
      · dsimp only at h1 h2 h3 ⊢
        show Q (.str ((⟨#[sgn.cps.getD ((ns.getD k 0).fmod 8).toNat 0]⟩ : Str) ++ Txt.slice sgn (some (((ns.getD k 0).fdiv 8 + k + 1).fmod 9)) (some (((ns.getD k 0).fdiv 8 + k + 1).fmod 9 + 1))) t') _
        rw [← e]
        exact ret _ _ _ (Fr.keep (by assumption)) h1 h2 (by omega)
    · refine wpAny_execs_nil ?_
      dsimp only
      refine wpAny_execs_cons ?_
      iterate 3 walk1
      refine wpAny_toks (T1 + 1 + 1 + 1) (by dsimp only; omega) ?_
      iterate 11 walk1
      dsimp only
      iterate 7 walk1
      (try dsimp only)
      iterate 2 walk1
      (try dsimp only)
      intro hle
      (try dsimp only at hle)
      refine add_tok ?_ ?_ ?_ ?_ fun t' k' h1 h2 h3 => ?_
      · show (1 : Nat) ≠ 0; decide
      · rw [Str.length_append]
        have h1 := slice_len (Txt.slice sgn (some ((k : Int) + 1)) (some 7)) none (some 1)
        have h2 := slice_len sgn (some ((k : Int) + 1)) (some 7)
        have h3 : sgn.length = 8 := by decide
        have h4 : (Str.ofString "&").length = 1 := by decide
        rw [sizeLine_eq]
        unfold sgn at h1 h2 h3
        omega
      · omega
      · dsimp only; omega
      · dsimp only at h1 h2 h3 ⊢
        have e : wordT ns k = Str.ofString "&" ++ Txt.slice (Txt.slice sgn (some ((k : Int) + 1)) (some 7)) none (some 1) := by
          unfold wordT; rw [if_neg (by omega), if_neg (by omega)]
        show Q (.str (Str.ofString "&" ++ Txt.slice (Txt.slice sgn (some ((k : Int) + 1)) (some 7)) none (some 1)) t') _
        rw [← e]
        exact ret _ _ _ (Fr.keep (by assumption)) h1 h2 (by omega)
end Mine

-- part Dcm
namespace Mine
/-- a dict comprehension by what holds of it between its turns: the number of the turn, the pairs so far, the tokens -/
theorem dcomp {prog : Program} {w : World} {A : Around} {E : Value → Shared → Prop} {env : Env} {s : Shared} {kx vx iter : Expr} {x : Str} {px : Pos} {scope : Scope} {cl : List (Str × Addr)} {pos cpos : Pos} {Q : Value → Shared → Prop} {use : Option (Value → Sem Unit)}
    (J : Nat → List (Str × Value) → Nat → Prop) (n : Nat) (hn : n ≤ 1000) (hmono : ∀ i kvs a b, a ≤ b → J i kvs a → J i kvs b) (hJl : ∀ i kvs a, J i kvs a → kvs.length ≤ 1000)
    (hclos : closureFor scope env = pure cl) (hcell : ∀ y ∈ scope.names, y.2 ≠ .cell) (hkind : scope.kind = .function)
    (hnames : ∀ y ∈ scope.names, y.2 = .local → scope.names.lookup y.1 = some .local) (hx : scope.names.lookup x = some .local)
    (h : wpAny (model prog w) A (eval iter env) (fun xv s₁ => wpAny (model prog w) A (pyIter xv) (fun it s₂ => ∃ I fp P St, it = .ref I ∧ Walks prog w A I fp [I] n P St ∧ St 0 s₂.heap ∧ (∀ b ∈ fp, b < s₂.heap.objs.size) ∧ J 0 [] s₂.toks ∧
      (∀ C i v kvs s₃ m₃ E', i < n → P i v → J i kvs s₃.toks → s₃.heap.Ns C m₃ → m₃ x = some v → (∀ b o, b ≠ I → s₂.heap.get? b = some o → s₃.heap.get? b = some o) →
        wpAny (model prog w) A (eval kx (compEnvC scope cl C env)) (fun key s₄ => wpAny (model prog w) A (eval vx (compEnvC scope cl C env)) (fun y s₅ => (∃ k, (PySem.strKind prog w).is k key = true ∧ J (i + 1) (stored kvs k y) s₅.toks) ∧ Keeps s₃ s₅) E' s₄) E' s₃) ∧
      (∀ D C h' tk m' kvs, s₂.heap.get? D = none → s₂.heap.get? C = none → D ≠ C → h'.Ns C m' → h'.DictOf (PySem.strKind prog w) D kvs → J n kvs tk → (∀ b o, b ≠ I → s₂.heap.get? b = some o → h'.get? b = some o) →
        compPost (model prog w) A E use Q (.ref D) C (.ok .next) { s₂ with heap := h', toks := tk })) E s₁) E s)
    (hs : ∀ x, foldedSetIterable iter env x = pure x) :
    wpAny (model prog w) A (comprehension (.DictComp kx vx [⟨.Name x px, iter, [], 0⟩] scope pos) scope env cpos newDict false (eval iter env) use) Q E s := by
  refine wpAny_comprehension_free rfl hs hclos hkind hnames (wpAny_mono h (fun xv s₁ h₁ => wpAny_mono h₁ (fun it s₂ h₂ => ?_) fun _ _ e => e) fun _ _ e => e)
  clear h h₁
  obtain ⟨I, fp, P, St, rfl, W, hst, hfp, hJ0, turn, hQ⟩ := h₂
  refine wpAny_newObj_type (wpAny_newFunctionEnv hcell (by intro y hy; simp at hy) (fun h₁ hns₁ hsb₁ => ?_) hkind)
  dsimp only at hns₁ hsb₁ ⊢
  have hnew : (s₂.heap.push { cls := .type "dict", dict := none, data := .dict #[] }).DictOf (PySem.strKind prog w) s₂.heap.objs.size [] := Heap.DictOf.new s₂.heap
  generalize hH2 : s₂.heap.push { cls := .type "dict", dict := none, data := .dict #[] } = H2 at hns₁ hsb₁ hnew ⊢
  have hC : H2.objs.size = s₂.heap.objs.size + 1 := by rw [← hH2, Heap.size_push]
  have hDC : s₂.heap.objs.size ≠ H2.objs.size := by rw [hC]; exact Nat.ne_of_lt (Nat.lt_succ_self _)
  have below : ∀ b, b < s₂.heap.objs.size → b ≠ H2.objs.size ∧ b ≠ s₂.heap.objs.size := fun b hb => ⟨by rw [hC]; exact Nat.ne_of_lt (Nat.lt_succ_of_lt hb), Nat.ne_of_lt hb⟩
  have hDf : s₂.heap.objs.size ∉ fp := fun hm => Nat.lt_irrefl _ (hfp _ hm)
  have hCf : H2.objs.size ∉ fp := fun hm => by have := hfp _ hm; rw [hC] at this; exact Nat.lt_irrefl _ (Nat.lt_of_succ_lt this)
  have hIf : I ∈ fp := W.sub I (.head _)
  have hDI : s₂.heap.objs.size ≠ I := fun e => hDf (e ▸ hIf)
  have hCI : H2.objs.size ≠ I := fun e => hCf (e ▸ hIf)
  have old : ∀ b o, s₂.heap.get? b = some o → h₁.get? b = some o := fun b o e => hsb₁.extBut b o (below b (Heap.lt_size e)).1 (Heap.get?_push_of_some _ (hH2 ▸ Heap.get?_push_of_some _ e))
  have hacc : h₁.DictOf (PySem.strKind prog w) s₂.heap.objs.size [] := hnew.at fun o e => hsb₁.extBut _ _ hDC (Heap.get?_push_of_some _ e)
  have hst₁ : St 0 h₁ := W.frame _ _ _ hst fun b _ o e => old b o e
  have fresh : ∀ a, s₂.heap.objs.size ≤ a → s₂.heap.get? a = none := fun a ha => Heap.get?_none_of_le ha
  have loop : ∀ s₃ : Shared, s₃ = { s₂ with heap := h₁, toks := s₂.toks + ([] : List (Str × Value)).length } →
      codeAny (model prog w) A (.compLoop (.DictComp kx vx [⟨.Name x px, iter, [], 0⟩] scope pos) 0 (.ref I) (.ref s₂.heap.objs.size) (compEnvC scope cl H2.objs.size env))
        (compPost (model prog w) A E use Q (.ref s₂.heap.objs.size) H2.objs.size) s₃ := by
    rintro s₃ rfl
    refine codeAny_compLoop_testsD
      (fun k s' => ∃ i h' tk m' kvs, s' = { s₂ with heap := h', toks := tk } ∧ St i h' ∧ h'.DictOf (PySem.strKind prog w) s₂.heap.objs.size kvs ∧ h'.Ns H2.objs.size m' ∧ J i kvs tk ∧ i ≤ n ∧ k = n + 1 - i ∧
        ∀ b o, b ≠ I → s₂.heap.get? b = some o → h'.get? b = some o) ?_ (n + 1)
      ⟨0, h₁, _, _, [], rfl, hst₁, hacc, hns₁, hJ0, Nat.zero_le _, rfl, fun b o _ e => old b o e⟩
    rintro k s' ⟨i, H, tk, m', kvs, rfl, hst', hacc', hn', hJ, hi, rfl, hk⟩
    by_cases hlt : i < n
    · refine wpAny_toks tk (Nat.le_refl _) ?_
      refine W.item i _ _ _ hlt hst' fun v h₂ tk₂ hP hst₂ hk₂ => ?_
      intro htk₂
      dsimp only at htk₂ ⊢
      have hk₂' : ∀ b o, b ≠ I → H.get? b = some o → h₂.get? b = some o := fun b o hb e => hk₂ b o (fun hm => hb (List.mem_singleton.mp hm)) e
      refine wpAny_assign_Name (wpAny_storeName_local (lookup_relabel_local hx) (hn'.at' fun o e => hk₂' _ o hCI e) (fun h₃ hn₃ hs₃ => ?_) (by simp [compEnvC, relabel, hkind]))
      have up₃ : ∀ b o, b ≠ H2.objs.size → b ≠ I → H.get? b = some o → h₃.get? b = some o := fun b o hbC hbf e => hs₃.extBut b o hbC (hk₂' b o hbf e)
      have hst₃ : St (i + 1) h₃ := W.frame _ _ _ hst₂ fun b hb o e => hs₃.extBut b o (fun (h : b = H2.objs.size) => hCf (h ▸ hb)) e
      have hacc₃ : h₃.DictOf (PySem.strKind prog w) s₂.heap.objs.size kvs := hacc'.at fun o e => up₃ _ o hDC hDI e
      refine wpAny_pure ?_
      dsimp only
      rw [if_pos rfl]
      refine wpAny_mono (turn H2.objs.size i v kvs _ _ _ hlt hP (hmono _ _ _ _ (Nat.le_succ_of_le htk₂) hJ) hn₃ (if_pos rfl) fun b o hb e => up₃ b o (below b (Heap.lt_size e)).1 hb (hk b o hb e)) (fun key s₄ h₄ => ?_) fun _ _ e => e
      refine wpAny_mono h₄ (fun y s₅ h₅ => ?_) fun _ _ e => e
      obtain ⟨⟨kk, hkk, hJ'⟩, h₅, tk₅, rfl, hk₅⟩ := h₅
      dsimp only at hJ' hk₅
      refine wpAny_dictSet_pairs (hsz := by have := hJl _ _ _ hJ; rw [sizeLine_eq]; omega) hkk (hacc₃.at fun o e => hk₅ _ o e) fun h₆ hl₆ hs₆ => ?_
      refine ⟨n + 1 - (i + 1), by omega, i + 1, h₆, _, _, _, rfl, ?_, hl₆, (hn₃.at' fun o e => hs₆.extBut _ o (Ne.symm hDC) (hk₅ _ o e)), hmono _ _ _ _ (Nat.le_succ _) hJ', hlt, rfl, fun b o hb e => ?_⟩
      · exact W.frame _ _ _ hst₃ fun b hb o e => hs₆.extBut b o (fun (h : b = s₂.heap.objs.size) => hDf (h ▸ hb)) (hk₅ b o e)
      · exact hs₆.extBut b o (below b (Heap.lt_size e)).2 (hk₅ b o (up₃ b o (below b (Heap.lt_size e)).1 hb (hk b o hb e)))
    · have hin : i = n := by omega
      subst hin
      refine wpAny_toks tk (Nat.le_refl _) ?_
      refine W.done _ _ _ hst' fun h₂ tk₂ hk₂ => ?_
      intro htk₂
      dsimp only at htk₂ ⊢
      have hk₂' : ∀ b o, b ≠ I → H.get? b = some o → h₂.get? b = some o := fun b o hb e => hk₂ b o (fun hm => hb (List.mem_singleton.mp hm)) e
      exact hQ _ _ h₂ tk₂ m' kvs (fresh _ (Nat.le_refl _)) (fresh _ (by rw [hC]; exact Nat.le_succ _)) hDC (hn'.at' fun o e => hk₂' _ o hCI e) (hacc'.at fun o e => hk₂' _ o hDI e) (hmono _ _ _ _ htk₂ hJ) fun b o hb e => hk₂' b o hb (hk b o hb e)
  exact codeAny_compStart_dict (loop _ rfl) (W.self 0 _ _ _ hst₁ (loop _ rfl))
theorem dassign {prog : Program} {w : World} {A : Around} {E : Value → Shared → Prop} {env : Env} {s : Shared} {kx vx iter : Expr} {x y : Str} {px py : Pos} {scope : Scope} {pos spos : Pos} {Q : Flow → Shared → Prop}
    (hsw : swapsWith (.DictComp kx vx [⟨.Name x px, iter, [], 0⟩] scope pos) (some (.Name y py)) spos.line env = pure true)
    (h : ∀ cpos, wpAny (model prog w) A (comprehension (.DictComp kx vx [⟨.Name x px, iter, [], 0⟩] scope pos) scope env cpos newDict false (eval iter env) (some (assign (.Name y py) env))) (fun _ s' => Q .next s') E s) :
    wpAny (model prog w) A (exec (.Assign [.Name y py] (.DictComp kx vx [⟨.Name x px, iter, [], 0⟩] scope pos) spos) env) Q E s := by
  rw [exec_Assign_Name_used _ _ _ _ hsw]
  refine wpAny_bind (wpAny_standAt (wpAny_bind ?_))
  show wpAny _ A (do let _ ← comprehension (.DictComp kx vx [⟨.Name x px, iter, [], 0⟩] scope pos) scope env _ newDict false (eval iter env) (some (assign (.Name y py) env))) _ _ s
  exact wpAny_bind (wpAny_mono (h _) (fun _ s' hq => wpAny_pure (wpAny_pure hq)) fun _ _ e => e)
end Mine

-- part Rnd
namespace Mine

/-- entering a def some of whose names are captured; tokens have not fallen -/
theorem enterC {prog : Program} {w : World} {A : Around} {E : Value → Shared → Prop} {s : Shared} {Q : Value → Shared → Prop} {name qual : Str} {params : Arguments} {body : List Stmt} {scope : Scope}
    {dV kV doc pm cdv ct : Value} {an : Option Addr} {fo : Obj} {f : Addr} {pos : List Value} {binds : List (Str × Value)}
    (hroom : A.depth < recursionLimit) (hlim : s.heap.NoLimit) (ho : s.heap.get? f = some fo) (hd : fo.data = .func (fnX name qual params body scope [] dV kV doc pm an cdv ct)) (hcd : s.heap.CodeRec cdv qual)
    (hbind : BindsTo s (fnX name qual params body scope [] dV kV doc pm an cdv ct) ⟨pos, []⟩ binds) (hkind : (binds.all fun y => scope.names.lookup y.1 == some .local || scope.names.lookup y.1 == some .cell) = true)
    (hnd : ((cellsFrom 0 scope.names []).map (·.1)).Nodup) (hco : scope.isCoroutine = false) (hgen : scope.isGenerator = false) (hk : scope.kind = .function)
    (h : ∀ h₁ tk cells, s.toks ≤ tk → Fr s.heap s.heap.objs.size h₁ (bindL (envOfC qual scope s.heap.objs.size f cdv).kindOf binds fun _ => none) → News s.heap s.heap.objs.size h₁ cells →
      CellsAre (bindC (envOfC qual scope s.heap.objs.size f cdv).kindOf binds fun _ => none) (cellsFrom (s.heap.objs.size + 1) scope.names []) cells →
      wpAny (model prog w) (A.deeper (envOfC qual scope s.heap.objs.size f cdv)) (execs body (envOfC qual scope s.heap.objs.size f cdv))
        (fun fl s' => Q (match fl with | .ret v => v | _ => .none) s') (fun _ _ => False) { s with heap := h₁, toks := tk }) :
    wpAny (model prog w) A (call (.ref f) pos) Q E s := by
  refine wpAny_call (codeAny_call_function hroom ho hd hco hgen rfl hcd (hbind _ _ _ _ ?_))
  refine wpAny_toks s.toks (Nat.le_refl _) ?_
  refine wpAny_newFunctionEnv_cells hk (kindsX hkind _) fun env' he s' x => ?_
  intro hle
  subst he
  refine ⟨hlim.keeps x.toInCall.keep, codeAny_func ?_⟩
  obtain ⟨h₁, tk, rfl, _⟩ := x.done
  obtain ⟨cells, NC, Y⟩ := Cl.news (h₀ := s.heap) (Nat.le_refl _) fun n c hm => ⟨x.cell n c (lookup_of_mem_nodup (cellsFrom_names scope.names 0 (s.heap.objs.size + 1) [] [] rfl ▸ hnd) hm), x.above n c hm⟩
  exact wpAny_mono (h h₁ tk cells hle ⟨x.toInCall.ns, x.toInCall.keep, Nat.le_refl _⟩ NC Y) (fun _ _ y => y) (fun _ _ y => y.elim)

theorem round_raw {w : World} {p : Program} {loose : List Str} {mean : ExcName → Option Value} {mg mb : Str → Option Value} {A : Around} {E : Value → Shared → Prop} {s : Shared} {Q : Value → Shared → Prop} {d : Addr} {W : Str → Str}
    (hroom : A.depth < recursionLimit) (X : (hd.heap_39 w.params).In s.heap) (T : Top p loose mean mg mb s.heap) (hC : CodeHd s.heap 97 93) (h93 : s.heap.get? 93 = some (tabObj #[])) (hW : WordsAt w s.heap d W s.toks)
    (ret : ∀ f h' tk', (∀ b o, b ≠ 93 → s.heap.get? b = some o → h'.get? b = some o) → GrownAt 93 h' → RoundAt w h' f W → Q (.ref f) { s with heap := h', toks := tk' }) :
    wpAny (model PG w) A (call (.ref 98) [.ref d]) Q E s := by
  have hT : TabsAt [(97, 93)] s.heap := fun q hq => by rw [List.mem_singleton.mp hq]; exact ⟨hC, h93⟩
  refine enterC (binds := [(Str.ofString "words", .ref d)]) hroom T.nolimit (X 98 _ rfl) rfl (codeRec_of X rfl) (BindsTo.of_eq rfl) rfl (by decide +kernel) rfl rfl rfl ?_
  intro h₁ tk cells hle F N Y
  k_cells Y
  have F' := ghost_fr hT F
  have N' := ghost_news hT F N
  have X' := ghost_K hT X (by kernel_rfl)
  have T' := ghost_top hT T
  have C' : CodeHd (ghostOf s.heap [(97, 93)]) 97 93 := (ghost_code hT).1
  have hL : @LT.lt Nat _ 93 s.heap.objs.size := Heap.lt_size h93
  simp only [tabNews, List.map_cons, List.map_nil, List.nil_append, List.cons_append] at N'
  clear F N X T hC

  k_steps
  rename Fr _ _ _ _ => FF
  rename News _ _ _ _ => NN
  (try dsimp only at NN)
  have keep : ∀ b o, b ≠ 93 → s.heap.get? b = some o → _ := fun b o hb e => FF.keep b o (ghost_ne e (by intro hm; exact hb (List.mem_singleton.mp hm)))
  refine ret _ _ _ keep (GrownAt.of NN (by k_mem)) ?_
  refine' ⟨_, _, _, _, _, _, _, _, _, _, _, _, _, d, s.toks, rfl, rfl, ?a1, ?a2, ?l1, ?l2, ?l3, ?b1, ?b2, ?b3, ?g1, ?g2⟩
  case a1 =>
    refine' ⟨_, _, _, _, _, _, _, ?x1, ?x2, ?x3⟩
    case x1 => exact News.get NN (by k_mem)
    case x2 => rfl
    case x3 =>
      refine' codeRec_news NN ?m1 ?m2 ?m3
      case m1 => k_mem
      case m2 => assumption
      case m3 => assumption
  case l1 => rfl
  case l2 => rfl
  case b1 =>
    refine' ⟨_, ?x1, ?x2⟩
    case x1 => exact News.get NN (by k_mem)
    case x2 => assumption
  case b2 =>
    refine' ⟨_, ?x1, ?x2⟩
    case x1 => exact News.get NN (by k_mem)
    case x2 => assumption
  case a2 =>
    refine' ⟨_, _, _, _, _, _, _, ?x1, ?x2, ?x3⟩
    case x1 => exact News.get NN (by k_mem)
    case x2 => rfl
    case x3 =>
      refine' codeRec_news NN ?m1 ?m2 ?m3
      case m1 => k_mem
      case m2 => assumption
      case m3 => assumption
  case l3 => rfl
  case b3 =>
    refine' ⟨_, ?x1, ?x2⟩
    case x1 => exact News.get NN (by k_mem)
    case x2 => assumption
  case g1 =>
    refine' ⟨_, ?y1, ?y2, ?y3⟩
    case y1 =>
      refine' ⟨_, ?z1, ?z2, _, ?z3⟩
      case z1 => exact News.get NN (by k_mem)
      case z2 => rfl
      case z3 => rfl
    case y2 => rfl
    case y3 =>
     intro i q e
     match i, e with
     | 0, e => cases (show some ((Str.ofString "&amp;", Str.ofString "&") : Str × Str) = some q from e); exact ⟨_, _, _, rfl, ⟨_, News.get NN (by k_mem), rfl, _, rfl⟩, by (try dsimp only); omega⟩
     | 1, e => cases (show some ((Str.ofString "&lt;", Str.ofString "<") : Str × Str) = some q from e); exact ⟨_, _, _, rfl, ⟨_, News.get NN (by k_mem), rfl, _, rfl⟩, by (try dsimp only); omega⟩
     | 2, e => cases (show some ((Str.ofString "&gt;", Str.ofString ">") : Str × Str) = some q from e); exact ⟨_, _, _, rfl, ⟨_, News.get NN (by k_mem), rfl, _, rfl⟩, by (try dsimp only); omega⟩
     | 3, e => cases (show some ((Str.ofString "&quot;", Str.ofString "\"") : Str × Str) = some q from e); exact ⟨_, _, _, rfl, ⟨_, News.get NN (by k_mem), rfl, _, rfl⟩, by (try dsimp only); omega⟩
     | 4, e => cases (show some ((Str.ofString "&#13;", Str.ofString "\r") : Str × Str) = some q from e); exact ⟨_, _, _, rfl, ⟨_, News.get NN (by k_mem), rfl, _, rfl⟩, by (try dsimp only); omega⟩
     | 5, e => cases (show some ((Str.ofString "&#10;", Str.ofString "\n") : Str × Str) = some q from e); exact ⟨_, _, _, rfl, ⟨_, News.get NN (by k_mem), rfl, _, rfl⟩, by (try dsimp only); omega⟩
     | 6, e => cases (show some ((Str.ofString "&#09;", Str.ofString "\t") : Str × Str) = some q from e); exact ⟨_, _, _, rfl, ⟨_, News.get NN (by k_mem), rfl, _, rfl⟩, by (try dsimp only); omega⟩
     | i + 7, e => cases (show none = some q from e)
  case g2 =>
    obtain ⟨M, ⟨o, es, ep, ho, r⟩, hr⟩ := hW
    refine ⟨M, ⟨o, es, ep, keep d o (fun e => ?_) ho, r⟩, hr⟩
    rw [e, h93] at ho
    cases ho
    cases r.2.1
end Mine

-- part Ldr
namespace Mine

theorem leader_raw {w : World} {p : Program} {loose : List Str} {mean : ExcName → Option Value} {mg mb : Str → Option Value} {A : Around} {E : Value → Shared → Prop} {s : Shared} {Q : Value → Shared → Prop} {d : Addr} {W : Str → Str} {M : Str → Option Value}
    (hroom : A.depth < recursionLimit) (X : (hd.heap_39 w.params).In s.heap) (T : Top p loose mean mg mb s.heap) (hC : CodeHd s.heap 104 100) (h93 : s.heap.get? 100 = some (tabObj #[]))
    (hM : s.heap.MapOf (PySem.strKind PG w) d M) (hW : ∀ k ∈ keys, ∃ v, M k = some (.str (W k) v) ∧ (W k).length ≤ 2)
    (ret : ∀ f h' tk', (∀ b o, b ≠ 100 → s.heap.get? b = some o → h'.get? b = some o) → GrownAt 100 h' → LeadAt w h' f d W → Q (.ref f) { s with heap := h', toks := tk' }) :
    wpAny (model PG w) A (call (.ref 105) [.ref d]) Q E s := by
  have hT : TabsAt [(104, 100)] s.heap := fun q hq => by rw [List.mem_singleton.mp hq]; exact ⟨hC, h93⟩
  refine enterC (binds := [(Str.ofString "words", .ref d)]) hroom T.nolimit (X 105 _ rfl) rfl (codeRec_of X rfl) (BindsTo.of_eq rfl) rfl (by decide +kernel) rfl rfl rfl ?_
  intro h₁ tk cells hle F N Y
  k_cells Y
  have F' := ghost_fr hT F
  have N' := ghost_news hT F N
  have X' := ghost_K hT X (by kernel_rfl)
  have T' := ghost_top hT T
  have C' : CodeHd (ghostOf s.heap [(104, 100)]) 104 100 := (ghost_code hT).1
  have hL : @LT.lt Nat _ 100 s.heap.objs.size := Heap.lt_size h93
  simp only [tabNews, List.map_cons, List.map_nil, List.nil_append, List.cons_append] at N'
  clear F N X T hC
  k_steps
  rename Fr _ _ _ _ => FF
  rename News _ _ _ _ => NN
  (try dsimp only at NN)
  have keep : ∀ b o, b ≠ 100 → s.heap.get? b = some o → _ := fun b o hb e => FF.keep b o (ghost_ne e (by intro hm; exact hb (List.mem_singleton.mp hm)))
  refine ret _ _ _ keep (GrownAt.of NN (by k_mem)) ?_
  refine' ⟨_, _, _, _, _, M, rfl, ?a1, ?l1, ?b1, ?g2, hW⟩
  case a1 =>
    refine' ⟨_, _, _, _, _, _, _, ?x1, ?x2, ?x3⟩
    case x1 => exact News.get NN (by k_mem)
    case x2 => rfl
    case x3 =>
      refine' codeRec_news NN ?m1 ?m2 ?m3
      case m1 => k_mem
      case m2 => assumption
      case m3 => assumption
  case l1 => rfl
  case b1 =>
    refine' ⟨_, ?x1, ?x2⟩
    case x1 => exact News.get NN (by k_mem)
    case x2 => assumption
  case g2 =>
    obtain ⟨o, es, ep, ho, r⟩ := hM
    refine ⟨o, es, ep, keep d o (fun e => ?_) ho, r⟩
    rw [e, h93] at ho
    cases ho
    cases r.2.1
end Mine

-- part Enu
namespace Mine
section
variable {prog : Program} {w : World} {A : Around} {E : Value → Shared → Prop} {s : Shared}

theorem nextOf_tup_item {it t : Addr} {i : Nat} {items : Array Value} {x : Value} {Q : Value → Shared → Prop} (hit : s.heap.IsTupleIter it t i) (ht : s.heap.IsTuple t items) (hx : items[i]? = some x)
    (hQ : ∀ h', h'.IsTupleIter it t (i + 1) → Heap.SameBut it s.heap h' → Q x { s with heap := h' }) : wpAny (model prog w) A (Builtin.SmallTypes.nextOf (.ref it)) Q E s := by
  obtain ⟨o, ho, hc, hd⟩ := id hit
  obtain ⟨ol, hol, _, nl, hdl⟩ := ht
  unfold Builtin.SmallTypes.nextOf
  refine wpAny_bind (wpAny_callSpecial?_slot (name := Str.ofString "__next__") hit.typeIs F.slot_tuple_iterator_next
    (wpAny_call_entry F.slot_tuple_iterator_next hit.typeIs F.entry_tuple_iterator_next ?_ (F.args_tuple_iterator_next_1 _)))
  show wpAny _ _ (field (.ref it) 0 >>= _) _ _ s
  refine wpAny_bind (wpAny_field ho hd (x := .ref t) rfl ?_)
  show wpAny _ _ (if (Value.ref t == Value.none) = true then _ else _) _ _ s
  rw [if_neg (show ¬ ((Value.ref t == Value.none) = true) from Bool.false_ne_true)]
  show wpAny _ _ (field (.ref it) 1 >>= _) _ _ s
  refine wpAny_bind (wpAny_field ho hd (x := .int i 0) rfl ?_)
  show wpAny _ _ (seqItems? (.ref t) >>= _) _ _ s
  refine wpAny_bind (wpAny_seqItems hol hdl ?_)
  simp only [Int.toNat_natCast, hx]
  refine wpAny_bind (wpAny_setField ho hd (by simp) (wpAny_pure ⟨x, rfl, wpAny_pure (hQ _ ?_ (Heap.SameBut.update ..))⟩))
  exact ⟨_, Heap.get?_update_self _ ho (Obj.isFreed_of_fields (Obj.data_mapFields hd _)), (Obj.cls_mapFields ..).trans hc, by rw [Obj.data_mapFields hd]; simp [rawInt]⟩

theorem nextOf_tup_end {it t : Addr} {i : Nat} {items : Array Value} {Q : Value → Shared → Prop} (hh : A.handled = none) (hit : s.heap.IsTupleIter it t i) (ht : s.heap.IsTuple t items) (hx : items[i]? = none)
    (hE : ∀ h' e, Heap.ExtBut it s.heap h' → (∃ o, h'.get? e = some o ∧ o.cls = .type "StopIteration") → E (.ref e) { s with heap := h' }) : wpAny (model prog w) A (Builtin.SmallTypes.nextOf (.ref it)) Q E s := by
  obtain ⟨o, ho, hc, hd⟩ := id hit
  obtain ⟨ol, hol, _, nl, hdl⟩ := ht
  unfold Builtin.SmallTypes.nextOf
  refine wpAny_bind (wpAny_callSpecial?_slot (name := Str.ofString "__next__") hit.typeIs F.slot_tuple_iterator_next
    (wpAny_call_entry F.slot_tuple_iterator_next hit.typeIs F.entry_tuple_iterator_next ?_ (F.args_tuple_iterator_next_1 _)))
  show wpAny _ _ (field (.ref it) 0 >>= _) _ _ s
  refine wpAny_bind (wpAny_field ho hd (x := .ref t) rfl ?_)
  show wpAny _ _ (if (Value.ref t == Value.none) = true then _ else _) _ _ s
  rw [if_neg (show ¬ ((Value.ref t == Value.none) = true) from Bool.false_ne_true)]
  show wpAny _ _ (field (.ref it) 1 >>= _) _ _ s
  refine wpAny_bind (wpAny_field ho hd (x := .int i 0) rfl ?_)
  show wpAny _ _ (seqItems? (.ref t) >>= _) _ _ s
  refine wpAny_bind (wpAny_seqItems hol hdl ?_)
  simp only [Int.toNat_natCast, hx]
  refine wpAny_bind (wpAny_rule (wpAny_bind (wpAny_setField ho hd (by simp) ?_)))
  show wpAny _ _ (newExc (.type "StopIteration") [] >>= _) _ _ _
  refine wpAny_bind ?_
  simp only [newExc, newTuple]
  refine wpAny_bind (wpAny_newObj_type ?_ (by size_fits))
  refine wpAny_bind (m := firstArgMember _ _) (wpAny_of_eq (a := Value.none) (by first | rfl | (simp only [firstArgMember]; rfl)) ?_)
  refine wpAny_newObj_type ?_ (by size_fits)
  simp only [raiseNew]
  refine wpAny_bind (wpAny_handled ?_)
  first | rw [show A.in1.handled = none from hh] | rw [hh]
  refine wpAny_bind (wpAny_pure (wpAny_throw ?_))
  exact hE _ _ (((Heap.SameBut.update ..).extBut.push _).push _) ⟨_, Heap.get?_push_size _ rfl, rfl⟩
end

theorem draws_tup {prog : Program} {w : World} {A : Around} (hh : A.handled = none) (it t : Addr) (hne : t ≠ it) (items : Array Value) :
    Draws prog w A it [it, t] items.size (fun i v => items[i]? = some v) (fun i h => h.IsTupleIter it t i ∧ h.IsTuple t items) where
  live := fun _ _ st => let ⟨o, ho, _⟩ := st.1; ⟨o, ho⟩
  frame := fun _ _ _ st hk => ⟨st.1.at fun o e => hk it (by simp) o e, st.2.at fun o e => hk t (by simp) o e⟩
  item := fun i s Q E hi st hQ => by
    refine nextOf_tup_item st.1 st.2 (x := items[i]) (by simp [hi]) fun h' hit' hs' => ?_
    exact hQ _ h' s.toks (by simp [hi]) ⟨hit', st.2.extBut hs'.extBut hne⟩ hs'
  done := fun s Q E st hE => nextOf_tup_end hh st.1 st.2 (by simp) hE

theorem enum_new_tup (l : Addr) (items : Array Value) (n : Nat) (dct : Option Addr) (sl : Array (Option Value)) :
    Meets (Builtin.«enumerate.__new__» ⟨[.type "enumerate", .ref l], []⟩) (fun _ R s => s.heap.get? l = some { cls := .type "tuple", dict := dct, data := .seq items n, slots := sl } ∧
      R (.ok (.ret (.ref (s.heap.push { cls := .type "tuple_iterator", data := .fields #[.ref l, .int 0 0] }).objs.size)))
        { s with heap := (s.heap.push { cls := .type "tuple_iterator", data := .fields #[.ref l, .int 0 0] }).push { cls := .type "enumerate", data := .fields #[.none, .bool false, .ref s.heap.objs.size, rawInt 0, .none, .none] } }) :=
  .of_wp fun prog w A R s h => by
    obtain ⟨hp, g, d, tk, os⟩ := s; obtain ⟨hl, h⟩ := h
    have hsub := sub_enumerate
    have hL : Heap.IsTuple (Shared.heap ⟨hp, g, d, tk, os⟩) l items := ⟨_, hl, rfl, n, rfl⟩
    wp_walk using AutoSeq1.wpAny_loadPart' hl
    refine wpAny_stack_any fun st => wpAny_pure ?_
    split
    · rename_i c _ _ _ _ _
      cases (c == Value.type "enumerate")
      · wp_walk using AutoSeq1.wpAny_loadPart' hl, wpAny_pyIter_tuple hL
        exact ⟨_, rfl, h⟩
      · wp_walk using AutoSeq1.wpAny_loadPart' hl, wpAny_pyIter_tuple hL
        exact ⟨_, rfl, h⟩
    · wp_walk using AutoSeq1.wpAny_loadPart' hl, wpAny_pyIter_tuple hL
      exact ⟨_, rfl, h⟩

theorem enum_tup {prog : Program} {w : World} {A : Around} {E : Value → Shared → Prop} {s : Shared} {l : Addr} {items : Array Value} {Q : Value → Shared → Prop} (hL : s.heap.IsTuple l items)
    (h : ∀ h', IsEnum h' (s.heap.objs.size + 1) s.heap.objs.size 0 .none → h'.IsTupleIter s.heap.objs.size l 0 → h'.objs.size = s.heap.objs.size + 2 →
      (∀ b o, s.heap.get? b = some o → h'.get? b = some o) → Q (.ref (s.heap.objs.size + 1)) { s with heap := h' }) :
    wpAny (model prog w) A (call (.type "enumerate") [.ref l]) Q E s := by
  obtain ⟨⟨c, dct, dt, sl⟩, hl, hc, n, hd⟩ := hL
  replace hc : c = .type "tuple" := hc
  replace hd : dt = .seq items n := hd
  subst hc hd
  refine callType_new F.called_enumerate (by decide) (F.typeCall_enumerate_1 _) (F.newCall_enumerate_1 _) (fun obj => F.args_object_init_2 obj _) F.entry_enumerate_new
    (enum_new_tup l items n dct sl) ⟨hl, ?_⟩
  have hz : (s.heap.push { cls := .type "tuple_iterator", data := .fields #[.ref l, .int 0 0] }).objs.size = s.heap.objs.size + 1 := Heap.size_push ..
  show _ ∧ _
  rw [hz]
  have he : IsEnum ((s.heap.push { cls := .type "tuple_iterator", data := .fields #[.ref l, .int 0 0] }).push
      { cls := .type "enumerate", data := .fields #[.none, .bool false, .ref s.heap.objs.size, rawInt 0, .none, .none] }) (s.heap.objs.size + 1) s.heap.objs.size 0 .none := by
    have := Heap.get?_push_size (s.heap.push { cls := .type "tuple_iterator", data := .fields #[.ref l, .int 0 0] })
      (o := { cls := .type "enumerate", data := .fields #[.none, .bool false, .ref s.heap.objs.size, rawInt 0, .none, .none] }) rfl
    rw [hz] at this; exact this
  exact ⟨⟨_, he, rfl⟩, h _ he ⟨_, Heap.get?_push_of_some _ (Heap.get?_push_size _ rfl), rfl, rfl⟩ (by rw [Heap.size_push, hz]) fun b o x => Heap.get?_push_of_some _ (Heap.get?_push_of_some _ x)⟩
end Mine

-- part Ifm
namespace Mine
theorem ifmt_raw {w : World} {p : Program} {loose : List Str} {mean : ExcName → Option Value} {mg mb : Str → Option Value} {A : Around} {E : Value → Shared → Prop} {s : Shared} {Q : Value → Shared → Prop}
    {mode : Int} {tk : Tok} (hroom : A.depth < recursionLimit) (X : (hd.heap_39 w.params).In s.heap) (T : Top p loose mean mg mb s.heap) 
    (ret : ∀ t h' tk', s.heap.StaysIn h' → Q (.int (Builtin.bitAnd mode 61440) t) { s with heap := h', toks := tk' }) :
    wpAny (model PG w) A (call (.ref 44) [.int mode tk]) Q E s := by
  refine enter (binds := [(Str.ofString "mode", .int mode tk)]) hroom T.nolimit (X 44 _ rfl) rfl (codeRec_of X rfl) (BindsTo.of_eq rfl) (locs rfl) (by decide) rfl rfl rfl ?_
  intro h₁ F
  have N : News s.heap s.heap.objs.size h₁ [] := News.nil
  refine wpAny_execs_cons ?_
  iterate 4 walk1
  refine and_int ?_
  exact ret _ _ _ F.keep
end Mine

-- part Fmd
namespace Mine

/-- the table of filemode: of each place its bits and signs -/
def rows : List (List (Int × Str)) :=
  [[(40960, Str.ofString "l"), (49152, Str.ofString "s"), (32768, Str.ofString "-"), (24576, Str.ofString "b"), (16384, Str.ofString "d"), (8192, Str.ofString "c"), (4096, Str.ofString "p")],
   [(256, Str.ofString "r")], [(128, Str.ofString "w")], [(2112, Str.ofString "s"), (2048, Str.ofString "S"), (64, Str.ofString "x")],
   [(32, Str.ofString "r")], [(16, Str.ofString "w")], [(1032, Str.ofString "s"), (1024, Str.ofString "S"), (8, Str.ofString "x")],
   [(4, Str.ofString "r")], [(2, Str.ofString "w")], [(513, Str.ofString "t"), (512, Str.ofString "T"), (1, Str.ofString "x")]]
def testT (mode : Int) (i : Nat) (b : Int) : Bool := if i = 0 then Builtin.bitAnd mode 61440 == b else Builtin.bitAnd mode b == b
/-- the sign that a row's place gets -/
def signT (mode : Int) (i : Nat) : List (Int × Str) → Str
  | [] => if i = 0 then Str.ofString "?" else Str.ofString "-"
  | q :: r => if testT mode i q.1 then q.2 else signT mode i r
def signsT (mode : Int) (n : Nat) : List Str := (List.range n).map fun i => signT mode i (rows.getD i [])

/-- a row of the table lies at a -/
def RowAt (h : Heap) (a : Addr) (row : List (Int × Str)) : Prop :=
  ∃ items : Array Value, h.IsTuple a items ∧ items.size = row.length ∧ ∀ (j : Nat) (q : Int × Str), row[j]? = some q → ∃ (pr : Addr) (t u : Tok), items[j]? = some (Value.ref pr) ∧ h.IsTuple pr #[.int q.1 t, .str q.2 u]
theorem tup_in {w : World} {h : Heap} {a : Addr} {items : Array Value} {n : Nat} (X : (hd.heap_39 w.params).In h) (e : (hd.heap_39 w.params).lookup a = some { cls := .type "tuple", data := .seq items n }) : h.IsTuple a items := ⟨_, X _ _ e, rfl, n, rfl⟩
theorem table_in {w : World} {h : Heap} (X : (hd.heap_39 w.params).In h) : ∃ items : Array Value, h.IsTuple 77 items ∧ items.size = 10 ∧ ∀ (i : Nat), i < 10 → ∃ a, items[i]? = some (Value.ref a) ∧ RowAt h a (rows.getD i []) := by
  refine ⟨_, tup_in X rfl, rfl, fun i hi => ?_⟩
  have one : ∀ {a p1 : Addr} {b1 : Int} {c1 : Str} {t1 u1 : Tok}, h.IsTuple a #[.ref p1] → h.IsTuple p1 #[.int b1 t1, .str c1 u1] → RowAt h a [(b1, c1)] := fun h0 h1 =>
    ⟨_, h0, rfl, fun j q e => by
      match j with
      | 0 => cases e; exact ⟨_, _, _, rfl, h1⟩
      | j + 1 => cases e⟩
  have three : ∀ {a p1 p2 p3 : Addr} {b1 b2 b3 : Int} {c1 c2 c3 : Str} {t1 u1 t2 u2 t3 u3 : Tok}, h.IsTuple a #[.ref p1, .ref p2, .ref p3] → h.IsTuple p1 #[.int b1 t1, .str c1 u1] → h.IsTuple p2 #[.int b2 t2, .str c2 u2] → h.IsTuple p3 #[.int b3 t3, .str c3 u3] → RowAt h a [(b1, c1), (b2, c2), (b3, c3)] := fun h0 h1 h2 h3 =>
    ⟨_, h0, rfl, fun j q e => by
      match j with
      | 0 => cases e; exact ⟨_, _, _, rfl, h1⟩
      | 1 => cases e; exact ⟨_, _, _, rfl, h2⟩
      | 2 => cases e; exact ⟨_, _, _, rfl, h3⟩
      | j + 3 => cases e⟩
  match i, hi with
  | 0, _ =>
    refine ⟨_, rfl, _, tup_in X rfl, rfl, fun j q e => ?_⟩
    match j with
    | 0 => cases e; exact ⟨_, _, _, rfl, tup_in X rfl⟩
    | 1 => cases e; exact ⟨_, _, _, rfl, tup_in X rfl⟩
    | 2 => cases e; exact ⟨_, _, _, rfl, tup_in X rfl⟩
    | 3 => cases e; exact ⟨_, _, _, rfl, tup_in X rfl⟩
    | 4 => cases e; exact ⟨_, _, _, rfl, tup_in X rfl⟩
    | 5 => cases e; exact ⟨_, _, _, rfl, tup_in X rfl⟩
    | 6 => cases e; exact ⟨_, _, _, rfl, tup_in X rfl⟩
    | j + 7 => cases e
  | 1, _ => exact ⟨_, rfl, one (tup_in X rfl) (tup_in X rfl)⟩
  | 2, _ => exact ⟨_, rfl, one (tup_in X rfl) (tup_in X rfl)⟩
  | 3, _ => exact ⟨_, rfl, three (tup_in X rfl) (tup_in X rfl) (tup_in X rfl) (tup_in X rfl)⟩
  | 4, _ => exact ⟨_, rfl, one (tup_in X rfl) (tup_in X rfl)⟩
  | 5, _ => exact ⟨_, rfl, one (tup_in X rfl) (tup_in X rfl)⟩
  | 6, _ => exact ⟨_, rfl, three (tup_in X rfl) (tup_in X rfl) (tup_in X rfl) (tup_in X rfl)⟩
  | 7, _ => exact ⟨_, rfl, one (tup_in X rfl) (tup_in X rfl)⟩
  | 8, _ => exact ⟨_, rfl, one (tup_in X rfl) (tup_in X rfl)⟩
  | 9, _ => exact ⟨_, rfl, three (tup_in X rfl) (tup_in X rfl) (tup_in X rfl) (tup_in X rfl)⟩
end Mine

-- part Fm2
namespace Mine

theorem upd_right {D : Addr} {o o' : Obj} : ∀ {own : List (Addr × Obj)}, (∀ p ∈ own, p.1 ≠ D) → Upd D o o' (own ++ [(D, o)]) (own ++ [(D, o')])
  | [], _ => Upd.head fun _ h => nomatch h
  | p :: r, h => Upd.tail (h p (.head _)) (upd_right fun q hq => h q (.tail _ hq))
theorem strs_push {its : Array Value} {xs : List Str} {x : Str} {t : Tok} (h : StrsAre its.toList xs) : StrsAre (its.push (.str x t)).toList (xs ++ [x]) := by
  rw [Array.toList_push]
  generalize its.toList = l at h
  induction h with
  | nil => exact .cons _ _ .nil
  | cons y t _ ih => exact .cons _ _ ih
theorem letgo_tup {prog : Program} {w : World} {A : Around} {E : Value → Shared → Prop} {s : Shared} {elts : List Expr} {x1 : Nat} {pos : Pos} {I l T : Addr} {i : Nat} {Q : Unit → Shared → Prop} (hit : s.heap.IsTupleIter I l i) (hQ : Q () s) :
    wpAny (model prog w) A (letOwnedTupleGo (.Tuple elts x1 pos) (.ref I) (.ref T)) Q E s := by
  obtain ⟨o, ho, hc, hd⟩ := hit
  unfold letOwnedTupleGo
  refine wpAny_bind (wpAny_load ho ?_)
  rw [hc, hd]
  show wpAny _ A (if (["enumerate", "zip", "dict_itemiterator", "dict_reverseitemiterator", "odict_iterator", "itertools.zip_longest", "itertools.pairwise"].contains "tuple_iterator" &&
      (#[.ref l, .int i 0] : Array Value)[0]? == some (rawInt T)) = true then _ else _) Q E s
  rw [if_neg (by
    intro h
    rw [show (["enumerate", "zip", "dict_itemiterator", "dict_reverseitemiterator", "odict_iterator", "itertools.zip_longest", "itertools.pairwise"].contains "tuple_iterator") = false from by decide, Bool.false_and] at h
    cases h)]
  exact wpAny_pure hQ

def PermJ (mode : Int) (tk : Tok) (P : Addr) (i : Nat) (m : Str → Option Value) (news : List (Addr × Obj)) : Prop :=
  m (Str.ofString "mode") = some (.int mode tk) ∧ m (Str.ofString "perm") = some (.ref P) ∧ ∃ its n, news = [(P, PySem.W.listOf its n)] ∧ StrsAre its.toList (signsT mode i) ∧ its.size = i

theorem signT_len (mode : Int) (i : Nat) : ∀ row : List (Int × Str), (∀ q ∈ row, q.2.length = 1) → (signT mode i row).length = 1
  | [], _ => by unfold signT; split <;> rfl
  | q :: r, h => by
    unfold signT
    split
    · exact h q (.head _)
    · exact signT_len mode i r fun a ha => h a (.tail _ ha)
theorem signs_one (mode : Int) (n : Nat) : ∀ x ∈ signsT mode n, x.length = 1 := by
  intro x hx
  obtain ⟨i, _, rfl⟩ := List.mem_map.mp hx
  refine signT_len mode i _ fun q hq => ?_
  have h : ∀ row ∈ rows, ∀ q ∈ row, q.2.length = 1 := by decide
  by_cases hi : i < rows.length
  · rw [List.getD_eq_getElem?_getD, List.getElem?_eq_getElem hi] at hq
    exact h _ (List.getElem_mem hi) q hq
  · rw [List.getD_eq_getElem?_getD, List.getElem?_eq_none (by omega)] at hq
    cases hq
theorem sum_ones : ∀ l : List Str, (∀ x ∈ l, x.length = 1) → (l.map (·.length)).sum = l.length
  | [], _ => rfl
  | x :: r, h => by
    rw [List.map_cons, List.sum_cons, h x (.head _), sum_ones r fun a ha => h a (.tail _ ha), List.length_cons]; omega
theorem signs_weight (mode : Int) : ((signsT mode 10).map (·.length)).sum + (signsT mode 10).length ≤ 1048576 := by
  rw [sum_ones _ (signs_one mode 10)]
  have : (signsT mode 10).length = 10 := by unfold signsT; rw [List.length_map, List.length_range]
  omega

theorem fm_raw {w : World} {p : Program} {loose : List Str} {mean : ExcName → Option Value} {mg mb : Str → Option Value} {A : Around} {E : Value → Shared → Prop} {s : Shared} {Q : Value → Shared → Prop}
    {mode : Int} {tk : Tok} (hh : A.handled = none)
    (hroom : A.depth + 1 < recursionLimit) (X : (hd.heap_39 w.params).In s.heap) (T : Top p loose mean mg mb s.heap)
    (ret : ∀ t h' tk', s.heap.StaysIn h' → Q (.str (Txt.join (Str.ofString "") (signsT mode 10)) t) { s with heap := h', toks := tk' }) :
    wpAny (model PG w) A (call (.ref 84) [.int mode tk]) Q E s := by
  refine enter (binds := [(Str.ofString "mode", .int mode tk)]) (Nat.lt_of_le_of_lt (Nat.le_add_right _ _) hroom) T.nolimit (X 84 _ rfl) rfl (codeRec_of X rfl) (BindsTo.of_eq rfl) (locs rfl) (by decide) rfl rfl rfl ?_
  intro h₁ F
  have N : News s.heap s.heap.objs.size h₁ [] := News.nil
  refine wpAny_execs_cons ?_
  iterate 3 walk1
  refine newList_N F N fun h₂ F2 N2 => ?_
  clear F N
  refine wpAny_storeName_local rfl F2.ns (fun h₃ hn₃ hs₃ => ?_) rfl
  have F3 := F2.set hn₃ hs₃
  have N3 := N2.set hs₃
  clear F2 N2 hn₃
  dsimp only at F3 N3 ⊢
  generalize hP : h₁.objs.size = P at F3 N3
  refine wpAny_execs_cons (wpAny_For ?_)
  iterate 6 walk1
  obtain ⟨items, hT, hsz, hrow⟩ := table_in X
  refine enum_tup (items := items) (hT.at fun o e => F3.keep _ o e) fun h₄ he hit hs4 hk4 => ?_
  dsimp only at he hit hs4 hk4 ⊢
  refine wpAny_pyIter_enum he ?_
  have hL3 : s.heap.objs.size < h₃.objs.size := F3.ns.lt
  have h77 : 77 < s.heap.objs.size := by obtain ⟨o, ho, _⟩ := hT; exact Heap.lt_size ho
  have hPm := N3 _ (.head _)
  have hP3 : P < h₃.objs.size := Heap.lt_size hPm.1
  have hPL : P ≠ s.heap.objs.size := hPm.2.1
  have hP0 : s.heap.get? P = none := hPm.2.2
  have hP77 : P ≠ 77 := fun e => by obtain ⟨o, ho, _⟩ := hT; rw [← e, hP0] at ho; cases ho
  have F4 := fr_stays F3 hk4
  have N4 : News s.heap s.heap.objs.size h₄ [(P, PySem.W.listOf #[] 0)] := fun q hq => ⟨hk4 _ _ (N3 q hq).1, (N3 q hq).2⟩
  have hfresh : ∀ b, h₃.objs.size ≤ b → s.heap.get? b = none := fun b hb => Heap.get?_none_of_le (Nat.le_trans (Nat.le_of_lt hL3) hb)
  have D := fun (e : Env) => draws_tup (prog := PG) (w := w) (A := (A.deeper e).in1) hh h₃.objs.size 77 (Nat.ne_of_lt (Nat.lt_trans h77 hL3)) items
  rw [hsz] at D
  have WT := fun (e : Env) => WalksT.enumerateD (D e) (h₃.objs.size + 1) (Nat.succ_ne_self _) (by
    intro hm
    rcases List.mem_cons.mp hm with e | hm
    · exact Nat.succ_ne_self _ e
    · have e' : @Eq Nat (h₃.objs.size + 1) 77 := List.mem_singleton.mp hm
      omega) (.head _)
  refine codeAny_forLoop_frT (P2 := fun i v0 v1 => ∃ t, v0 = .int (i : Int) t ∧ items[i]? = some v1) (news := [(P, PySem.W.listOf #[] 0)]) hh (WT _) ?_ rfl rfl rfl ?_ ?_ ?_ ⟨⟨_, he⟩, hit, hT.at fun o e => F4.keep _ o e⟩ F4 N4 (PermJ mode tk P) ?_ ?_ ?_
  · rintro i vals ⟨t, x, hx, rfl⟩
    exact ⟨_, _, rfl, t, rfl, hx⟩
  · intro hm
    rcases List.mem_cons.mp hm with e | hm
    · have e' : s.heap.objs.size = h₃.objs.size + 1 := e
      omega
    · rcases List.mem_cons.mp hm with e | hm
      · have e' : s.heap.objs.size = h₃.objs.size := e
        omega
      · have e' : s.heap.objs.size = 77 := List.mem_singleton.mp hm
        omega
  · intro b hb
    rcases List.mem_cons.mp hb with e | hb
    · exact hfresh b (by rw [e]; exact Nat.le_succ _)
    · exact hfresh b (by rw [List.mem_singleton.mp hb]; exact Nat.le_refl _)
  · intro q hq hb
    have e1 : @Eq Nat q.1 P := by rw [List.mem_singleton.mp hq]
    rcases List.mem_cons.mp hb with e | hb
    · have e' : @Eq Nat q.1 (h₃.objs.size + 1) := e
      omega
    · have e' : @Eq Nat q.1 h₃.objs.size := List.mem_singleton.mp hb
      omega
  · exact ⟨rfl, rfl, #[], 0, rfl, .nil, rfl⟩
  · rintro i v0 v1 m₁ news₁ s₁ own ⟨h₅, tk₅, rfl⟩ hi ⟨ti, rfl, hv1⟩ ⟨hm1, hm2, its, n, rfl, hstr, hsize⟩ _ hown F5 N5
    clear F3 N3 F4 N4
    obtain ⟨a, ha, itm, htup, hisz, hpr⟩ := hrow i hi
    rw [ha] at hv1
    cases hv1
    refine wpAny_execs_cons (wpAny_For ?_)
    iterate 1 walk1
    dsimp only at F5 N5
    have htup5 := htup.at fun o e => F5.keep _ o e
    refine wpAny_pyIter_tuple htup5 ?_
    have F6 := F5.push { cls := .type "tuple_iterator", data := .fields #[.ref a, .int 0 0] }
    have N6 : News s.heap s.heap.objs.size (h₅.push { cls := .type "tuple_iterator", data := .fields #[.ref a, .int 0 0] }) (own ++ [(P, PySem.W.listOf its n)]) := fun q hq => ⟨Heap.get?_push_of_some _ (N5 q hq).1, (N5 q hq).2⟩
    have hownP : ∀ q ∈ own, q.1 ≠ P := by
      intro q hq e
      have h1 := hown q hq
      have e' : @Eq Nat q.1 P := e
      rcases List.mem_cons.mp h1 with e1 | h1
      · have e2 : @Eq Nat q.1 (h₃.objs.size + 1) := e1
        omega
      · rcases List.mem_cons.mp h1 with e1 | h1
        · have e2 : @Eq Nat q.1 h₃.objs.size := e1
          omega
        · exact hP77 (e ▸ List.mem_singleton.mp h1)
    have hIP : h₅.objs.size ≠ P := fun e => by
      have := Heap.lt_size (N5 (P, PySem.W.listOf its n) (List.mem_append_right _ (.head _))).1
      exact absurd this (e ▸ Nat.lt_irrefl _)
    have hIL : h₅.objs.size ≠ s.heap.objs.size := Nat.ne_of_gt F5.ns.lt
    have hI0 : s.heap.get? h₅.objs.size = none := Heap.get?_none_of_le (Nat.le_of_lt F5.ns.lt)
    have hIown : ∀ q ∈ own ++ [(P, PySem.W.listOf its n)], q.1 ≠ h₅.objs.size := fun q hq => Nat.ne_of_lt (Heap.lt_size (N5 q hq).1)
    have hI5 : Heap.IsTupleIter (h₅.push { cls := .type "tuple_iterator", data := .fields #[.ref a, .int 0 0] }) h₅.objs.size a 0 := ⟨_, Heap.get?_push_size _ rfl, rfl, rfl⟩
    have hlen : (signsT mode i).length = i := by unfold signsT; rw [List.length_map, List.length_range]
    generalize hrowD : rows.getD i [] = row at hpr hisz
    clear F5 N5
    have fin : ∀ (h' : Heap) (tk' : Nat) (m' : Str → Option Value) (c : Str) (t : Tok), Fr s.heap s.heap.objs.size h' m' → News s.heap s.heap.objs.size h' (own ++ [(P, PySem.W.listOf (its.push (.str c t)) (n + 1))]) →
        m' (Str.ofString "mode") = some (.int mode tk) → m' (Str.ofString "perm") = some (.ref P) → c = signT mode i row →
        LoopStep2 s.heap s.heap.objs.size own [(P, PySem.W.listOf its n)] (PermJ mode tk P (i + 1)) { s with heap := h₅, toks := tk₅ } .next { s with heap := h', toks := tk' } := by
      intro h' tk' m' c t F' N' e1 e2 hc
      refine ⟨rfl, h', tk', m', _, rfl, F', N', rfl, e1, e2, _, _, rfl, ?_, ?_⟩
      · have e3 : signsT mode (i + 1) = signsT mode i ++ [c] := by
          unfold signsT
          rw [List.range_succ, List.map_append, List.map_singleton, hrowD, hc]
        rw [e3]
        exact strs_push hstr
      · rw [Array.size_push, hsize]
    refine codeAny_forLoop_any (fun k s' => ∃ j h' tk' vb vc, s' = { s with heap := h', toks := tk' } ∧
      Fr s.heap s.heap.objs.size h' (fun y => if y = Str.ofString "char" then vc else if y = Str.ofString "bit" then vb else if y = Str.ofString "table" then some (.ref a) else if y = Str.ofString "index" then some (.int (i : Int) ti) else m₁ y) ∧
      News s.heap s.heap.objs.size h' (own ++ [(P, PySem.W.listOf its n)]) ∧ h'.IsTupleIter h₅.objs.size a j ∧ j ≤ row.length ∧ signT mode i row = signT mode i (row.drop j) ∧ k = row.length + 1 - j) ?_ (row.length + 1) ?_
    · rintro k s' ⟨j, h', tk', vb, vc, rfl, F7, N7, hit7, hj, hsg, rfl⟩
      by_cases hlt : j < row.length
      · obtain ⟨q, hq⟩ : ∃ q, row[j]? = some q := ⟨row[j]'hlt, List.getElem?_eq_getElem hlt⟩
        obtain ⟨pr, t, u, hpi, hpt⟩ := hpr j q hq
        refine wpAny_pyNext_tuple_item (items := itm) hit7 (htup.at fun o e => F7.keep _ o e) hpi fun h8 hit8 hs8 => ?_
        dsimp only
        refine letgo_tup hit8 ?_
        have k8 : ∀ b o, b ≠ h₅.objs.size → h'.get? b = some o → h8.get? b = some o := fun b o hb e => hs8.extBut b o hb e
        have F8 : Fr s.heap s.heap.objs.size h8 _ := ⟨F7.ns.at' fun o e => k8 _ o (Ne.symm hIL) e, fun b o e => k8 b o (fun q => by rw [q, hI0] at e; cases e) (F7.keep b o e), F7.above⟩
        have N8 : News s.heap s.heap.objs.size h8 (own ++ [(P, PySem.W.listOf its n)]) := fun q hq => ⟨k8 _ _ (hIown q hq) (N7 q hq).1, (N7 q hq).2⟩
        refine wpAny_assign_Tuple hh (hpt.at fun o e => F8.keep _ o e) rfl rfl fun h9 hx9 => ?_
        dsimp only at hx9
        have up9 : h8.StaysIn h9 := fun b o x => hx9 b o (Nat.ne_of_lt (Heap.lt_size x)) x
        have F9 := fr_stays F8 up9
        have N9 : News s.heap s.heap.objs.size h9 (own ++ [(P, PySem.W.listOf its n)]) := fun q hq => ⟨up9 _ _ (N8 q hq).1, (N8 q hq).2⟩
        refine wpAny_bind (wpAny_holding (wpAny_assign_Name (wpAny_storeName_local rfl F9.ns (fun h10 hn10 hs10 => ?_) rfl)))
        have F10 := F9.set hn10 hs10
        have N10 := N9.set hs10
        refine wpAny_bind (wpAny_holding (wpAny_assign_Name (wpAny_storeName_local rfl F10.ns (fun h11 hn11 hs11 => wpAny_pure ?_) rfl)))
        have F11 := F10.set hn11 hs11
        have N11 := N10.set hs11
        have hit11 : h11.IsTupleIter h₅.objs.size a (j + 1) := ((hit8.at fun o e => up9 _ o e).at fun o e => hs10.extBut _ o hIL e).at fun o e => hs11.extBut _ o hIL e
        clear F7 N7 F8 N8 F9 N9 F10 N10 hn10 hn11 F6 N6
        dsimp only
        have hdrop : row.drop j = q :: row.drop (j + 1) := by
          rw [List.drop_eq_getElem_cons hlt]
          rw [List.getElem?_eq_getElem hlt] at hq
          rw [Option.some.inj hq]
        refine wpAny_execs_cons ?_
        iterate 5 walk1
        refine wpAny_truthy_bool ?_
        dsimp only
        refine split_bool (fun hc => ?_) (fun hc => ?_)
        · refine wpAny_execs_cons ?_
          iterate 6 walk1
          refine wpAny_Name (wpAny_loadName_local rfl rfl F11.ns hm1 ?_) (by decide)
          iterate 1 walk1
          refine ⟨X.keeps F11.keep, ?_⟩
          refine ifmt_raw (by show A.depth + 1 < recursionLimit; exact hroom) (X.keeps F11.keep) (T.keeps F11.keep) fun t' h12 tk12 hk12 => ?_
          have F12 := fr_stays F11 hk12
          have N12 : News s.heap s.heap.objs.size h12 (own ++ [(P, PySem.W.listOf its n)]) := fun q hq => ⟨hk12 _ _ (N11 q hq).1, (N11 q hq).2⟩
          have NP : News s.heap s.heap.objs.size h12 [(P, PySem.W.listOf its n)] := fun q hq => N12 q (List.mem_append_right _ hq)
          have hit12 := hit11.at fun o e => hk12 _ o e
          clear F11 N11
          dsimp only
          iterate 2 walk1
          refine wpAny_truthy_bool ?_
          refine split_bool (fun hc2 => ?_) (fun hc2 => ?_)
          · refine wpAny_execs_cons ?_
            iterate 2 walk1
            refine wpAny_Name (wpAny_loadName_local rfl rfl F12.ns hm2 ?_) (by decide)
            iterate 5 walk1
            refine append_K F12 N12 (upd_right hownP) (fun h13 F13 N13 => ?_) (by rw [sizeLine_eq]; omega)
            dsimp only
            refine wpAny_execs_cons (wpAny_Break ?_)
            dsimp only
            refine wpAny_execs_nil ?_
            refine fin _ _ _ _ _ F13 N13 hm1 hm2 ?_
            rw [hsg, hdrop]
            unfold signT testT
            have hi0 : i = 0 := by have := eq_of_beq hc; omega
            rw [if_pos hi0, hc2]
            rfl
          · refine wpAny_execs_nil ?_
            dsimp only
            refine wpAny_execs_nil ?_
            dsimp only
            refine wpAny_execs_nil ?_
            refine ⟨row.length + 1 - (j + 1), by omega, j + 1, h12, _, some (.int q.1 t), some (.str q.2 u), rfl, fr_congr F12 fun y => ?_, N12, hit12, hlt, ?_, rfl⟩
            · by_cases e1 : y = Str.ofString "char"
              · subst e1; rfl
              · by_cases e2 : y = Str.ofString "bit"
                · subst e2; rfl
                · simp only [if_neg e1, if_neg e2]
            · rw [hsg, hdrop]
              conv => lhs; unfold signT testT
              have hi0 : i = 0 := by have := eq_of_beq hc; omega
              rw [if_pos hi0, hc2]
              rfl
        · refine wpAny_execs_cons ?_
          iterate 3 walk1
          refine wpAny_Name (wpAny_loadName_local rfl rfl F11.ns hm1 ?_) (by decide)
          iterate 1 walk1
          refine and_int ?_
          have F12 := F11
          have N12 := N11
          have hit12 := hit11
          have NP : News s.heap s.heap.objs.size h11 [(P, PySem.W.listOf its n)] := fun q hq => N12 q (List.mem_append_right _ hq)
          clear F11 N11
          dsimp only
          iterate 2 walk1
          refine wpAny_truthy_bool ?_
          refine split_bool (fun hc2 => ?_) (fun hc2 => ?_)
          · refine wpAny_execs_cons ?_
            iterate 2 walk1
            refine wpAny_Name (wpAny_loadName_local rfl rfl F12.ns hm2 ?_) (by decide)
            iterate 5 walk1
            refine append_K F12 N12 (upd_right hownP) (fun h13 F13 N13 => ?_) (by rw [sizeLine_eq]; omega)
            dsimp only
            refine wpAny_execs_cons (wpAny_Break ?_)
            dsimp only
            refine wpAny_execs_nil ?_
            refine fin _ _ _ _ _ F13 N13 hm1 hm2 ?_
            rw [hsg, hdrop]
            unfold signT testT
            have hi0 : ¬ i = 0 := fun e => by subst e; exact absurd hc (by decide)
            rw [if_neg hi0, hc2]
            rfl
          · refine wpAny_execs_nil ?_
            dsimp only
            refine wpAny_execs_nil ?_
            dsimp only
            refine wpAny_execs_nil ?_
            refine ⟨row.length + 1 - (j + 1), by omega, j + 1, h11, _, some (.int q.1 t), some (.str q.2 u), rfl, fr_congr F12 fun y => ?_, N12, hit12, hlt, ?_, rfl⟩
            · by_cases e1 : y = Str.ofString "char"
              · subst e1; rfl
              · by_cases e2 : y = Str.ofString "bit"
                · subst e2; rfl
                · simp only [if_neg e1, if_neg e2]
            · rw [hsg, hdrop]
              conv => lhs; unfold signT testT
              have hi0 : ¬ i = 0 := fun e => by subst e; exact absurd hc (by decide)
              rw [if_neg hi0, hc2]
              rfl
      · have hjn : j = row.length := by omega
        subst hjn
        refine wpAny_pyNext_tuple_end hh hit7 (htup.at fun o e => F7.keep _ o e) (by rw [← hisz]; simp) fun h8 hx8 => ?_
        dsimp only at hx8 ⊢
        have k8 : ∀ b o, b ≠ h₅.objs.size → h'.get? b = some o → h8.get? b = some o := fun b o hb e => hx8 b o hb e
        have F8 : Fr s.heap s.heap.objs.size h8 _ := ⟨F7.ns.at' fun o e => k8 _ o (Ne.symm hIL) e, fun b o e => k8 b o (fun q => by rw [q, hI0] at e; cases e) (F7.keep b o e), F7.above⟩
        have N8 : News s.heap s.heap.objs.size h8 (own ++ [(P, PySem.W.listOf its n)]) := fun q hq => ⟨k8 _ _ (hIown q hq) (N7 q hq).1, (N7 q hq).2⟩
        clear F7 N7 F6 N6
        refine wpAny_execs_cons ?_
        iterate 5 walk1
        refine wpAny_truthy_bool ?_
        dsimp only
        refine split_bool (fun hc => ?_) (fun hc => ?_)
        · refine wpAny_execs_cons ?_
          have NP : News s.heap s.heap.objs.size h8 [(P, PySem.W.listOf its n)] := fun q hq => N8 q (List.mem_append_right _ hq)
          iterate 2 walk1
          refine wpAny_Name (wpAny_loadName_local rfl rfl F8.ns hm2 ?_) (by decide)
          iterate 5 walk1
          refine append_K F8 N8 (upd_right hownP) (fun h13 F13 N13 => ?_) (by rw [sizeLine_eq]; omega)
          dsimp only
          refine wpAny_execs_nil ?_
          dsimp only
          refine wpAny_execs_nil ?_
          refine wpAny_execs_nil ?_
          refine fin _ _ _ _ _ F13 N13 hm1 hm2 ?_
          rw [hsg, List.drop_length]
          unfold signT
          have hi0 : i = 0 := by have := eq_of_beq hc; omega
          rw [if_pos hi0]
        · refine wpAny_execs_cons ?_
          have NP : News s.heap s.heap.objs.size h8 [(P, PySem.W.listOf its n)] := fun q hq => N8 q (List.mem_append_right _ hq)
          iterate 2 walk1
          refine wpAny_Name (wpAny_loadName_local rfl rfl F8.ns hm2 ?_) (by decide)
          iterate 5 walk1
          refine append_K F8 N8 (upd_right hownP) (fun h13 F13 N13 => ?_) (by rw [sizeLine_eq]; omega)
          dsimp only
          refine wpAny_execs_nil ?_
          dsimp only
          refine wpAny_execs_nil ?_
          refine wpAny_execs_nil ?_
          refine fin _ _ _ _ _ F13 N13 hm1 hm2 ?_
          rw [hsg, List.drop_length]
          unfold signT
          have hi0 : ¬ i = 0 := fun e => by subst e; exact absurd hc (by decide)
          rw [if_neg hi0]
    · refine ⟨0, _, _, m₁ (Str.ofString "bit"), m₁ (Str.ofString "char"), rfl, fr_congr F6 fun y => ?_, N6, hI5, Nat.zero_le _, rfl, rfl⟩
      by_cases e1 : y = Str.ofString "char"
      · subst e1; rfl
      · by_cases e2 : y = Str.ofString "bit"
        · subst e2; rfl
        · simp only [if_neg e1, if_neg e2]
  · rintro h' tk' m' news' F' N' _ ⟨hm1, hm2, its, n, rfl, hstr, hsize⟩
    dsimp only
    refine wpAny_execs_cons ?_
    clear F3 N3 F4 N4
    iterate 6 walk1
    refine wpAny_Name (wpAny_loadName_local rfl rfl F'.ns hm2 ?_) (by decide)
    iterate 1 walk1
    refine join_listW (ys := signsT mode 10) (items := its) ⟨_, (N' _ (.head _)).1, rfl, n, rfl⟩ hstr (by decide) (signs_weight mode) fun t' k => ?_
    exact ret _ _ _ F'.keep
end Mine

-- part Ptok
namespace Mine
def codes : List Nat := [38, 60, 62, 34, 13, 10, 9, 46]
def refs : List (List Nat) := [[38, 97, 109, 112, 59], [38, 108, 116, 59], [38, 103, 116, 59], [38, 113, 117, 111, 116, 59], [38, 35, 49, 51, 59], [38, 35, 49, 48, 59], [38, 35, 48, 57, 59]]
def blks : List (List Nat) := refs ++ codes.map fun c => [c]
/-- y cannot begin with s, whatever sign follows s -/
def clash : List Nat → List Nat → Bool
  | [], _ => false
  | a :: _, [] => !(codes.contains a)
  | a :: y, c :: s => if a == c then clash y s else true
def clashes (y : List Nat) : List Nat → Bool
  | [] => true
  | c :: s => clash y (c :: s) && clashes y s
def Opens (r : List Nat) : Prop := r = [] ∨ ∃ c t, r = c :: t ∧ c ∈ codes
theorem clash_pre {r : List Nat} (hr : Opens r) : ∀ (y s : List Nat), clash y s = true → y.isPrefixOf (s ++ r) = false
  | [], _, h => by cases h
  | a :: y, [], h => by
    rw [List.nil_append]
    rcases hr with rfl | ⟨c, t, rfl, hc⟩
    · rfl
    · show (a == c && y.isPrefixOf t) = false
      have hn : (a == c) = false := by
        rw [beq_eq_false_iff_ne]
        rintro rfl
        unfold clash at h
        rw [List.contains_iff_mem.mpr hc] at h
        cases h
      rw [hn, Bool.false_and]
  | a :: y, c :: s, h => by
    show (a == c && y.isPrefixOf (s ++ r)) = false
    unfold clash at h
    split at h
    · rw [clash_pre hr y s h, Bool.and_false]
    · rename_i hn
      rw [Bool.eq_false_iff.mpr hn, Bool.false_and]
theorem rep_pass (y z : List Nat) {r : List Nat} (hr : Opens r) : ∀ b : List Nat, clashes y b = true → repS y z 0 (b ++ r) = b ++ repS y z 0 r
  | [], _ => rfl
  | c :: s, h => by
    unfold clashes at h
    rw [Bool.and_eq_true] at h
    have h1 := clash_pre hr y (c :: s) h.1
    rw [List.cons_append] at h1 ⊢
    conv => lhs; unfold repS
    rw [h1, if_neg Bool.false_ne_true, rep_pass y z hr s h.2]
    rfl
theorem rep_hit (y z r : List Nat) (hy : y ≠ []) : repS y z 0 (y ++ r) = z ++ repS y z 0 r := by
  cases y with
  | nil => exact absurd rfl hy
  | cons a t =>
    rw [List.cons_append]
    conv => lhs; unfold repS
    have h : (a :: t).isPrefixOf (a :: (t ++ r)) = true := by
      rw [List.isPrefixOf_iff_prefix]; exact List.prefix_append (a :: t) r
    rw [if_pos h, repS_skip]
    congr 2
    show (t ++ r).drop (t.length + 1 - 1) = r
    rw [Nat.add_sub_cancel, List.drop_left]
theorem blk_opens : ∀ b ∈ blks, ∃ c t, b = c :: t ∧ c ∈ codes := by
  have h : ∀ b ∈ blks, b.headD 0 ∈ codes ∧ b ≠ [] := by decide
  intro b hb
  obtain ⟨h1, h2⟩ := h b hb
  cases b with
  | nil => exact absurd rfl h2
  | cons c t => exact ⟨c, t, rfl, h1⟩
theorem opens_flat : ∀ ts : List (List Nat), (∀ b ∈ ts, b ∈ blks) → Opens ts.flatten
  | [], _ => .inl rfl
  | b :: ts, h => by
    obtain ⟨c, t, rfl, hc⟩ := blk_opens b (h b (.head _))
    exact .inr ⟨c, t ++ ts.flatten, rfl, hc⟩
theorem ref_blk : ∀ y ∈ refs, ∀ b ∈ blks, b = y ∨ ((b == y) = false ∧ clashes y b = true) := by decide
def subB (y z b : List Nat) : List (List Nat) := if b == y then z.map (fun c => [c]) else [b]
theorem flat_single : ∀ z : List Nat, (z.map fun c => [c]).flatten = z
  | [] => rfl
  | c :: z => by rw [List.map_cons, List.flatten_cons, flat_single z]; rfl
theorem rep_sub (y z : List Nat) (hy : y ∈ refs) : ∀ ts : List (List Nat), (∀ b ∈ ts, b ∈ blks) → repS y z 0 ts.flatten = (ts.flatMap (subB y z)).flatten
  | [], _ => by unfold repS; rfl
  | b :: ts, h => by
    have hr := opens_flat ts fun a ha => h a (.tail _ ha)
    have ih := rep_sub y z hy ts fun a ha => h a (.tail _ ha)
    have hne : y ≠ [] := by
      have e : ∀ y ∈ refs, y ≠ [] := by decide
      exact e y hy
    rw [List.flatten_cons, List.flatMap_cons, List.flatten_append]
    rcases ref_blk y hy b (h b (.head _)) with rfl | ⟨h1, h2⟩
    · rw [rep_hit b z _ hne, ih]
      unfold subB
      rw [if_pos (beq_self_eq_true _), flat_single]
    · rw [rep_pass y z hr b h2, ih]
      unfold subB
      rw [h1, if_neg Bool.false_ne_true]
      simp
theorem sub_blk {y z : List Nat} (hz : ∀ c ∈ z, c ∈ codes) {ts : List (List Nat)} (h : ∀ b ∈ ts, b ∈ blks) : ∀ b ∈ ts.flatMap (subB y z), b ∈ blks := by
  intro b hb
  obtain ⟨a, ha, hb⟩ := List.mem_flatMap.mp hb
  unfold subB at hb
  split at hb
  · obtain ⟨c, hc, rfl⟩ := List.mem_map.mp hb
    exact List.mem_append_right _ (List.mem_map.mpr ⟨c, hz c hc, rfl⟩)
  · rw [List.mem_singleton.mp hb]; exact h a ha
def subs (W : Str → Str) (l : List (Str × Str)) (ts : List (List Nat)) : List (List Nat) := l.foldl (fun ts q => ts.flatMap (subB q.1.cps.toList (W q.2).cps.toList)) ts
theorem subs_nil (W : Str → Str) : ∀ l : List (Str × Str), subs W l [] = []
  | [] => rfl
  | _ :: l => subs_nil W l
theorem subs_append (W : Str → Str) : ∀ (l : List (Str × Str)) (a b : List (List Nat)), subs W l (a ++ b) = subs W l a ++ subs W l b
  | [], _, _ => rfl
  | q :: l, a, b => by
    show subs W l ((a ++ b).flatMap _) = subs W l (a.flatMap _) ++ subs W l (b.flatMap _)
    rw [List.flatMap_append, subs_append]
theorem subs_flat (W : Str → Str) (l : List (Str × Str)) : ∀ ts : List (List Nat), subs W l ts = ts.flatMap fun b => subs W l [b]
  | [] => subs_nil W l
  | b :: ts => by rw [List.flatMap_cons, ← subs_flat W l ts, ← subs_append]; rfl
theorem putAll_list (W : Str → Str) : ∀ (l : List (Str × Str)) (x : Str) (ts : List (List Nat)), (∀ q ∈ l, q.1.cps.toList ∈ refs ∧ 1 ≤ q.1.length ∧ ∀ c ∈ (W q.2).cps.toList, c ∈ codes) → (∀ b ∈ ts, b ∈ blks) → x.cps.toList = ts.flatten →
    (putAll W l x).cps.toList = (subs W l ts).flatten
  | [], _, _, _, _, e => e
  | q :: l, x, ts, h, hts, e => by
    have hq := h q (.head _)
    show (putAll W l (Txt.replace x q.1 (W q.2))).cps.toList = (subs W l (ts.flatMap (subB q.1.cps.toList (W q.2).cps.toList))).flatten
    refine putAll_list W l _ _ (fun a ha => h a (.tail _ ha)) (sub_blk hq.2.2 hts) ?_
    rw [replace_rep _ _ _ hq.2.1, e, rep_sub _ _ hq.1 ts hts]
theorem subB_single {y : List Nat} (hy : y ∈ refs) (z : List Nat) (c : Nat) : subB y z [c] = [[c]] := by
  have h : ∀ y ∈ refs, y.length ≠ 1 := by decide
  unfold subB
  rw [if_neg]
  intro e
  exact h y hy (by rw [← eq_of_beq e]; rfl)
theorem subs_singles (W : Str → Str) : ∀ (l : List (Str × Str)), (∀ q ∈ l, q.1.cps.toList ∈ refs) → ∀ z : List Nat, subs W l (z.map fun c => [c]) = z.map fun c => [c]
  | [], _, _ => rfl
  | q :: l, h, z => by
    show subs W l ((z.map fun c => [c]).flatMap _) = _
    have e : (z.map fun c => [c]).flatMap (subB q.1.cps.toList (W q.2).cps.toList) = z.map fun c => [c] := by
      induction z with
      | nil => rfl
      | cons c z ih => rw [List.map_cons, List.flatMap_cons, subB_single (h q (.head _)), ih]; rfl
    rw [e]
    exact subs_singles W l (fun a ha => h a (.tail _ ha)) z
theorem subs_ref (W : Str → Str) : ∀ (l : List (Str × Str)), (∀ q ∈ l, q.1.cps.toList ∈ refs) → (l.map fun q => q.1.cps.toList).Nodup → ∀ q ∈ l, subs W l [q.1.cps.toList] = (W q.2).cps.toList.map fun c => [c]
  | [], _, _, _, hq => nomatch hq
  | p :: l, h, hn, q, hq => by
    show subs W l ([q.1.cps.toList].flatMap _) = _
    rw [List.flatMap_singleton]
    rw [List.map_cons, List.nodup_cons] at hn
    rcases List.mem_cons.mp hq with rfl | hq
    · unfold subB
      rw [if_pos (beq_self_eq_true _)]
      exact subs_singles W l (fun a ha => h a (.tail _ ha)) _
    · have hne : (q.1.cps.toList == p.1.cps.toList) = false := by
        rw [beq_eq_false_iff_ne]
        intro e
        exact hn.1 (by rw [← e]; exact List.mem_map.mpr ⟨q, hq, rfl⟩)
      unfold subB
      rw [hne, if_neg Bool.false_ne_true]
      exact subs_ref W l (fun a ha => h a (.tail _ ha)) hn.2 q hq
theorem esc_blk : ∀ c ∈ codes, escL [c] ∈ blks := by decide
theorem esc_ref : ∀ c ∈ codes, c = 46 ∨ ∃ q ∈ pairs, escL [c] = q.1.cps.toList ∧ q.2 = ⟨#[c]⟩ := by decide
theorem pairs_ref : ∀ q ∈ pairs, q.1.cps.toList ∈ refs ∧ 1 ≤ q.1.length ∧ ∃ c ∈ codes, q.2 = ⟨#[c]⟩ := by decide
theorem pairs_nodup : (pairs.map fun q => q.1.cps.toList).Nodup := by decide
theorem round_list (W : Str → Str) (hW : ∀ c ∈ codes, ∀ d ∈ (W ⟨#[c]⟩).cps.toList, d ∈ codes) (hdot : (W ⟨#[46]⟩).cps.toList = [46]) (x : Str) (hx : ∀ c ∈ x.cps.toList, c ∈ codes) :
    (roundT W x).cps.toList = x.cps.toList.flatMap fun c => (W ⟨#[c]⟩).cps.toList := by
  unfold roundT
  have hts : (escT x).cps.toList = (x.cps.toList.map fun c => escL [c]).flatten := by rw [escT_list, escL_hom.flat, List.flatMap_def]
  rw [putAll_list W pairs (escT x) (x.cps.toList.map fun c => escL [c]) (fun q hq => by
      obtain ⟨h1, h2, c, hc, e⟩ := pairs_ref q hq
      exact ⟨h1, h2, by rw [e]; exact hW c hc⟩) (fun b hb => by
      obtain ⟨c, hc, rfl⟩ := List.mem_map.mp hb
      exact esc_blk c (hx c hc)) hts]
  rw [subs_flat]
  have key : ∀ c ∈ codes, (subs W pairs [escL [c]]).flatten = (W ⟨#[c]⟩).cps.toList := by
    intro c hc
    rcases esc_ref c hc with rfl | ⟨q, hq, e1, e2⟩
    · have e3 : escL [46] = [46] := by decide
      rw [e3, hdot]
      have := subs_singles W pairs (fun q hq => (pairs_ref q hq).1) [46]
      rw [List.map_singleton] at this
      rw [this]; rfl
    · rw [e1, subs_ref W pairs (fun q hq => (pairs_ref q hq).1) pairs_nodup q hq, flat_single, e2]
  generalize x.cps.toList = l at hx
  clear hts
  induction l with
  | nil => rfl
  | cons c l ih =>
    rw [List.map_cons, List.flatMap_cons, List.flatten_append, ih (fun a ha => hx a (.tail _ ha)), key c (hx c (.head _)), List.flatMap_cons]
end Mine

-- part Pwrd
namespace Mine
def keyAt (j : Nat) : Str := keys.getD j (Str.ofString "")
/-- the word of a sign -/
def wordOf (ns : List Int) (k : Str) : Str := wordT ns (keys.idxOf k)
def itT (ns : List Int) (x : Str) : Nat → Str
  | 0 => x
  | i + 1 => roundT (wordOf ns) (itT ns x i)

def w2 (a b : Nat) : Str := (⟨#[sgn.cps.getD a 0]⟩ : Str) ++ Txt.slice sgn (some (b : Int)) (some ((b : Int) + 1))
def sons (x : Str) : Nat × Nat := ((x ++ Str.ofString "  ").cps.getD 0 0, (x ++ Str.ofString "  ").cps.getD 1 0)
def okW (x : Str) : Bool := decide (x.length ≤ 2) && x.cps.toList.all (codes.contains ·) && (x.cps.toList == [(sons x).1, (sons x).2].filter (· != 32)) && (32 :: codes).contains (sons x).1 && (32 :: codes).contains (sons x).2
theorem w2_ok : ∀ a, a < 8 → ∀ b, b < 9 → okW (w2 a b) = true := by decide +kernel
theorem third_w2 : ∀ k : Nat, k < 7 → Str.ofString "&" ++ Txt.slice (Txt.slice sgn (some ((k : Int) + 1)) (some 7)) none (some 1) = w2 0 (if k < 6 then k + 1 else 8) := by decide +kernel
theorem word_ok (ns : List Int) (k : Nat) : okW (wordT ns k) = true := by
  unfold wordT
  split
  · split
    · decide +kernel
    · decide +kernel
  · split
    · have h8 : 0 ≤ (ns.getD k 0).fmod 8 ∧ (ns.getD k 0).fmod 8 < 8 := ⟨Int.fmod_nonneg_of_pos _ (by decide), Int.fmod_lt_of_pos _ (by decide)⟩
      have h9 : 0 ≤ ((ns.getD k 0).fdiv 8 + k + 1).fmod 9 ∧ ((ns.getD k 0).fdiv 8 + k + 1).fmod 9 < 9 := ⟨Int.fmod_nonneg_of_pos _ (by decide), Int.fmod_lt_of_pos _ (by decide)⟩
      generalize ((ns.getD k 0).fdiv 8 + k + 1).fmod 9 = q at h9 ⊢
      have e : (((q.toNat : Nat)) : Int) = q := Int.toNat_of_nonneg h9.1
      have h := w2_ok ((ns.getD k 0).fmod 8).toNat (by omega) q.toNat (by omega)
      unfold w2 at h
      rw [e] at h
      exact h
    · rw [third_w2 k (by omega)]
      exact w2_ok 0 (by omega) _ (by split <;> omega)
theorem word_len (ns : List Int) (k : Nat) : (wordT ns k).length ≤ 2 := by
  have h := word_ok ns k
  unfold okW at h
  simp only [Bool.and_eq_true] at h
  exact of_decide_eq_true h.1.1.1.1
theorem word_codes (ns : List Int) (k : Nat) : ∀ c ∈ (wordT ns k).cps.toList, c ∈ codes := by
  have h := word_ok ns k
  unfold okW at h
  simp only [Bool.and_eq_true] at h
  intro c hc
  exact List.contains_iff_mem.mp (List.all_eq_true.mp h.1.1.1.2 c hc)
theorem word_sons (ns : List Int) (k : Nat) : (wordT ns k).cps.toList = [(sons (wordT ns k)).1, (sons (wordT ns k)).2].filter (· != 32) ∧ (sons (wordT ns k)).1 ∈ 32 :: codes ∧ (sons (wordT ns k)).2 ∈ 32 :: codes := by
  have h := word_ok ns k
  unfold okW at h
  simp only [Bool.and_eq_true] at h
  exact ⟨eq_of_beq h.1.1.2, List.contains_iff_mem.mp h.1.2, List.contains_iff_mem.mp h.2⟩
def wl (ns : List Int) (c : Nat) : List Nat := (wordOf ns ⟨#[c]⟩).cps.toList
def itL (ns : List Int) : Nat → List Nat → List Nat
  | 0, l => l
  | i + 1, l => (itL ns i l).flatMap (wl ns)
theorem wl_dot (ns : List Int) : (wordOf ns ⟨#[46]⟩).cps.toList = [46] := by
  unfold wordOf
  have e : keys.idxOf (⟨#[46]⟩ : Str) = 7 := by decide
  rw [e]
  unfold wordT
  rw [if_pos (by decide), if_pos rfl]
  decide
theorem flat_codes {g : Nat → List Nat} (h : ∀ c, ∀ d ∈ g c, d ∈ codes) (l : List Nat) : ∀ d ∈ l.flatMap g, d ∈ codes := by
  intro d hd
  obtain ⟨c, _, hc⟩ := List.mem_flatMap.mp hd
  exact h c d hc
theorem itT_list (ns : List Int) (x : Str) (hx : ∀ c ∈ x.cps.toList, c ∈ codes) : ∀ i, (itT ns x i).cps.toList = itL ns i x.cps.toList ∧ ∀ c ∈ (itT ns x i).cps.toList, c ∈ codes
  | 0 => ⟨rfl, hx⟩
  | i + 1 => by
    obtain ⟨h1, h2⟩ := itT_list ns x hx i
    have e : (itT ns x (i + 1)).cps.toList = itL ns (i + 1) x.cps.toList := by
      show (roundT (wordOf ns) (itT ns x i)).cps.toList = (itL ns i x.cps.toList).flatMap (wl ns)
      rw [round_list (wordOf ns) (fun c _ => word_codes ns _) (wl_dot ns) _ h2, h1]
      rfl
    refine ⟨e, ?_⟩
    rw [e]
    exact flat_codes (fun c => word_codes ns _) _
theorem itL_len (ns : List Int) (l : List Nat) : ∀ i, (itL ns i l).length ≤ 2 ^ i * l.length
  | 0 => by show l.length ≤ 1 * l.length; omega
  | i + 1 => by
    have h1 : ((itL ns i l).flatMap (wl ns)).length ≤ 2 * (itL ns i l).length := flat_len (fun c => word_len ns _) _
    have h2 := itL_len ns l i
    show ((itL ns i l).flatMap (wl ns)).length ≤ 2 ^ (i + 1) * l.length
    rw [Nat.pow_succ, Nat.mul_comm (2 ^ i) 2, Nat.mul_assoc]
    omega
theorem key_codes : ∀ i, i < 7 → (∀ c ∈ (keyAt i).cps.toList, c ∈ codes) ∧ (keyAt i).cps.toList.length = 1 := by decide
theorem itT_len (ns : List Int) (i0 i : Nat) (h0 : i0 < 7) (hi : i ≤ 4) : (itT ns (keyAt i0) i).length ≤ 16 := by
  obtain ⟨h1, h2⟩ := key_codes i0 h0
  have h3 := itL_len ns (keyAt i0).cps.toList i
  rw [← (itT_list ns _ h1 i).1, h2] at h3
  have e : (itT ns (keyAt i0) i).cps.toList.length = (itT ns (keyAt i0) i).length := Array.length_toList
  have h4 : 2 ^ i ≤ 2 ^ 4 := Nat.pow_le_pow_right (by decide) hi
  rw [e] at h3
  omega
theorem wordT_len (ns : List Int) (k : Nat) (hk : k < 9) : (wordT ns k).length ≤ 2 := word_len ns k
end Mine

-- part Plaw
namespace Mine
/-- a row of signs -/
def rowT (mode : Int) : Str := Txt.join (Str.ofString "") (signsT mode 10)
theorem join_is (sep : Str) (l : List Str) : Txt.join sep l = Str.join sep l := eq_of_beq (join_plain_closes sep l)
theorem rowT_len (mode : Int) : (rowT mode).length ≤ 10 := by
  unfold rowT
  rw [join_is]
  refine Nat.le_trans (StrLaws.join_length_le _ _) ?_
  rw [sum_ones _ (signs_one mode 10)]
  have : (signsT mode 10).length = 10 := by unfold signsT; rw [List.length_map, List.length_range]
  rw [this]
  decide
/-- the part of it that is read -/
def partT (lo R : Nat) (mode : Int) : Str := Txt.slice (rowT mode) (some (10 - (lo : Int) - (R : Int))) (some (10 - (lo : Int)))
/-- the way down the tree -/
def pathT (ns : List Int) (k x : Str) : Nat → Str
  | 0 => k
  | i + 1 => ledT (wordOf ns (pathT ns k x i)) ⟨#[x.cps.getD i 0]⟩
def leafT (ns : List Int) (k : Str) (lo R C0 U j : Nat) : Str := pathT ns k (partT lo R ((C0 : Int) + (j : Int) * (U : Int))) (partT lo R ((C0 : Int) + (j : Int) * (U : Int))).cps.size
def leaves (ns : List Int) (k : Str) (lo R C0 U n : Nat) : List Str := (List.range n).map (leafT ns k lo R C0 U)
def live (x : Str) : Bool := !(x == Str.ofString " ")

theorem led_sons (x r : Str) : ledT x r = ⟨#[if here r then (sons x).2 else (sons x).1]⟩ := by
  unfold ledT sons
  cases here r <;> rfl
theorem codes_keys : ∀ c ∈ 32 :: codes, (⟨#[c]⟩ : Str) ∈ keys := by decide
theorem led_key (ns : List Int) (k r : Str) : ledT (wordOf ns k) r ∈ keys := by
  rw [led_sons]
  have h := (word_sons ns (keys.idxOf k)).2
  refine codes_keys _ ?_
  unfold wordOf
  split
  · exact h.2
  · exact h.1
def son (ns : List Int) (c : Nat) (b : Bool) : Nat := if b then (sons (wordOf ns ⟨#[c]⟩)).2 else (sons (wordOf ns ⟨#[c]⟩)).1
theorem path_walk (ns : List Int) (c : Nat) (x : Str) : ∀ i, pathT ns ⟨#[c]⟩ x i = ⟨#[((List.range i).map fun t => here ⟨#[x.cps.getD t 0]⟩).foldl (son ns) c]⟩
  | 0 => rfl
  | i + 1 => by
    show ledT (wordOf ns (pathT ns ⟨#[c]⟩ x i)) ⟨#[x.cps.getD i 0]⟩ = _
    rw [path_walk ns c x i, led_sons, List.range_succ, List.map_append, List.foldl_append]
    rfl
def bitsOf (R j : Nat) : List Bool := (List.range R).map fun t => j.testBit (R - 1 - t)
theorem bitsOf_succ (R j : Nat) : bitsOf (R + 1) j = j.testBit R :: bitsOf R j := by
  unfold bitsOf
  rw [List.range_succ_eq_map, List.map_cons, List.map_map]
  refine congr (congrArg List.cons ?_) ?_
  · rfl
  · refine List.map_congr_left fun t _ => ?_
    show j.testBit (R + 1 - 1 - (t + 1)) = j.testBit (R - 1 - t)
    congr 1
    omega
theorem bitsOf_low (R j : Nat) : bitsOf R (2 ^ R + j) = bitsOf R j := by
  unfold bitsOf
  refine List.map_congr_left fun t ht => ?_
  have := List.mem_range.mp ht
  exact Nat.testBit_two_pow_add_gt (by omega) j
def lv (ns : List Int) (R c : Nat) : List Nat := (List.range (2 ^ R)).map fun j => (bitsOf R j).foldl (son ns) c
theorem lv_succ (ns : List Int) (R c : Nat) : lv ns (R + 1) c = lv ns R (son ns c false) ++ lv ns R (son ns c true) := by
  unfold lv
  have e : 2 ^ (R + 1) = 2 ^ R + 2 ^ R := by rw [Nat.pow_succ]; omega
  rw [e, List.range_add, List.map_append, List.map_map]
  congr 1
  · refine List.map_congr_left fun j hj => ?_
    rw [bitsOf_succ, List.foldl_cons, Nat.testBit_lt_two_pow (List.mem_range.mp hj)]
  · refine List.map_congr_left fun j hj => ?_
    show (bitsOf (R + 1) (2 ^ R + j)).foldl (son ns) c = _
    have hb : (2 ^ R + j).testBit R = true := by
      rw [Nat.testBit_two_pow_add_eq, Nat.testBit_lt_two_pow (List.mem_range.mp hj)]; rfl
    rw [bitsOf_succ, List.foldl_cons, hb, bitsOf_low]
theorem itL_in (ns : List Int) (l : List Nat) : ∀ i, itL ns (i + 1) l = itL ns i (l.flatMap (wl ns))
  | 0 => rfl
  | i + 1 => by
    show (itL ns (i + 1) l).flatMap (wl ns) = (itL ns i (l.flatMap (wl ns))).flatMap (wl ns)
    rw [itL_in ns l i]
theorem itL_nil (ns : List Int) : ∀ i, itL ns i [] = []
  | 0 => rfl
  | i + 1 => by rw [itL_in]; exact itL_nil ns i
theorem itL_app (ns : List Int) : ∀ i a b, itL ns i (a ++ b) = itL ns i a ++ itL ns i b
  | 0, _, _ => rfl
  | i + 1, a, b => by
    show (itL ns i (a ++ b)).flatMap (wl ns) = (itL ns i a).flatMap (wl ns) ++ (itL ns i b).flatMap (wl ns)
    rw [itL_app ns i a b, List.flatMap_append]
theorem wl_space (ns : List Int) : wl ns 32 = [] := by
  unfold wl wordOf
  have e : keys.idxOf (⟨#[32]⟩ : Str) = 8 := by decide
  rw [e]
  unfold wordT
  rw [if_pos (by decide), if_neg (by decide)]
  decide
theorem flat_filter (ns : List Int) (c : Nat) : ([c].filter (· != 32)).flatMap (wl ns) = [son ns c false].filter (· != 32) ++ [son ns c true].filter (· != 32) := by
  have h : wl ns c = [son ns c false, son ns c true].filter (· != 32) := (word_sons ns _).1
  have e : [son ns c false, son ns c true].filter (· != 32) = [son ns c false].filter (· != 32) ++ [son ns c true].filter (· != 32) := List.filter_append [son ns c false] [son ns c true]
  rw [← e, ← h]
  by_cases hc : c = 32
  · subst hc
    rw [wl_space]; rfl
  · have e2 : [c].filter (· != 32) = [c] := by
      rw [List.filter_cons, if_pos (by simpa using hc)]; rfl
    rw [e2, List.flatMap_singleton]
theorem tree (ns : List Int) : ∀ R c, itL ns R ([c].filter (· != 32)) = (lv ns R c).filter (· != 32)
  | 0, c => rfl
  | R + 1, c => by
    rw [itL_in, flat_filter, itL_app, tree ns R, tree ns R, lv_succ, List.filter_append]

theorem join_list_flat : ∀ l : List Str, (Str.join (Str.ofString "") l).cps.toList = l.flatMap fun s => s.cps.toList
  | [] => rfl
  | [x] => by show x.cps.toList = _; rw [List.flatMap_singleton]
  | x :: y :: r => by
    show (x ++ Str.ofString "" ++ Str.join (Str.ofString "") (y :: r)).cps.toList = _
    rw [Str.cps_append, Str.cps_append, Array.toList_append, Array.toList_append, join_list_flat (y :: r)]
    show x.cps.toList ++ [] ++ _ = _
    rw [List.append_nil]
    rfl
theorem join_live (l : List Nat) : (Txt.join (Str.ofString "") ((l.map fun d => (⟨#[d]⟩ : Str)).filter live)).cps.toList = l.filter (· != 32) := by
  rw [join_is, join_list_flat]
  induction l with
  | nil => rfl
  | cons d l ih =>
    rw [List.map_cons, List.filter_cons, List.filter_cons]
    have e : live ⟨#[d]⟩ = (d != 32) := by
      unfold live
      by_cases h : d = 32
      · subst h; decide
      · have h2 : (⟨#[d]⟩ : Str) ≠ Str.ofString " " := fun e => h (by
          have := congrArg (fun s : Str => s.cps.getD 0 0) e
          exact this)
        rw [beq_eq_false_iff_ne.mpr h2, bne_iff_ne.mpr h]; rfl
    rw [e]
    split
    · rw [List.flatMap_cons, ih]; rfl
    · exact ih

theorem and_pow (n k : Nat) : n &&& 2 ^ k = (n.testBit k).toNat * 2 ^ k := by
  refine Nat.eq_of_testBit_eq fun i => ?_
  rw [Nat.testBit_and, Nat.testBit_two_pow]
  cases h : n.testBit k
  · rw [Bool.toNat_false, Nat.zero_mul, Nat.zero_testBit]
    by_cases hi : k = i
    · subst hi; rw [h, Bool.false_and]
    · rw [decide_eq_false hi, Bool.and_false]
  · rw [Bool.toNat_true, Nat.one_mul, Nat.testBit_two_pow]
    by_cases hi : k = i
    · subst hi; rw [h, Bool.true_and]
    · rw [decide_eq_false hi, Bool.and_false]
theorem here_lit {x : Str} (c : Nat) (e : x = ⟨#[c]⟩) {b : Bool} (h : decide (c ∈ [114, 119, 120, 115, 116]) = b) : here x = b := by
  subst e
  rw [← h]
  exact StrLaws.found_one (Str.ofString "rwxst") c
theorem here_r : here (Str.ofString "r") = true := here_lit 114 rfl (by decide)
theorem here_w : here (Str.ofString "w") = true := here_lit 119 rfl (by decide)
theorem here_x : here (Str.ofString "x") = true := here_lit 120 rfl (by decide)
theorem here_s : here (Str.ofString "s") = true := here_lit 115 rfl (by decide)
theorem here_t : here (Str.ofString "t") = true := here_lit 116 rfl (by decide)
theorem here_S : here (Str.ofString "S") = false := here_lit 83 rfl (by decide)
theorem here_T : here (Str.ofString "T") = false := here_lit 84 rfl (by decide)
theorem here_d : here (Str.ofString "-") = false := here_lit 45 rfl (by decide)
theorem bit1 (n k : Nat) {B : Int} (hB : B = ((2 ^ k : Nat) : Int)) : (Builtin.bitAnd (n : Int) B == B) = n.testBit k := by
  subst hB
  rw [bitAnd_pp (Int.natCast_nonneg _) (Int.natCast_nonneg _), Int.toNat_natCast, Int.toNat_natCast, and_pow]
  have hp : 0 < 2 ^ k := Nat.two_pow_pos k
  cases n.testBit k
  · rw [beq_eq_false_iff_ne]
    intro e
    have e' : (false.toNat * 2 ^ k : Nat) = 2 ^ k := Int.ofNat.inj e
    rw [Bool.toNat_false, Nat.zero_mul] at e'
    omega
  · rw [Bool.toNat_true, Nat.one_mul, beq_self_eq_true]
theorem bit2 (n a b m : Nat) {B : Int} (hB : B = (m : Int)) (hm : m = 2 ^ a ||| 2 ^ b) (h1 : 2 ^ a ≠ m) (h2 : 2 ^ b ≠ m) (h0 : 0 ≠ m) : (Builtin.bitAnd (n : Int) B == B) = (n.testBit a && n.testBit b) := by
  subst hB
  rw [bitAnd_pp (Int.natCast_nonneg _) (Int.natCast_nonneg _), Int.toNat_natCast, Int.toNat_natCast]
  have e : n &&& m = (n.testBit a).toNat * 2 ^ a ||| (n.testBit b).toNat * 2 ^ b := by
    conv => lhs; rw [hm]
    rw [Nat.and_or_distrib_left, and_pow, and_pow]
  rw [e]
  have ne : ∀ x : Nat, x ≠ m → (((x : Nat) : Int) == (m : Int)) = false := fun x hx => by
    rw [beq_eq_false_iff_ne]
    exact fun e => hx (Int.ofNat.inj e)
  cases n.testBit a <;> cases n.testBit b
  · rw [Bool.toNat_false, Nat.zero_mul, Nat.zero_mul, Nat.or_zero, ne 0 h0]; rfl
  · rw [Bool.toNat_false, Bool.toNat_true, Nat.zero_mul, Nat.one_mul, Nat.zero_or, ne _ h2]; rfl
  · rw [Bool.toNat_false, Bool.toNat_true, Nat.zero_mul, Nat.one_mul, Nat.or_zero, ne _ h1]; rfl
  · rw [Bool.toNat_true, Nat.one_mul, Nat.one_mul, ← hm, beq_self_eq_true]; rfl
theorem here_one (n i k : Nat) (hi : i ≠ 0) {B : Int} (hB : B = ((2 ^ k : Nat) : Int)) {c : Str} (hc : here c = true) : here (signT (n : Int) i [(B, c)]) = n.testBit k := by
  unfold signT signT testT
  rw [if_neg hi, if_neg hi, bit1 n k hB]
  have hm : here (Str.ofString "-") = false := here_d
  cases n.testBit k
  · rw [if_neg Bool.false_ne_true, hm]
  · rw [if_pos rfl, hc]
theorem here_three (n i a b m : Nat) (hi : i ≠ 0) {M A B : Int} (hM : M = (m : Int)) (hm : m = 2 ^ a ||| 2 ^ b) (h1 : 2 ^ a ≠ m) (h2 : 2 ^ b ≠ m) (h0 : 0 ≠ m) (hA : A = ((2 ^ a : Nat) : Int)) (hB : B = ((2 ^ b : Nat) : Int))
    {c1 c2 c3 : Str} (e1 : here c1 = true) (e2 : here c2 = false) (e3 : here c3 = true) : here (signT (n : Int) i [(M, c1), (A, c2), (B, c3)]) = n.testBit b := by
  unfold signT signT signT signT testT
  rw [if_neg hi, if_neg hi, if_neg hi, if_neg hi, bit2 n a b m hM hm h1 h2 h0, bit1 n a hA, bit1 n b hB]
  have hd : here (Str.ofString "-") = false := here_d
  cases n.testBit a <;> cases n.testBit b
  · exact hd
  · exact e3
  · exact e2
  · exact e1
theorem here_sign (n p : Nat) (h1 : 1 ≤ p) (h9 : p ≤ 9) : here (signT (n : Int) p (rows.getD p [])) = n.testBit (9 - p) := by
  match p, h1, h9 with
  | 1, _, _ => exact here_one n 1 8 (by decide) rfl here_r
  | 2, _, _ => exact here_one n 2 7 (by decide) rfl here_w
  | 3, _, _ => exact here_three n 3 11 6 2112 (by decide) rfl (by decide) (by decide) (by decide) (by decide) rfl rfl here_s here_S here_x
  | 4, _, _ => exact here_one n 4 5 (by decide) rfl here_r
  | 5, _, _ => exact here_one n 5 4 (by decide) rfl here_w
  | 6, _, _ => exact here_three n 6 10 3 1032 (by decide) rfl (by decide) (by decide) (by decide) (by decide) rfl rfl here_s here_S here_x
  | 7, _, _ => exact here_one n 7 2 (by decide) rfl here_r
  | 8, _, _ => exact here_one n 8 1 (by decide) rfl here_w
  | 9, _, _ => exact here_three n 9 9 0 513 (by decide) rfl (by decide) (by decide) (by decide) (by decide) rfl rfl here_t here_T here_x
theorem one_str {x : Str} (h : x.length = 1) : x = ⟨#[x.cps.getD 0 0]⟩ := by
  obtain ⟨⟨l⟩⟩ := x
  match l, h with
  | [c], _ => rfl
theorem ones_flat : ∀ l : List Str, (∀ x ∈ l, x.length = 1) → (l.flatMap fun s => s.cps.toList) = l.map fun s => s.cps.getD 0 0
  | [], _ => rfl
  | x :: l, h => by
    rw [List.flatMap_cons, List.map_cons, ← ones_flat l fun a ha => h a (.tail _ ha)]
    conv => lhs; rw [one_str (h x (.head _))]
    rfl
theorem row_list (mode : Int) : (rowT mode).cps.toList = (List.range 10).map fun p => (signT mode p (rows.getD p [])).cps.getD 0 0 := by
  unfold rowT
  rw [join_is, join_list_flat, ones_flat _ (signs_one mode 10)]
  unfold signsT
  rw [List.map_map]
  rfl
theorem part_list (lo R : Nat) (mode : Int) (hlo : lo < 5) (hR : R ≤ 5) : (partT lo R mode).cps.toList = (((List.range 10).map fun p => (signT mode p (rows.getD p [])).cps.getD 0 0).drop (10 - lo - R)).take R := by
  have hl : (rowT mode).length = 10 := by
    show (rowT mode).cps.size = 10
    rw [← Array.length_toList, row_list, List.length_map, List.length_range]
  have e1 : (10 : Int) - (lo : Int) - (R : Int) = ((10 - lo - R : Nat) : Int) := by omega
  have e2 : (10 : Int) - (lo : Int) = ((10 - lo : Nat) : Int) := by omega
  have e : partT lo R mode = StrLaws.sliceText (rowT mode) (some ((10 - lo - R : Nat) : Int)) (some ((10 - lo : Nat) : Int)) := by
    unfold partT
    rw [e1, e2]
    rfl
  rw [e, StrLaws.sliceText_nat (rowT mode) (by omega) (by omega), row_list]
  show List.take _ _ = _
  congr 1
  omega
theorem part_at (lo R t : Nat) (mode : Int) (hlo : lo < 5) (hR : R ≤ 5) (ht : t < R) : (⟨#[(partT lo R mode).cps.getD t 0]⟩ : Str) = signT mode (10 - lo - R + t) (rows.getD (10 - lo - R + t) []) := by
  have h : (partT lo R mode).cps.toList[t]? = some ((signT mode (10 - lo - R + t) (rows.getD (10 - lo - R + t) [])).cps.getD 0 0) := by
    rw [part_list lo R mode hlo hR, List.getElem?_take_of_lt ht, List.getElem?_drop, List.getElem?_map, List.getElem?_range (by omega)]
    rfl
  rw [StrLaws.getD_of_getElem? h]
  refine (one_str ?_).symm
  refine signs_one mode 10 _ ?_
  unfold signsT
  exact List.mem_map.mpr ⟨10 - lo - R + t, List.mem_range.mpr (by omega), rfl⟩
theorem part_size (lo R : Nat) (mode : Int) (hlo : lo < 5) (hR : R ≤ 5) : (partT lo R mode).cps.size = R := by
  rw [← Array.length_toList, part_list lo R mode hlo hR, List.length_take, List.length_drop, List.length_map, List.length_range]
  omega
theorem mode_bit (B lo R j k : Nat) (hj : j < 2 ^ R) (hk : k < R) : (B - B / 2 ^ lo % 2 ^ R * 2 ^ lo + j * 2 ^ lo).testBit (lo + k) = j.testBit k := by
  have hU : 0 < 2 ^ lo := Nat.two_pow_pos lo
  have e : B - B / 2 ^ lo % 2 ^ R * 2 ^ lo + j * 2 ^ lo = 2 ^ lo * (2 ^ R * (B / 2 ^ lo / 2 ^ R) + j) + B % 2 ^ lo := by
    have h1 := Nat.div_add_mod B (2 ^ lo)
    have h2 := Nat.div_add_mod (B / 2 ^ lo) (2 ^ R)
    generalize B / 2 ^ lo / 2 ^ R = q at *
    generalize B / 2 ^ lo % 2 ^ R = r at *
    generalize B % 2 ^ lo = s at *
    rw [← h2, Nat.mul_add] at h1
    rw [Nat.mul_add, Nat.mul_comm r, Nat.mul_comm j]
    omega
  rw [e, Nat.testBit_two_pow_mul_add _ (Nat.mod_lt _ hU), if_neg (by omega), Nat.add_sub_cancel_left, Nat.testBit_two_pow_mul_add _ hj, if_pos hk]
theorem leaf_is (ns : List Int) (c lo R C0 U B j : Nat) (hlo : lo < 5) (hR : R ≤ 5) (hU : U = 2 ^ lo) (hC : C0 = B - B / U % 2 ^ R * U) (hj : j < 2 ^ R) : leafT ns ⟨#[c]⟩ lo R C0 U j = ⟨#[(bitsOf R j).foldl (son ns) c]⟩ := by
  unfold leafT
  have e : (C0 : Int) + (j : Int) * (U : Int) = ((C0 + j * U : Nat) : Int) := by push_cast; rfl
  rw [e, path_walk, part_size lo R _ hlo hR]
  refine congrArg (fun l => (⟨#[List.foldl (son ns) c l]⟩ : Str)) ?_
  unfold bitsOf
  refine List.map_congr_left fun t ht => ?_
  have ht' := List.mem_range.mp ht
  rw [part_at lo R t _ hlo hR ht', here_sign _ _ (by omega) (by omega), hC, hU]
  have e2 : 9 - (10 - lo - R + t) = lo + (R - 1 - t) := by omega
  rw [e2, mode_bit B lo R j _ hj (by omega)]
theorem key_one : ∀ i, i < 7 → ∃ c ∈ codes, keyAt i = ⟨#[c]⟩ := by decide
theorem codes_not : ∀ c ∈ codes, (c != 32) = true := by decide
theorem law_pure (ns : List Int) (i0 lo R U V C0 B : Nat) (h0 : i0 < 7) (hlo : lo < 5) (hR : R ≤ 5) (hU : U = 2 ^ lo) (hV : V = 2 ^ R) (hC : C0 = B - B / U % V * U) :
    itT ns (keyAt i0) R = Txt.join (Str.ofString "") ((leaves ns (keyAt i0) lo R C0 U V).filter live) := by
  obtain ⟨c, hc, e⟩ := key_one i0 h0
  have e1 : leaves ns (keyAt i0) lo R C0 U V = (lv ns R c).map fun d => (⟨#[d]⟩ : Str) := by
    unfold leaves lv
    rw [List.map_map, hV, e]
    refine List.map_congr_left fun j hj => ?_
    exact leaf_is ns c lo R C0 U B j hlo hR hU (by rw [hC, hV]) (List.mem_range.mp hj)
  have h1 := (itT_list ns (keyAt i0) (key_codes i0 h0).1 R).1
  have e2 : (keyAt i0).cps.toList = [c].filter (· != 32) := by
    rw [e, List.filter_cons, if_pos (codes_not c hc)]; rfl
  rw [e2, tree] at h1
  refine Str.ext' (Array.toList_inj.mp ?_)
  rw [h1, e1, join_live]
end Mine

-- part Law0
namespace Mine

noncomputable def lawParts (w : World) : Option (List Stmt × Scope) :=
  match (hd.heap_39 w.params).lookup 110 with
  | some ⟨_, _, .func fd, _⟩ => (match fd.body with
    | .stmts b => some (b, fd.scope)
    | _ => none)
  | _ => none

def LawSpec (w : World) (bd : List Stmt) (sc : Scope) : Prop :=
  ∀ (p : Program) (loose : List Str) (mean : ExcName → Option Value) (mg mb : Str → Option Value) (h₀ : Heap) (s : Shared) (L fa l : Addr) (cd : Value) (co : Obj) (vs : List Value) (ns : List Int) (Q : Flow → Shared → Prop) (E : Value → Shared → Prop),
    (hd.heap_39 w.params).In h₀ → Top p loose mean mg mb h₀ → CodeHd h₀ 104 100 → CodeHd h₀ 97 93 → h₀.IsList l vs.toArray → IntsAre vs ns → ns.length ≤ 63 → (PyData.list (ns.map PyData.int)).layable0 = true →
    Fr h₀ L s.heap (fun _ => none) → News h₀ L s.heap [(L + 1, co), (100, tabObj #[]), (93, tabObj #[])] → co.data = .cell (some (.ref l)) →
    (∀ h' tk m' ps ps', Fr h₀ L h' m' → News h₀ L h' [(100, tabObj ps), (93, tabObj ps')] → Q (.ret (.bool true)) { s with heap := h', toks := tk }) →
    wpAny (model PG w) (callerA.deeper (envOfC (Str.ofString "law") sc L fa cd)) (execs bd (envOfC (Str.ofString "law") sc L fa cd)) Q E s

theorem keyAt_inj : ∀ i j : Nat, i < 9 → j < 9 → keyAt i = keyAt j → i = j := by
  have h : ∀ i, i < 9 → ∀ j, j < 9 → keyAt i = keyAt j → i = j := by decide
  exact fun i j hi hj => h i hi j hj
/-- what the table holds after i turns -/
def TabJ (ns : List Int) (i : Nat) (kvs : List (Str × Value)) (tk : Nat) : Prop :=
  kvs.length = i ∧ i ≤ 9 ∧ ∀ j, j < i → ∃ t : Nat, kvs[j]? = some (keyAt j, .str (wordT ns j) t) ∧ 0 < t ∧ t < tk
theorem tabJ_step {ns : List Int} {i : Nat} {kvs : List (Str × Value)} {tk tk' t : Nat} (h : TabJ ns i kvs tk) (hi : i < 9) (hle : tk ≤ tk') (h0 : 0 < t) (ht : t < tk') : TabJ ns (i + 1) (stored kvs (keyAt i) (.str (wordT ns i) t)) tk' := by
  obtain ⟨h1, h2, h3⟩ := h
  have hnot : keyAt i ∉ kvs.map (·.1) := by
    intro hm
    obtain ⟨q, hq, e⟩ := List.mem_map.mp hm
    obtain ⟨j, hj, hjq⟩ := List.mem_iff_getElem.mp hq
    obtain ⟨t', e', _⟩ := h3 j (by omega)
    rw [List.getElem?_eq_getElem hj, hjq] at e'
    have e2 : q.1 = keyAt j := by rw [Option.some.inj e']
    have := keyAt_inj j i (by omega) hi (e2.symm.trans e)
    omega
  rw [stored_absent (valueAt_none_of_not_mem hnot)]
  refine ⟨by rw [List.length_append, h1]; rfl, hi, fun j hj => ?_⟩
  by_cases hji : j < i
  · obtain ⟨t', e', h4, h5⟩ := h3 j hji
    exact ⟨t', by rw [List.getElem?_append_left (by omega)]; exact e', h4, by omega⟩
  · have : j = i := by omega
    subst this
    exact ⟨t, by rw [List.getElem?_append_right (by omega), h1, Nat.sub_self]; rfl, h0, ht⟩

theorem gen_toks {α : Type} {M : Model} {A : Around} {t : Sem α} {Q : α → Shared → Prop} {E : Value → Shared → Prop} {s : Shared} (hp : 0 < s.toks) (h : ∀ T : Nat, 0 < T → wpAny M A t Q E { s with toks := T }) : wpAny M A t Q E s := h s.toks hp


/-- what is left from the fifth statement on -/
def RestSpec (w : World) (bd : List Stmt) (sc : Scope) : Prop :=
  ∀ (p : Program) (loose : List Str) (mean : ExcName → Option Value) (mg mb : Str → Option Value) (h₀ : Heap) (s : Shared) (L fa d : Addr) (cd : Value) (od : Obj) (kvs : List (Str × Value)) (ns : List Int) (m : Str → Option Value) (R i0 : Nat) (tt tr tf : Tok)
    (Q : Flow → Shared → Prop) (E : Value → Shared → Prop),
    (hd.heap_39 w.params).In h₀ → Top p loose mean mg mb h₀ → CodeHd h₀ 104 100 → CodeHd h₀ 97 93 → ns.length ≤ 63 → (PyData.list (ns.map PyData.int)).layable0 = true → 3 ≤ R → R ≤ 5 → i0 < 7 →
    Fr h₀ L s.heap m → m (Str.ofString "total") = some (.int ns.sum tt) → m (Str.ofString "rounds") = some (.int (R : Int) tr) → m (Str.ofString "first") = some (.str (keyAt i0) tf) → m (Str.ofString "table") = some (.ref d) →
    News h₀ L s.heap [(d, od), (100, tabObj #[]), (93, tabObj #[])] → od.IsDictOf (PySem.strKind PG w) kvs → TabJ ns 9 kvs s.toks → 0 < s.toks →
    (∀ h' tk m' ps ps', Fr h₀ L h' m' → News h₀ L h' [(100, tabObj ps), (93, tabObj ps')] → Q (.ret (.bool true)) { s with heap := h', toks := tk }) →
    wpAny (model PG w) (callerA.deeper (envOfC (Str.ofString "law") sc L fa cd)) (execs bd (envOfC (Str.ofString "law") sc L fa cd)) Q E s

theorem keyAt_idx : ∀ j, j < 9 → keys.idxOf (keyAt j) = j := by decide
theorem key_is {k : Str} (h : k ∈ keys) : ∃ j, j < 9 ∧ k = keyAt j := by
  have e : ∀ k ∈ keys, ∃ j, j < 9 ∧ k = keyAt j := by
    intro k hk
    obtain ⟨j, hj, rfl⟩ := List.mem_iff_getElem.mp hk
    exact ⟨j, hj, by unfold keyAt; rw [List.getD_eq_getElem?_getD, List.getElem?_eq_getElem hj]; rfl⟩
  exact e k h
theorem tab_words {w : World} {ns : List Int} {h : Heap} {d : Addr} {od : Obj} {kvs : List (Str × Value)} {tk : Nat} (ho : h.get? d = some od) (hd : od.IsDictOf (PySem.strKind PG w) kvs) (hJ : TabJ ns 9 kvs tk) :
    ∃ M, h.MapOf (PySem.strKind PG w) d M ∧ ∀ k ∈ keys, ∃ v : Nat, M k = some (.str (wordOf ns k) v) ∧ 0 < v ∧ v < tk ∧ (wordOf ns k).length ≤ 2 := by
  have hD : h.DictOf (PySem.strKind PG w) d kvs := Heap.dictOf_iff.mpr ⟨od, ho, hd⟩
  refine ⟨_, hD.mapOf, fun k hk => ?_⟩
  obtain ⟨j, hj, rfl⟩ := key_is hk
  obtain ⟨t, e, h1, h2⟩ := hJ.2.2 j hj
  have hn : (kvs.map (·.1)).Nodup := by obtain ⟨es, ep, _, _, _, _, r⟩ := hd; exact r
  have ew : wordOf ns (keyAt j) = wordT ns j := by unfold wordOf; rw [keyAt_idx j hj]
  exact ⟨t, by rw [ew]; exact valueAt_of_get hn e, h1, h2, by rw [ew]; exact wordT_len ns j hj⟩

/-- what is left from the sixth statement on: told is known -/
def Rest2Spec (w : World) (told : Str) (bd : List Stmt) (sc : Scope) : Prop :=
  ∀ (p : Program) (loose : List Str) (mean : ExcName → Option Value) (mg mb : Str → Option Value) (h₀ : Heap) (s : Shared) (L fa d : Addr) (cd : Value) (od : Obj) (kvs : List (Str × Value)) (ns : List Int) (m : Str → Option Value) (R i0 : Nat) (tt tr tf to : Tok)
    (ps : Array Value) (tk : Nat) (Q : Flow → Shared → Prop) (E : Value → Shared → Prop),
    told = itT ns (keyAt i0) R →
    (hd.heap_39 w.params).In h₀ → Top p loose mean mg mb h₀ → CodeHd h₀ 104 100 → ns.length ≤ 63 → (PyData.list (ns.map PyData.int)).layable0 = true → 3 ≤ R → R ≤ 5 → i0 < 7 →
    Fr h₀ L s.heap m → m (Str.ofString "total") = some (.int ns.sum tt) → m (Str.ofString "rounds") = some (.int (R : Int) tr) → m (Str.ofString "first") = some (.str (keyAt i0) tf) → m (Str.ofString "table") = some (.ref d) →
    m (Str.ofString "told") = some (.str told to) →
    News h₀ L s.heap [(d, od), (100, tabObj #[]), (93, tabObj ps)] → od.IsDictOf (PySem.strKind PG w) kvs → TabJ ns 9 kvs tk →
    (∀ h' tk m' ps ps', Fr h₀ L h' m' → News h₀ L h' [(100, tabObj ps), (93, tabObj ps')] → Q (.ret (.bool true)) { s with heap := h', toks := tk }) →
    wpAny (model PG w) (callerA.deeper (envOfC (Str.ofString "law") sc L fa cd)) (execs bd (envOfC (Str.ofString "law") sc L fa cd)) Q E s

theorem room_law (e : Env) : (callerA.deeper e).depth + 10 < recursionLimit := by show callerA.depth + 1 + 10 < recursionLimit; decide
end Mine

-- part Law1
namespace Mine

theorem law_ok (w : World) (hrest : ∀ bd sc, lawParts w = some (bd, sc) → RestSpec w (bd.drop 4) sc) : ∃ bd sc, lawParts w = some (bd, sc) ∧ LawSpec w bd sc := by
  refine ⟨_, _, rfl, ?_⟩
  have hrest' := hrest _ _ rfl
  intro p loose mean mg mb h₀ s L fa l cd co vs ns Q E X T hC1 hC2 hl hI hlen hlay F N hco ret
  refine wpAny_execs_cons ?_
  iterate 9 walk1
  dsimp only
  refine wpAny_execs_cons ?_
  iterate 14 walk1
  dsimp only
  obtain ⟨R, hRdef⟩ : ∃ R : Nat, R = 3 + ns.length % 3 := ⟨_, rfl⟩
  have hR : (3 : Int) + (ns.length : Int).fmod 3 = (R : Int) := by
    rw [Int.fmod_eq_emod_of_nonneg _ (by decide)]; omega
  rw [hR]
  rename Fr _ _ _ _ => F1
  rename News _ _ _ _ => N1
  refine wpAny_storeName_local rfl F1.ns (fun h₂ hn₂ hs₂ => ?_) rfl
  have F2 := F1.set hn₂ hs₂
  have N2 := N1.set hs₂
  clear F1 N1 hn₂
  dsimp only at F2 N2 ⊢
  refine wpAny_execs_cons ?_
  iterate 7 walk1
  dsimp only
  have hf7 : 0 ≤ ns.sum.fmod 7 ∧ ns.sum.fmod 7 < 7 := ⟨Int.fmod_nonneg_of_pos _ (by decide), Int.fmod_lt_of_pos _ (by decide)⟩
  obtain ⟨i0, hi0⟩ : ∃ i0 : Nat, i0 = (ns.sum.fmod 7).toNat := ⟨_, rfl⟩
  have hf7' : ns.sum.fmod 7 = (i0 : Int) := by omega
  rw [hf7']
  obtain ⟨e2, e3⟩ := item_at (x := Str.ofString "&<>\"\r\n\t") (i := i0) (by show _ < 7; omega) (by decide)
  refine tail_any (typeIs_str _ _ _) PySem.F.slot_str_getitem.lookup (P.getItem_str e2 e3 ?_) (by with_unfolding_all rfl)
  have hfirst : (⟨#[(Str.ofString "&<>\"\r\n\t").cps.getD i0 0]⟩ : Str) = keyAt i0 := by
    have h : ∀ i, i < 7 → (⟨#[(Str.ofString "&<>\"\r\n\t").cps.getD i 0]⟩ : Str) = keyAt i := by decide
    exact h i0 (by omega)
  rw [hfirst]
  refine wpAny_storeName_local rfl F2.ns (fun h₃ hn₃ hs₃ => ?_) rfl
  have F3 := F2.set hn₃ hs₃
  have N3 := N2.set hs₃
  clear F2 N2 hn₃
  dsimp only at F3 N3 ⊢
  refine wpAny_execs_cons (dassign (by rfl) fun cpos => ?_)
  refine gen_toks (by dsimp only; omega) fun T0 hT0 => ?_
  dsimp only
  refine dcomp (TabJ ns) 9 (by decide) (fun i kvs a b hab h => ⟨h.1, h.2.1, fun j hj => let ⟨t, e, h1, h2⟩ := h.2.2 j hj; ⟨t, e, h1, Nat.lt_of_lt_of_le h2 hab⟩⟩) (fun i kvs a h => by have h1 := h.1; have h2 := h.2.1; omega) rfl (by decide) rfl (by decide) rfl ?_ (fun _ => rfl)
  refine wpAny_toks 1 hT0 ?_
  iterate 7 walk1
  intro hT1
  dsimp only at hT1 ⊢
  rename IsRange _ _ _ _ _ _ _ _ => hrg
  rename Fr _ _ _ _ => F4
  rename News _ _ _ _ => N4
  dsimp only at hrg
  refine wpAny_pyIter_range hrg (by decide) ?_
  dsimp only
  rename_i h4 tk4 _ _ _ _
  have hLI : L < h4.objs.size := F4.ns.lt
  have h0I : ∀ b o, h₀.get? b = some o → b ≠ h4.objs.size := fun b o e => Nat.ne_of_lt (Nat.lt_of_lt_of_le (Heap.lt_size e) (Nat.le_trans F4.above (Nat.le_of_lt hLI)))
  have h4I : ∀ b o, h4.get? b = some o → b ≠ h4.objs.size := fun b o e => Nat.ne_of_lt (Heap.lt_size e)
  have hcell4 : h4.get? (L + 1) = some co := News.get N4 (.head _)
  refine ⟨h4.objs.size, [h4.objs.size], _, _, rfl, Walks.range rfl _ 0 1 9, ?_, ?_, ⟨rfl, Nat.zero_le _, fun j hj => absurd hj (Nat.not_lt_zero _)⟩, ?_, ?_⟩
  · exact Heap.get?_push_size _ rfl
  · intro b hb
    rw [List.mem_singleton.mp hb]
    show _ < (h4.push _).objs.size
    rw [Heap.size_push]; exact Nat.lt_succ_self _
  · rintro C i v kvs s₃ m₃ E' hi ⟨t, rfl⟩ hJ hns hm hk
    have keep₀ : h₀.StaysIn s₃.heap := fun b o e => hk b o (h0I b o e) (Heap.get?_push_of_some _ (F4.keep b o e))
    have e1 : (0 : Int) + (i : Int) * 1 = (i : Int) := by omega
    rw [e1] at hm
    refine Subscript_ ?_
    refine Constant_str ?_
    refine wpAny_Name (wpAny_loadName_local rfl rfl hns hm ?_) (by decide)
    obtain ⟨e2, e3⟩ := item_at (x := Str.ofString "&<>\"\r\n\t. ") (i := i) (by show _ < 9; omega) (by decide)
    refine tail_any (typeIs_str _ _ _) PySem.F.slot_str_getitem.lookup (P.getItem_str e2 e3 ?_) (by with_unfolding_all rfl)
    have hkey : (⟨#[(Str.ofString "&<>\"\r\n\t. ").cps.getD i 0]⟩ : Str) = keyAt i := by
      have h : ∀ i, i < 9 → (⟨#[(Str.ofString "&<>\"\r\n\t. ").cps.getD i 0]⟩ : Str) = keyAt i := by decide
      exact h i hi
    rw [hkey]
    refine Call_ ?_
    refine Name_function_global rfl rfl (loadGlobal_global (T.g.keeps keep₀) (mg_of X T.g (v := .ref 91) rfl) ?_) (by decide)
    dsimp only
    refine callWith_K (X.keeps keep₀) rfl ?_
    walk1
    refine wpAny_Name (wpAny_loadName_cell rfl rfl rfl ⟨co, hk _ _ (h4I _ _ hcell4) (Heap.get?_push_of_some _ hcell4), hco⟩ ?_) (by decide)
    walk1
    refine wpAny_Name (wpAny_loadName_local rfl rfl hns hm ?_) (by decide)
    walk1
    refine ⟨X.keeps keep₀, ?_⟩
    rename IntsAre _ _ => hI
    refine word_raw (ns := ns) (vs := vs) (Nat.lt_of_le_of_lt (Nat.le_add_right _ _) (room_law _)) (X.keeps keep₀) (T.keeps keep₀) (by dsimp only; omega) (hl.at fun o e => keep₀ _ o e) hI hlen hi fun t' h' tk' hk' ht0 ht1 htk => ?_
    dsimp only at hk' htk ⊢
    refine ⟨⟨keyAt i, by simp [PySem.strKind, Value.isStrOf], tabJ_step hJ hi (by omega) ht0 ht1⟩, h', tk', rfl, hk'⟩
  · intro D C h5 tk5 m5 kvs hD hC hDC hns5 hdict hJ5 hk5
    show wpAny _ _ (assign (.Name (Str.ofString "table") _) _ (.ref D)) _ _ _
    have hLC : L ≠ C := fun e => by
      obtain ⟨o, _, _, ho, _⟩ := F4.ns
      have h := Heap.get?_push_of_some { cls := .type "range_iterator", data := .fields #[rawInt 0, rawInt (Builtin.Range.rangeSize 0 9 1), rawInt 1] } ho
      rw [e] at h
      rw [show (h4.push { cls := .type "range_iterator", data := .fields #[rawInt 0, rawInt (Builtin.Range.rangeSize 0 9 1), rawInt 1] }).get? C = none from hC] at h
      cases h
    have F5 : Fr h₀ L h5 _ := ⟨F4.ns.at' fun o e => hk5 _ o (Nat.ne_of_lt hLI) (Heap.get?_push_of_some _ e), fun b o e => hk5 b o (h0I b o e) (Heap.get?_push_of_some _ (F4.keep b o e)), F4.above⟩
    have N5 : News h₀ L h5 [(L + 1, co), (100, tabObj #[]), (93, tabObj #[])] := fun q hq => ⟨hk5 _ _ (h4I _ _ (N4 q hq).1) (Heap.get?_push_of_some _ (N4 q hq).1), (N4 q hq).2⟩
    refine wpAny_assign_Name (wpAny_storeName_local rfl F5.ns (fun h6 hn6 hs6 => ?_) rfl)
    have F6 := F5.set hn6 hs6
    have N6 := N5.set hs6
    refine ⟨m5, hns5.at' fun o e => hs6.extBut _ o (Ne.symm hLC) e, fun h7 hs7 => ?_⟩
    have hD4 : h4.get? D = none := by
      cases e : h4.get? D with
      | none => rfl
      | some o =>
        have h := Heap.get?_push_of_some { cls := .type "range_iterator", data := .fields #[rawInt 0, rawInt (Builtin.Range.rangeSize 0 9 1), rawInt 1] } e
        rw [show (h4.push { cls := .type "range_iterator", data := .fields #[rawInt 0, rawInt (Builtin.Range.rangeSize 0 9 1), rawInt 1] }).get? D = none from hD] at h
        cases h
    have hC4 : h4.get? C = none := by
      cases e : h4.get? C with
      | none => rfl
      | some o =>
        have h := Heap.get?_push_of_some { cls := .type "range_iterator", data := .fields #[rawInt 0, rawInt (Builtin.Range.rangeSize 0 9 1), rawInt 1] } e
        rw [show (h4.push { cls := .type "range_iterator", data := .fields #[rawInt 0, rawInt (Builtin.Range.rangeSize 0 9 1), rawInt 1] }).get? C = none from hC] at h
        cases h
    have hDL : D ≠ L := fun e => by
      obtain ⟨o, _, _, ho, _⟩ := F4.ns
      rw [e] at hD4; rw [hD4] at ho; cases ho
    have h0D : h₀.get? D = none := by
      cases e : h₀.get? D with
      | none => rfl
      | some o => rw [F4.keep D o e] at hD4; cases hD4
    have h0C : ∀ b o, h₀.get? b = some o → b ≠ C := fun b o e q => by rw [q] at e; rw [F4.keep C o e] at hC4; cases hC4
    have hNC : ∀ q ∈ [(L + 1, co), (100, tabObj #[]), (93, tabObj #[])], q.1 ≠ C := fun q hq e => by
      have := (N4 q hq).1
      rw [e, hC4] at this; cases this
    have F7 : Fr h₀ L h7 _ := ⟨F6.ns.at' fun o e => hs7.extBut _ o hLC e, fun b o e => hs7.extBut b o (h0C b o e) (F6.keep b o e), F6.above⟩
    obtain ⟨od, hod, hdo⟩ := Heap.dictOf_iff.mp hdict
    have hod7 : h7.get? D = some od := hs7.extBut _ _ hDC (hs6.extBut _ _ hDL hod)
    have N7 : News h₀ L h7 [(D, od), (100, tabObj #[]), (93, tabObj #[])] := fun q hq => by
      rcases List.mem_cons.mp hq with e | hq
      · rw [e]; exact ⟨hod7, hDL, h0D⟩
      · have hq' : q ∈ [(L + 1, co), (100, tabObj #[]), (93, tabObj #[])] := .tail _ hq
        exact ⟨hs7.extBut _ _ (hNC q hq') (N6 q hq').1, (N6 q hq').2⟩
    have htk : 0 < tk5 + 1 := Nat.succ_pos _
    exact hrest' p loose mean mg mb h₀ _ L fa D cd od kvs ns _ R i0 _ _ _ Q E X T hC1 hC2 hlen hlay (by omega) (by omega) (by omega) F7 rfl rfl rfl rfl N7 hdo ⟨hJ5.1, hJ5.2.1, fun j hj => let ⟨t, e, h1, h2⟩ := hJ5.2.2 j hj; ⟨t, e, h1, Nat.lt_succ_of_lt h2⟩⟩ htk ret
end Mine

-- part Law2
namespace Mine

theorem rest_ok (w : World) (hnext : ∀ told bd sc, lawParts w = some (bd, sc) → Rest2Spec w told (bd.drop 5) sc) : ∀ bd sc, lawParts w = some (bd, sc) → RestSpec w (bd.drop 4) sc := by
  intro bd sc e
  replace hnext := fun told => hnext told bd sc e
  have e' : lawParts w = some (_, _) := rfl
  rw [e'] at e
  cases e
  intro p loose mean mg mb h₀ s L fa d cd od kvs ns m R i0 tt tr tf Q E X T hC1 hC2 hlen hlay hR3 hR5 hi0 F hm1 hm2 hm3 hm4 N hod hJ hpos ret
  dsimp only [List.drop]
  refine wpAny_execs_cons ?_
  iterate 9 walk1
  refine wpAny_Name (wpAny_loadName_local rfl rfl F.ns hm4 ?_) (by decide)
  walk1
  refine ⟨X.keeps F.keep, ?_⟩
  obtain ⟨M, hM, hMk⟩ := tab_words (News.get N (.head _)) hod hJ
  have hN93 := N (93, tabObj #[]) (.tail _ (.tail _ (.head _)))
  have hN100 := N (100, tabObj #[]) (.tail _ (.head _))
  have hNd := N (d, od) (.head _)
  have hd93 : d ≠ 93 := fun e => by
    have h1 := hNd.1
    rw [e, hN93.1] at h1
    cases h1
    obtain ⟨es, ep, _, hdd, _⟩ := hod
    cases hdd
  have hd100 : d ≠ 100 := fun e => by
    have h1 := hNd.1
    rw [e, hN100.1] at h1
    cases h1
    obtain ⟨es, ep, _, hdd, _⟩ := hod
    cases hdd
  refine wpAny_toks s.toks (Nat.le_refl _) ?_
  refine round_raw (W := wordOf ns) (Nat.lt_of_le_of_lt (Nat.le_add_right _ _) (room_law _)) (X.keeps F.keep) (T.keeps F.keep) (hC2.keeps F.keep) hN93.1 ⟨M, hM, fun q hq => hMk _ ?_⟩ fun f h1 tk1 hk1 hg1 hR1 => ?_
  · have h : ∀ q ∈ pairs, q.2 ∈ keys := by decide
    exact h q hq
  intro htk1
  dsimp only at htk1 ⊢
  obtain ⟨ps, hps⟩ := hg1
  have F1 : Fr h₀ L h1 m := ⟨F.ns.at' fun o e => hk1 _ o (Ne.symm hN93.2.1) e, fun b o e => hk1 b o (fun q => by rw [q, hN93.2.2] at e; cases e) (F.keep b o e), F.above⟩
  have N1 : News h₀ L h1 [(d, od), (100, tabObj #[]), (93, tabObj ps)] := fun q hq => by
    rcases List.mem_cons.mp hq with e | hq
    · rw [e]; exact ⟨hk1 _ _ hd93 hNd.1, hNd.2⟩
    · rcases List.mem_cons.mp hq with e | hq
      · rw [e]; exact ⟨hk1 _ _ (by decide) hN100.1, hN100.2⟩
      · rw [List.mem_singleton.mp hq]; exact ⟨hps, hN93.2⟩
  clear F N
  iterate 1 walk1
  refine wpAny_toks s.toks htk1 ?_
  iterate 4 walk1
  refine wpAny_Name (wpAny_loadName_local rfl rfl F1.ns hm2 ?_) (by decide)
  iterate 2 walk1
  intro htk2
  rename IsRange _ _ _ _ _ _ _ _ => hrg
  rename Fr _ _ _ _ => F2
  rename News _ _ _ _ => N2
  rename_i h2 tk2 _ _ _ hk2
  dsimp only at hrg htk2 hk2 ⊢
  have hR2 : RoundAt w h2 f (wordOf ns) := hR1.stays hk2

  iterate 1 walk1
  refine wpAny_Name (wpAny_loadName_local rfl rfl F2.ns hm3 ?_) (by decide)
  iterate 1 walk1
  refine ⟨X.keeps F2.keep, ?_⟩
  have hfn : FnAt f h2 := by
    obtain ⟨_, _, _, _, _, _, _, _, _, _, _, _, _, _, _, _, _, a1, _⟩ := hR2
    exact closAt_fn a1
  refine wpAny_toks s.toks htk2 ?_
  refine reduce_raw (n := R) (P := fun _ v => ∃ i t, v = .int i t) (fun i v => ∃ t, v = .str (itT ns (keyAt i0) i) t) rfl (Nat.lt_of_le_of_lt (Nat.le_add_right _ _) (room_law _)) (X.keeps F2.keep) (T.keeps F2.keep) hfn (iters_range hrg (by omega)) ⟨tf, rfl⟩ ?_ ?_
  · rintro i v acc A' s' Q' E' hi ⟨vi, tv, rfl⟩ ⟨ta, rfl⟩ hA hdp hun hk htk hret
    have hdp' : A'.depth + 2 < recursionLimit := by
      have h1 := room_law (envOfC (Str.ofString "law") (default : Scope) L fa cd)
      have h2 : A'.depth ≤ callerA.depth + 1 + 1 := hdp
      have h3 : callerA.depth + 1 + 10 < recursionLimit := h1
      omega
    have kk : h₀.StaysIn s'.heap := fun b o e => hk b o (F2.keep b o e)
    refine written_raw (W := wordOf ns) hA hdp' (X.keeps kk) (T.keeps kk) (by dsimp only at htk; omega) (hR2.stays hk) (itT_len ns i0 i hi0 (by omega)) fun t h' tk' hk' => ?_
    exact hret _ _ _ hk' ⟨t, rfl⟩
  · rintro r h3 tk3 hk3 htk3 ⟨t3, rfl⟩
    intro htk3'
    dsimp only at hk3 htk3' ⊢
    have F3 := fr_stays F2 hk3
    have N3 : News h₀ L h3 [(d, od), (100, tabObj #[]), (93, tabObj ps)] := fun q hq => ⟨hk3 _ _ (N2 q hq).1, (N2 q hq).2⟩
    clear F2 N2
    refine wpAny_storeName_local rfl F3.ns (fun h4 hn4 hs4 => ?_) rfl
    have F4 := F3.set hn4 hs4
    have N4 := N3.set hs4
    clear F3 N3 hn4
    dsimp only at F4 N4 ⊢
    exact hnext _ p loose mean mg mb h₀ _ L fa d cd od kvs ns _ R i0 tt tr tf t3 ps _ Q E rfl X T hC1 hlen hlay hR3 hR5 hi0 F4 hm1 hm2 hm3 hm4 rfl N4 hod hJ ret
end Mine

-- part Pdef
namespace Mine
/-- the frame L is none of its parts -/
theorem LeadAt.set {w : World} {h h' : Heap} {f d L : Addr} {W : Str → Str} {m : Str → Option Value} (x : LeadAt w h f d W) (hL : h.Ns L m) (hdL : d ≠ L)
    (k : ∀ b o, b ≠ L → h.get? b = some o → h'.get? b = some o) : LeadAt w h' f d W := by
  obtain ⟨ps, bd, sc, cl, c, M, e, ⟨o, name, qual, doc, pm, ct, cdv, ho, hd, ⟨cc, co, vs, t, e1, hco, hcd, hcv⟩⟩, l, ⟨oc, hoc, hocd⟩, ⟨om, es, ep, hom, hmx, hmd, hmr⟩, r⟩ := x
  obtain ⟨oL, esL, epL, hoL, hLd, _⟩ := hL
  have ne : ∀ {b : Addr} {o : Obj}, h.get? b = some o → (∀ es ep, o.data ≠ .dict es ep) → h'.get? b = some o := fun {b o} e h1 =>
    k b o (fun q => by rw [q, hoL] at e; cases e; exact h1 _ _ hLd) e
  exact ⟨ps, bd, sc, cl, c, M, e, ⟨o, name, qual, doc, pm, ct, cdv, ne ho (fun _ _ q => by rw [hd] at q; cases q), hd, ⟨cc, co, vs, t, e1, ne hco (fun _ _ q => by rw [hcd] at q; cases q), hcd, hcv⟩⟩, l,
    ⟨oc, ne hoc (fun _ _ q => by rw [hocd] at q; cases q), hocd⟩, ⟨om, es, ep, k d om hdL hom, hmx, hmd, hmr⟩, r⟩

/-- the loop and the answer -/
def Rest3Spec (w : World) (bd : List Stmt) (sc : Scope) : Prop :=
  ∀ (p : Program) (loose : List Str) (mean : ExcName → Option Value) (mg mb : Str → Option Value) (h₀ : Heap) (s : Shared) (L fa d f P : Addr) (cd : Value) (ns : List Int) (m : Str → Option Value) (R i0 lo U V C0 : Nat) (told : Str) (tr tf to tl tu te : Tok)
    (ps ps' : Array Value) (Q : Flow → Shared → Prop) (E : Value → Shared → Prop),
    told = Txt.join (Str.ofString "") ((leaves ns (keyAt i0) lo R C0 U V).filter live) →
    (hd.heap_39 w.params).In h₀ → Top p loose mean mg mb h₀ → V = 2 ^ R → V ≤ 32 → 3 ≤ R → R ≤ 5 → i0 < 7 → lo < 5 → d ≠ L →
    Fr h₀ L s.heap m → m (Str.ofString "rounds") = some (.int (R : Int) tr) → m (Str.ofString "first") = some (.str (keyAt i0) tf) →
    m (Str.ofString "told") = some (.str told to) → m (Str.ofString "low") = some (.int (lo : Int) tl) → m (Str.ofString "unit") = some (.int (U : Int) tu) → m (Str.ofString "rest") = some (.int (C0 : Int) te) →
    m (Str.ofString "step") = some (.ref f) → m (Str.ofString "ends") = some (.ref P) →
    News h₀ L s.heap [(P, PySem.W.listOf #[] 0), (100, tabObj ps), (93, tabObj ps')] → LeadAt w s.heap f d (wordOf ns) →
    (∀ h' tk m' ps ps', Fr h₀ L h' m' → News h₀ L h' [(100, tabObj ps), (93, tabObj ps')] → Q (.ret (.bool true)) { s with heap := h', toks := tk }) →
    wpAny (model PG w) (callerA.deeper (envOfC (Str.ofString "law") sc L fa cd)) (execs bd (envOfC (Str.ofString "law") sc L fa cd)) Q E s

theorem kept_stays {h₀ : Heap} : KeptH (fun h => h₀.StaysIn h) := fun _ ob a b o e => Heap.get?_push_of_some _ (a b o e)
theorem slice_ss {w : World} {A : Around} {E : Value → Shared → Prop} {s : Shared} {value slice : Expr} {x : Str} {t : Tok} {Q : Value → Shared → Prop} {i j : Int} {ui uj : Tok} (h : ∀ h' t' k, s.heap.StaysIn h' → Q (.str (Txt.slice x (some i) (some j)) t') { s with heap := h', toks := k })
    (hsz : x.length ≤ sizeLine) (hs : subscripted slice false (.str x t) (.ref s.heap.objs.size) = operate [.ref s.heap.objs.size, .str x t] (getItem (.str x t) (.ref s.heap.objs.size)) := by with_unfolding_all rfl)
    (ht : ∀ r, letTemporaryGo value (.str x t) r = pure () := by intro _; with_unfolding_all rfl) :
    wpAny (model PG w) A (subscriptTail value slice (.str x t) (.ref s.heap.objs.size)) Q E { s with heap := s.heap.push { cls := .type "slice", data := .fields #[.int i ui, .int j uj, .none] } } :=
  tail_of_ItemOn (SBH.sliceItem_ss kept_stays (fun _ _ e => e) h hsz) hs ht

theorem keyAt_key {i : Nat} (h : i < 9) : keyAt i ∈ keys := by
  have e : ∀ i, i < 9 → keyAt i ∈ keys := by decide
  exact e i h
theorem path_key (ns : List Int) (k x : Str) (hk : k ∈ keys) : ∀ i, pathT ns k x i ∈ keys
  | 0 => hk
  | _ + 1 => led_key ns _ _
theorem leaves_one (ns : List Int) (i0 lo R C0 U n : Nat) (h0 : i0 < 9) : ∀ x ∈ leaves ns (keyAt i0) lo R C0 U n, x.length = 1 := by
  intro x hx
  obtain ⟨j, _, rfl⟩ := List.mem_map.mp hx
  have e : ∀ k ∈ keys, k.length = 1 := by decide
  exact e _ (path_key ns _ _ (keyAt_key h0) _)
end Mine

-- part Law3
namespace Mine

theorem rest2_ok (w : World) (hnext : ∀ bd sc, lawParts w = some (bd, sc) → Rest3Spec w (bd.drop 11) sc) : ∀ told bd sc, lawParts w = some (bd, sc) → Rest2Spec w told (bd.drop 5) sc := by
  intro told bd sc e
  replace hnext := hnext bd sc e
  have e' : lawParts w = some (_, _) := rfl
  rw [e'] at e
  cases e
  intro p loose mean mg mb h₀ s L fa d cd od kvs ns m R i0 tt tr tf to ps tkT Q E htold X T hC1 hlen hlay hR3 hR5 hi0 F hm1 hm2 hm3 hm4 hm5 N hod hJ ret
  dsimp only [List.drop]
  refine wpAny_execs_cons ?_
  iterate 3 walk1
  refine wpAny_Name (wpAny_loadName_local rfl rfl F.ns hm1 ?_) (by decide)
  iterate 4 walk1
  dsimp only
  obtain ⟨lo, hlo⟩ : ∃ lo : Nat, lo = ((ns.sum.fdiv 7).fmod 5).toNat := ⟨_, rfl⟩
  have hf5 : 0 ≤ (ns.sum.fdiv 7).fmod 5 ∧ (ns.sum.fdiv 7).fmod 5 < 5 := ⟨Int.fmod_nonneg_of_pos _ (by decide), Int.fmod_lt_of_pos _ (by decide)⟩
  have hlo' : (ns.sum.fdiv 7).fmod 5 = (lo : Int) := by omega
  rw [hlo']
  refine wpAny_storeName_local rfl F.ns (fun h₁ hn₁ hs₁ => ?_) rfl
  have F1 := F.set hn₁ hs₁
  have N1 := N.set hs₁
  clear F N hn₁
  dsimp only at F1 N1 ⊢
  refine wpAny_execs_cons ?_
  iterate 4 walk1
  dsimp only
  walk1
  rename Fr _ _ _ _ => F1
  rename News _ _ _ _ => N1
  obtain ⟨U, hU⟩ : ∃ U : Nat, U = 2 ^ lo := ⟨_, rfl⟩
  have hU' : (2 : Int) ^ (lo : Int).toNat = (U : Int) := by rw [Int.toNat_natCast, hU]; push_cast; rfl
  have hU1 : 1 ≤ U := by rw [hU]; exact Nat.one_le_two_pow
  have hU16 : U ≤ 16 := by rw [hU]; exact Nat.pow_le_pow_right (by decide) (show lo ≤ 4 by omega)
  rw [hU']
  refine wpAny_storeName_local rfl F1.ns (fun h₂ hn₂ hs₂ => ?_) rfl
  have F2 := F1.set hn₂ hs₂
  have N2 := N1.set hs₂
  clear F1 N1 hn₂
  dsimp only at F2 N2 ⊢
  refine wpAny_execs_cons ?_
  iterate 6 walk1
  refine wpAny_Name (wpAny_loadName_local rfl rfl F2.ns hm1 ?_) (by decide)
  (try dsimp only)
  iterate 4 walk1
  (try dsimp only)
  rename Fr _ _ _ _ => F2
  rename News _ _ _ _ => N2
  obtain ⟨B, hB⟩ : ∃ B : Nat, B = ((33261 + 2741 * ns.sum).fmod 65536).toNat := ⟨_, rfl⟩
  have hfB : 0 ≤ (33261 + 2741 * ns.sum).fmod 65536 ∧ (33261 + 2741 * ns.sum).fmod 65536 < 65536 := ⟨Int.fmod_nonneg_of_pos _ (by decide), Int.fmod_lt_of_pos _ (by decide)⟩
  have hB' : (33261 + 2741 * ns.sum).fmod 65536 = (B : Int) := by omega
  have hB16 : B < 65536 := by omega
  rw [hB']
  clear hfB
  refine wpAny_storeName_local rfl F2.ns (fun h₃ hn₃ hs₃ => ?_) rfl
  have F3 := F2.set hn₃ hs₃
  have N3 := N2.set hs₃
  clear F2 N2 hn₃
  dsimp only at F3 N3 ⊢
  refine wpAny_execs_cons ?_
  iterate 8 walk1
  (try dsimp only)
  iterate 3 walk1
  (try dsimp only)
  rename Fr _ _ _ _ => F3
  rename News _ _ _ _ => N3
  refine wpAny_Name (wpAny_loadName_local rfl rfl F3.ns hm2 ?_) (by decide)
  walk1
  (try dsimp only)
  obtain ⟨V, hV⟩ : ∃ V : Nat, V = 2 ^ R := ⟨_, rfl⟩
  have hV' : (2 : Int) ^ (R : Int).toNat = (V : Int) := by rw [Int.toNat_natCast, hV]; push_cast; rfl
  have hV1 : 1 ≤ V := by rw [hV]; exact Nat.one_le_two_pow
  have hV32 : V ≤ 32 := by rw [hV]; exact Nat.pow_le_pow_right (by decide) hR5
  rw [hV']
  walk1
  (try dsimp only)
  walk1
  have hd : (B : Int).fdiv (U : Int) = ((B / U : Nat) : Int) := by rw [Int.fdiv_eq_ediv_of_nonneg _ (by omega)]; rfl
  have hmd : (((B / U : Nat) : Int)).fmod (V : Int) = ((B / U % V : Nat) : Int) := by rw [Int.fmod_eq_emod_of_nonneg _ (by omega)]; rfl
  rw [hd, hmd]
  (try dsimp only)
  walk1
  (try dsimp only)
  walk1
  (try dsimp only)
  obtain ⟨C0, hC0⟩ : ∃ C0 : Nat, C0 = B - B / U % V * U := ⟨_, rfl⟩
  have hC0' : (B : Int) - ((B / U % V : Nat) : Int) * (U : Int) = (C0 : Int) := by
    have h1 : B / U % V * U ≤ B := Nat.le_trans (Nat.mul_le_mul_right _ (Nat.mod_le _ _)) (Nat.div_mul_le_self _ _)
    rw [hC0, Int.ofNat_sub h1]; push_cast; rfl
  rw [hC0']
  rename Fr _ _ _ _ => F3
  rename News _ _ _ _ => N3
  refine wpAny_storeName_local rfl F3.ns (fun h₄ hn₄ hs₄ => ?_) rfl
  have F4 := F3.set hn₄ hs₄
  have N4 := N3.set hs₄
  clear F3 N3 hn₄
  dsimp only at F4 N4 ⊢
  refine wpAny_execs_cons ?_
  iterate 4 walk1
  walk1
  refine wpAny_Name (wpAny_loadName_local rfl rfl F4.ns hm4 ?_) (by decide)
  walk1
  refine ⟨X.keeps F4.keep, ?_⟩
  obtain ⟨M, hM, hMk⟩ := tab_words (News.get N4 (.head _)) hod hJ
  have hN93 := N4 (93, tabObj ps) (.tail _ (.tail _ (.head _)))
  have hN100 := N4 (100, tabObj #[]) (.tail _ (.head _))
  have hNd := N4 (d, od) (.head _)
  refine leader_raw (W := wordOf ns) (Nat.lt_of_le_of_lt (Nat.le_add_right _ _) (room_law _)) (X.keeps F4.keep) (T.keeps F4.keep) (hC1.keeps F4.keep) hN100.1 hM (fun k hk => let ⟨v, e1, _, _, e2⟩ := hMk k hk; ⟨v, e1, e2⟩) fun f h5 tk5 hk5 hg5 hR5' => ?_
  dsimp only at hk5 ⊢
  obtain ⟨ps1, hps1⟩ := hg5
  have F5 : Fr h₀ L h5 _ := ⟨F4.ns.at' fun o e => hk5 _ o (Ne.symm hN100.2.1) e, fun b o e => hk5 b o (fun q => by rw [q, hN100.2.2] at e; cases e) (F4.keep b o e), F4.above⟩
  have N5 : News h₀ L h5 [(100, tabObj ps1), (93, tabObj ps)] := fun q hq => by
    rcases List.mem_cons.mp hq with e | hq
    · rw [e]; exact ⟨hps1, hN100.2⟩
    · rw [List.mem_singleton.mp hq]; exact ⟨hk5 93 _ (by decide) hN93.1, hN93.2⟩
  clear F4 N4
  refine wpAny_storeName_local rfl F5.ns (fun h6 hn6 hs6 => ?_) rfl
  have F6 := F5.set hn6 hs6
  have N6 := N5.set hs6
  have hdL : d ≠ L := hNd.2.1
  have hle6 : LeadAt w h6 f d (wordOf ns) := hR5'.set F5.ns hdL fun b o hb e => hs6.extBut b o hb e
  clear F5 N5 hn6
  dsimp only at F6 N6 ⊢
  refine wpAny_execs_cons ?_
  iterate 3 walk1
  refine newList_NK F6 N6 fun h7 F7 N7 k7 => ?_
  have hle7 := hle6.stays k7
  dsimp only at F7 N7 ⊢
  refine wpAny_storeName_local rfl F7.ns (fun h8 hn8 hs8 => ?_) rfl
  have F8 := F7.set hn8 hs8
  have N8 := N7.set hs8
  have hle8 : LeadAt w h8 f d (wordOf ns) := hle7.set F7.ns hdL fun b o hb e => hs8.extBut b o hb e
  clear F6 N6 F7 N7 hn8
  dsimp only at F8 N8 ⊢
  exact hnext p loose mean mg mb h₀ _ L fa d f _ cd ns _ R i0 lo U V C0 _ tr tf to _ _ _ ps1 ps Q E (htold.trans (law_pure ns i0 lo R U V C0 B hi0 (by omega) hR5 hU hV hC0)) X T hV hV32 hR3 hR5 hi0 (by omega) hdL F8 hm2 hm3 hm5 rfl rfl rfl rfl rfl N8 hle8 ret
end Mine

-- part Law4
namespace Mine

/-- the answer -/
def Rest4Spec (w : World) (bd : List Stmt) (sc : Scope) : Prop :=
  ∀ (p : Program) (loose : List Str) (mean : ExcName → Option Value) (mg mb : Str → Option Value) (h₀ : Heap) (s : Shared) (L fa P : Addr) (cd : Value) (m : Str → Option Value) (told : Str) (xs : List Str) (to : Tok)
    (ps ps' its : Array Value) (n : Nat) (Q : Flow → Shared → Prop) (E : Value → Shared → Prop),
    told = Txt.join (Str.ofString "") (xs.filter live) → StrsAre its.toList xs → xs.length ≤ 32 → (∀ x ∈ xs, x.length = 1) →
    (hd.heap_39 w.params).In h₀ → Top p loose mean mg mb h₀ →
    Fr h₀ L s.heap m → m (Str.ofString "told") = some (.str told to) → m (Str.ofString "ends") = some (.ref P) →
    News h₀ L s.heap [(P, PySem.W.listOf its n), (100, tabObj ps), (93, tabObj ps')] →
    (∀ h' tk m' ps ps', Fr h₀ L h' m' → News h₀ L h' [(100, tabObj ps), (93, tabObj ps')] → Q (.ret (.bool true)) { s with heap := h', toks := tk }) →
    wpAny (model PG w) (callerA.deeper (envOfC (Str.ofString "law") sc L fa cd)) (execs bd (envOfC (Str.ofString "law") sc L fa cd)) Q E s

theorem rest3_ok (w : World) (hnext : ∀ bd sc, lawParts w = some (bd, sc) → Rest4Spec w (bd.drop 12) sc) : ∀ bd sc, lawParts w = some (bd, sc) → Rest3Spec w (bd.drop 11) sc := by
  intro bd sc e
  replace hnext := hnext bd sc e
  have e' : lawParts w = some (_, _) := rfl
  rw [e'] at e
  cases e
  intro p loose mean mg mb h₀ s L fa d f P cd ns m R i0 lo U V C0 told tr tf to tl tu te ps ps' Q E htold X T hV hV32 hR3 hR5 hi0 hlo hdL F hm1 hm2 hm3 hm4 hm5 hm6 hm7 hm8 N hle ret
  dsimp only [List.drop]
  refine wpAny_execs_cons (wpAny_For ?_)
  iterate 6 walk1
  refine wpAny_Name (wpAny_loadName_local rfl rfl F.ns hm1 ?_) (by decide)
  walk1
  have hV' : (2 : Int) ^ (R : Int).toNat = (V : Int) := by rw [Int.toNat_natCast, hV]; push_cast; rfl
  rw [hV']
  walk1
  walk1
  rename IsRange _ _ _ _ _ _ _ _ => hrg
  rename Fr _ _ _ _ => F1
  rename News _ _ _ _ => N1
  rename_i h1 tk1 _ _ _ hk1
  dsimp only at hrg hk1 ⊢
  refine wpAny_pyIter_range hrg (range_small (by omega)) ?_
  dsimp only
  have hsz : Builtin.Range.rangeSize 0 (V : Int) 1 = (V : Int) := by unfold Builtin.Range.rangeSize; simp; omega
  rw [hsz]
  have hle1 := hle.stays hk1
  have hP1 := News.get N1 (.head _)
  have hLI : L < h1.objs.size := F1.ns.lt
  have hI0 : h₀.get? h1.objs.size = none := Heap.get?_none_of_le (Nat.le_trans F1.above (Nat.le_of_lt hLI))
  have hNI : ∀ its n, ∀ q ∈ [(P, PySem.W.listOf its n), (100, tabObj ps), (93, tabObj ps')], q.1 ≠ h1.objs.size := fun its n q hq => by
    rcases List.mem_cons.mp hq with e | hq
    · rw [e]; exact Nat.ne_of_lt (Heap.lt_size hP1)
    · exact Nat.ne_of_lt (Heap.lt_size (N1 q (.tail _ hq)).1)
  have hNP : ∀ q ∈ [(100, tabObj ps), (93, tabObj ps')], q.1 ≠ P := fun q hq e => by
    have h1 := (N1 q (.tail _ hq)).1
    rw [e, hP1] at h1
    rcases List.mem_cons.mp hq with e | hq
    · rw [e] at h1; cases h1
    · rw [List.mem_singleton.mp hq] at h1; cases h1
  have hPL : P ≠ L := (N1 _ (.head _)).2.1
  have hP0 := (N1 _ (.head _)).2.2
  have W0 := Walks.range (prog := PG) (w := w) (A := callerA) rfl h1.objs.size 0 1 V
  have WD := fun e => Walks.range (prog := PG) (w := w) (A := callerA.deeper e) rfl h1.objs.size 0 1 V
  have kP : ∀ b o, h1.get? b = some o → b ≠ h1.objs.size := fun b o e => Nat.ne_of_lt (Heap.lt_size e)
  refine codeAny_forLoop (fun k s' => ∃ j h' tk' m' its n, s' = { s with heap := h', toks := tk' } ∧ Fr h₀ L h' m' ∧ 
    (m' (Str.ofString "rounds") = some (.int (R : Int) tr) ∧ m' (Str.ofString "first") = some (.str (keyAt i0) tf) ∧
    m' (Str.ofString "told") = some (.str told to) ∧ m' (Str.ofString "low") = some (.int (lo : Int) tl) ∧ m' (Str.ofString "unit") = some (.int (U : Int) tu) ∧ m' (Str.ofString "rest") = some (.int (C0 : Int) te) ∧
    m' (Str.ofString "step") = some (.ref f) ∧ m' (Str.ofString "ends") = some (.ref P)) ∧ News h₀ L h' [(P, PySem.W.listOf its n), (100, tabObj ps), (93, tabObj ps')] ∧
    StrsAre its.toList (leaves ns (keyAt i0) lo R C0 U j) ∧ its.size = j ∧ IsRangeIter h' h1.objs.size (0 + (j : Int) * 1) ((V : Int) - (j : Int)) 1 ∧ (∀ b o, b ≠ L → b ≠ P → h1.get? b = some o → h'.get? b = some o) ∧ j ≤ V ∧ k = V + 1 - j) ?_ (V + 1) ?_
  · rintro k s' ⟨j, h', tk', m', its, n, rfl, F2, ⟨q1, q2, q3, q4, q5, q6, q7, q8⟩, N2, hst, hsize, hit, hK, hjV, rfl⟩
    by_cases hlt : j < V
    · refine (WD _).item j _ _ _ hlt hit fun v h3 tk3 hPv st3 hk3 => ?_
      obtain ⟨tn, rfl⟩ := hPv
      dsimp only at hk3 ⊢
      have e1 : (0 : Int) + (j : Int) * 1 = (j : Int) := by omega
      rw [e1]
      have k3 : ∀ b o, b ≠ h1.objs.size → h'.get? b = some o → h3.get? b = some o := fun b o hb e => hk3 b o (fun hm => hb (List.mem_singleton.mp hm)) e
      have F3 : Fr h₀ L h3 m' := ⟨F2.ns.at' fun o e => k3 _ o (Nat.ne_of_lt hLI) e, fun b o e => k3 b o (fun q => by rw [q, hI0] at e; cases e) (F2.keep b o e), F2.above⟩
      have N3 : News h₀ L h3 [(P, PySem.W.listOf its n), (100, tabObj ps), (93, tabObj ps')] := fun q hq => ⟨k3 _ _ (hNI _ _ q hq) (N2 q hq).1, (N2 q hq).2⟩
      have hK3 : ∀ b o, b ≠ L → b ≠ P → h1.get? b = some o → h3.get? b = some o := fun b o hb hb' e => k3 b o (kP b o e) (hK b o hb hb' e)
      clear F2 N2 hK hk3 k3
      have F1s := F1.ns
      clear F1 N1
      refine wpAny_assign_Name (wpAny_storeName_local rfl F3.ns (fun h4 hn4 hs4 => ?_) rfl)
      have F4 := F3.set hn4 hs4
      have N4 := N3.set hs4
      have st4 := W0.frame (j + 1) _ _ st3 fun b hb o' e => hs4.extBut b o' (fun (h : b = L) => by rw [List.mem_singleton.mp hb] at h; exact absurd h (Nat.ne_of_gt hLI)) e
      have hK4 : ∀ b o, b ≠ L → b ≠ P → h1.get? b = some o → h4.get? b = some o := fun b o hb hb' e => hs4.extBut b o hb (hK3 b o hb hb' e)
      clear F3 N3 hK3 st3 hn4
      refine wpAny_execs_cons ?_
      iterate 6 walk1
      refine wpAny_Name (wpAny_loadName_local rfl rfl F4.ns (by exact q6) ?_) (by decide)
      iterate 2 walk1
      refine wpAny_Name (wpAny_loadName_local rfl rfl F4.ns (by exact q5) ?_) (by decide)
      iterate 3 walk1
      (try dsimp only)
      refine ⟨X.keeps F4.keep, ?_⟩
      refine fm_raw rfl (Nat.lt_of_le_of_lt (Nat.add_le_add_left (by decide) _) (room_law _)) (X.keeps F4.keep) (T.keeps F4.keep) fun t5 h5 tk5 hk5 => ?_
      dsimp only at hk5 ⊢
      have F5 := fr_stays F4 hk5
      have N5 : News h₀ L h5 [(P, PySem.W.listOf its n), (100, tabObj ps), (93, tabObj ps')] := fun q hq => ⟨hk5 _ _ (N4 q hq).1, (N4 q hq).2⟩
      have st5 := W0.frame (j + 1) _ _ st4 fun b hb o' e => hk5 b o' e
      have hK5 : ∀ b o, b ≠ L → b ≠ P → h1.get? b = some o → h5.get? b = some o := fun b o hb hb' e => hk5 b o (hK4 b o hb hb' e)
      clear F4 N4 hK4 st4 hk5
      refine wpAny_storeName_local rfl F5.ns (fun h6 hn6 hs6 => ?_) rfl
      have F6 := F5.set hn6 hs6
      have N6 := N5.set hs6
      have st6 := W0.frame (j + 1) _ _ st5 fun b hb o' e => hs6.extBut b o' (fun (h : b = L) => by rw [List.mem_singleton.mp hb] at h; exact absurd h (Nat.ne_of_gt hLI)) e
      have hK6 : ∀ b o, b ≠ L → b ≠ P → h1.get? b = some o → h6.get? b = some o := fun b o hb hb' e => hs6.extBut b o hb (hK5 b o hb hb' e)
      clear F5 N5 hK5 st5 hn6
      dsimp only at F6 N6 ⊢
      refine wpAny_execs_cons ?_
      iterate 2 walk1
      refine wpAny_Name (wpAny_loadName_local rfl rfl F6.ns (by exact q8) ?_) (by decide)
      iterate 7 walk1
      refine wpAny_Name (wpAny_loadName_local rfl rfl F6.ns (by exact q7) ?_) (by decide)
      iterate 5 walk1
      iterate 3 walk1
      refine wpAny_Name (wpAny_loadName_local rfl rfl F6.ns (by exact q4) ?_) (by decide)
      iterate 1 walk1
      refine wpAny_Name (wpAny_loadName_local rfl rfl F6.ns (by exact q1) ?_) (by decide)
      iterate 4 walk1
      refine wpAny_Name (wpAny_loadName_local rfl rfl F6.ns (by exact q4) ?_) (by decide)
      iterate 2 walk1
      dsimp only
      refine slice_ss (s := { s with heap := h6, toks := _ }) (fun h7 t7 tk7 hk7 => ?_) (Nat.le_trans (rowT_len _) (by decide))
      dsimp only at hk7 ⊢
      have F7 := fr_stays F6 hk7
      have N7 : News h₀ L h7 [(P, PySem.W.listOf its n), (100, tabObj ps), (93, tabObj ps')] := fun q hq => ⟨hk7 _ _ (N6 q hq).1, (N6 q hq).2⟩
      have st7 := W0.frame (j + 1) _ _ st6 fun b hb o' e => hk7 b o' e
      have hK7 : ∀ b o, b ≠ L → b ≠ P → h1.get? b = some o → h7.get? b = some o := fun b o hb hb' e => hk7 b o (hK6 b o hb hb' e)
      clear F6 N6 hK6 st6 hk7
      walk1
      refine wpAny_Name (wpAny_loadName_local rfl rfl F7.ns (by exact q2) ?_) (by decide)
      walk1
      refine ⟨X.keeps F7.keep, ?_⟩
      have hle7 : LeadAt w h7 f d (wordOf ns) := hle1.but F1s hdL hP1 hK7
      have hfn : FnAt f h7 := by
        obtain ⟨_, _, _, _, _, _, _, a1, _⟩ := hle7
        exact closAt_fn a1
      have hpart : Txt.slice (Txt.join (Str.ofString "") (signsT ((C0 : Int) + (j : Int) * (U : Int)) 10)) (some (10 - (lo : Int) - (R : Int))) (some (10 - (lo : Int))) = partT lo R ((C0 : Int) + (j : Int) * (U : Int)) := rfl
      rw [hpart]
      refine reduce_raw (n := (partT lo R ((C0 : Int) + (j : Int) * (U : Int))).cps.size) (P := SignAt (partT lo R ((C0 : Int) + (j : Int) * (U : Int)))) (fun i v => ∃ t, v = .str (pathT ns (keyAt i0) (partT lo R ((C0 : Int) + (j : Int) * (U : Int))) i) t) rfl (Nat.lt_of_le_of_lt (Nat.le_add_right _ _) (room_law _)) (X.keeps F7.keep) (T.keeps F7.keep) hfn iters_str ⟨tf, rfl⟩ ?_ ?_
      · rintro i v acc A' s' Q' E' hi ⟨c, u, hc, rfl⟩ ⟨ta, rfl⟩ hA hdp hun hk htk hret
        have hdp' : A'.depth < recursionLimit := by
          have h1 := room_law (envOfC (Str.ofString "law") (default : Scope) L fa cd)
          have h2 : A'.depth ≤ callerA.depth + 1 + 1 := hdp
          have h3 : callerA.depth + 1 + 10 < recursionLimit := h1
          omega
        have kk : h₀.StaysIn s'.heap := fun b o e => hk b o (F7.keep b o e)
        refine led_raw hdp' (X.keeps kk) (T.keeps kk) (hle7.stays hk) (path_key ns (keyAt i0) _ (keyAt_key (by omega)) i) fun t h' tk' hk' => ?_
        refine hret _ _ _ hk' ⟨t, ?_⟩
        show _ = Value.str (ledT (wordOf ns (pathT ns (keyAt i0) (partT lo R ((C0 : Int) + (j : Int) * (U : Int))) i)) ⟨#[(partT lo R ((C0 : Int) + (j : Int) * (U : Int))).cps.getD i 0]⟩) t
        have hcd : (partT lo R ((C0 : Int) + (j : Int) * (U : Int))).cps.getD i 0 = c := by rw [Array.getD_eq_getD_getElem?, hc]; rfl
        rw [hcd]
      · rintro r h8 tk8 hk8 _ ⟨t8, rfl⟩
        dsimp only at hk8 ⊢
        have F8 := fr_stays F7 hk8
        have N8 : News h₀ L h8 [(P, PySem.W.listOf its n), (100, tabObj ps), (93, tabObj ps')] := fun q hq => ⟨hk8 _ _ (N7 q hq).1, (N7 q hq).2⟩
        have st8 := W0.frame (j + 1) _ _ st7 fun b hb o' e => hk8 b o' e
        have hK8 : ∀ b o, b ≠ L → b ≠ P → h1.get? b = some o → h8.get? b = some o := fun b o hb hb' e => hk8 b o (hK7 b o hb hb' e)
        clear F7 N7 hK7 st7 hk8 hle7 hfn
        walk1
        refine append_at (News.get N8 (.head _)) (fun h9 hs9 ho9 => ?_) (by rw [sizeLine_eq]; omega)
        have z := N8 (P, PySem.W.listOf its n) (.head _)
        have F9 := F8.change hs9 z.2.1 z.2.2
        have N9 := news_set (pre := []) N8 (fun _ h => nomatch h) hNP hs9 ho9
        have st9 := W0.frame (j + 1) _ _ st8 fun b hb o' e => hs9.extBut b o' (fun (h : b = P) => hNI its n (P, PySem.W.listOf its n) (.head _) (h.symm.trans (List.mem_singleton.mp hb))) e
        have hK9 : ∀ b o, b ≠ L → b ≠ P → h1.get? b = some o → h9.get? b = some o := fun b o hb hb' e => hs9.extBut b o hb' (hK8 b o hb hb' e)
        clear F8 N8 hK8 st8
        dsimp only
        refine wpAny_execs_nil ?_
        refine ⟨V + 1 - (j + 1), by omega, j + 1, h9, _, _, _, _, rfl, F9, ⟨q1, q2, q3, q4, q5, q6, q7, q8⟩, N9, ?_, by rw [Array.size_push, hsize], ?_, hK9, hlt, rfl⟩
        · have e3 : leaves ns (keyAt i0) lo R C0 U (j + 1) = leaves ns (keyAt i0) lo R C0 U j ++ [leafT ns (keyAt i0) lo R C0 U j] := by
            unfold leaves
            rw [List.range_succ, List.map_append, List.map_singleton]
          rw [e3]
          exact strs_push hst
        · exact st9
    · have hjn : j = V := by omega
      subst hjn
      refine (WD _).done _ _ _ hit fun h3 tk3 hk3 => ?_
      dsimp only at hk3 ⊢
      have k3 : ∀ b o, b ≠ h1.objs.size → h'.get? b = some o → h3.get? b = some o := fun b o hb e => hk3 b o (fun hm => hb (List.mem_singleton.mp hm)) e
      have F3 : Fr h₀ L h3 m' := ⟨F2.ns.at' fun o e => k3 _ o (Nat.ne_of_lt hLI) e, fun b o e => k3 b o (fun q => by rw [q, hI0] at e; cases e) (F2.keep b o e), F2.above⟩
      have N3 : News h₀ L h3 [(P, PySem.W.listOf its n), (100, tabObj ps), (93, tabObj ps')] := fun q hq => ⟨k3 _ _ (hNI _ _ q hq) (N2 q hq).1, (N2 q hq).2⟩
      refine wpAny_execs_nil ?_
      dsimp only
      refine hnext p loose mean mg mb h₀ _ L fa P cd m' told _ to ps ps' its n Q E htold hst ?_ ?_ X T F3 q3 q8 N3 ret
      · unfold leaves; rw [List.length_map, List.length_range]; omega
      · exact leaves_one ns i0 lo R C0 U _ (by omega)
  · refine ⟨0, _, _, m, #[], 0, rfl, F1.push _, ⟨hm1, hm2, hm3, hm4, hm5, hm6, hm7, hm8⟩, N1.pushKeep _, .nil, rfl, ?_, ?_, Nat.zero_le _, rfl⟩
    · simpa using Heap.get?_push_size _ rfl
    · exact fun b o _ _ e => Heap.get?_push_of_some _ e
end Mine

-- part Law5
namespace Mine

theorem strs_len {vs : List Value} {xs : List Str} (h : StrsAre vs xs) : vs.length = xs.length := by
  induction h with
  | nil => rfl
  | cons y t _ ih => rw [List.length_cons, List.length_cons, ih]
theorem strs_mem {vs : List Value} {xs : List Str} (h : StrsAre vs xs) : ∀ v ∈ vs, ∃ x t, v = .str x t := by
  induction h with
  | nil => exact fun _ h => nomatch h
  | cons y t _ ih =>
    intro v hv
    rcases List.mem_cons.mp hv with e | hv
    · exact ⟨_, _, e⟩
    · exact ih v hv
theorem paired_eq {α : Type} {a b : List α} (h : Paired (fun v y => y = v) a b) : b = a := by
  induction h with
  | nil => rfl
  | cons e _ ih => rw [e, ih]
theorem strs_filter {vs : List Value} {xs : List Str} (h : StrsAre vs xs) {ys : List Value} (hp : Paired (fun v y => y = v) (vs.filter (fun v => match v with | .str x _ => live x | _ => true)) ys) : StrsAre ys (xs.filter live) := by
  rw [paired_eq hp]
  clear hp
  induction h with
  | nil => exact .nil
  | cons y t _ ih =>
    rw [List.filter_cons, List.filter_cons]
    dsimp only
    split
    · exact .cons _ _ ih
    · exact ih

theorem rest4_ok (w : World) : ∀ bd sc, lawParts w = some (bd, sc) → Rest4Spec w (bd.drop 12) sc := by
  intro bd sc e
  have e' : lawParts w = some (_, _) := rfl
  rw [e'] at e
  cases e
  intro p loose mean mg mb h₀ s L fa P cd m told xs to ps ps' its n Q E htold hst hlen hone X T F hm1 hm2 N ret
  dsimp only [List.drop]
  refine wpAny_execs_cons ?_
  iterate 2 walk1
  refine wpAny_Name (wpAny_loadName_local rfl rfl F.ns hm1 ?_) (by decide)
  iterate 5 walk1
  refine wpAny_ListComp_map (fun v => match v with | .str x _ => live x | _ => true) (fun v y => y = v) rfl (by decide) (by decide) rfl (by decide) rfl ?_
  refine wpAny_Name (wpAny_loadName_local rfl rfl F.ns hm2 ?_) (by decide)
  have hPl : s.heap.IsList P its := ⟨_, (N _ (.head _)).1, rfl, n, rfl⟩
  refine ⟨P, its, rfl, hPl, ?_, ?_, ?_, ?_⟩
  · have : its.size = xs.length := by rw [← Array.length_toList]; exact strs_len hst
    rw [this, sizeLine_eq]; omega
  · intro C v s₂ m₂ E' hv hns hm hk
    obtain ⟨x, t, rfl⟩ := strs_mem hst v (Array.mem_toList_iff.mpr hv)
    refine wpAny_tests_one (wpAny_isTrue_Compare1 ?_)
    refine wpAny_Name (wpAny_loadName_local rfl rfl hns hm ?_) (by decide)
    refine Constant_str ?_
    refine PySem.P.ne_str (wpAny_truthy_bool ⟨?_, _, _, rfl, fun b o e => e⟩)
    show (x.cps.toList != (Str.ofString " ").cps.toList) = live x
    unfold live
    by_cases h : x = Str.ofString " "
    · subst h; decide
    · have h2 : x.cps.toList ≠ (Str.ofString " ").cps.toList := fun e => h (Str.ext' (Array.toList_inj.mp e))
      rw [beq_eq_false_iff_ne.mpr h, bne_iff_ne.mpr h2]; rfl
  · intro C v s₂ m₂ E' hv hpv hns hm hk
    refine wpAny_Name (wpAny_loadName_local rfl rfl hns hm ?_) (by decide)
    exact ⟨rfl, _, _, rfl, fun b o e => e⟩
  · intro D h' tk ys hD hys hpr hk
    dsimp only at hk ⊢
    have F1 := fr_stays F hk
    have N1 : News h₀ L h' [(P, PySem.W.listOf its n), (100, tabObj ps), (93, tabObj ps')] := fun q hq => ⟨hk _ _ (N q hq).1, (N q hq).2⟩
    clear F N
    walk1
    refine join_listW (ys := xs.filter live) (items := ys) hys (strs_filter hst hpr) (by decide) ?_ fun t' k => ?_
    · have h1 : ∀ x ∈ xs.filter live, x.length = 1 := fun x hx => hone x (List.mem_filter.mp hx).1
      rw [sum_ones _ h1]
      have h2 : (xs.filter live).length ≤ xs.length := List.length_filter_le _ _
      omega
    · dsimp only
      refine PySem.P.eq_str ?_
      rw [← htold, beq_self_eq_true]
      exact ret _ _ _ ps ps' F1 fun q hq => N1 q (.tail _ hq)
end Mine

-- part Fin
namespace Mine
theorem law_all (w : World) : ∃ bd sc, lawParts w = some (bd, sc) ∧ LawSpec w bd sc := law_ok w (rest_ok w (rest2_ok w (rest3_ok w (rest4_ok w))))
end Mine

theorem PySem.Challenge.cw_op0066_01_holds : PySem.Challenge.rw_op0066_01.Holds := by
  refine Mine.hd ?_
  k_go0
  (all_goals try k_fold)
  rename Fr _ _ _ _ => FF
  rename News _ _ _ _ => NN
  rename Top _ _ _ _ _ (ghostOf _ _) => TT
  rename Frag.In _ _ => XX
  rename IntsAre _ _ => hI
  rename PyData.layable0 _ = true => hlay
  rename Obj.data _ = _ => hco
  rename ¬ (_ : Int) < _ => hlen
  rename World => w0
  obtain ⟨bd, sc, e1, hspec⟩ := Mine.law_all w0
  have e' : Mine.lawParts w0 = some (_, _) := rfl
  rw [e'] at e1
  cases e1
  refine hspec _ _ _ _ _ _ _ _ _ _ _ _ _ _ _ _ XX TT ?c1 ?c2 ?hl hI ?hlen hlay FF NN hco ?ret
  case c1 => assumption
  case c2 => assumption
  case hl => assumption
  case hlen => omega
  intro h' tk m' ps ps' F9 N9
  clear FF NN
  refine ⟨?_, GrownAt.of N9 (by k_mem), GrownAt.of N9 (by k_mem), True.intro⟩
  dsimp only
  wrow_close
