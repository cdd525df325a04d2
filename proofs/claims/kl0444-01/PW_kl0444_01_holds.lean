import PyProof.Rows.All
import Wide.All
import OpenK.AllK
import Wide.FinOn
import PySem.Challenge.RW_kl0444_01
open PySem PySem.W PyProof.Rows PySem.Calls
set_option Elab.async false
set_option maxRecDepth 100000
set_option maxHeartbeats 8000000
set_option pp.deepTerms false
set_option pp.deepTerms.threshold 7
set_option pp.proofs.threshold 0
set_option linter.all false
namespace Mine
open_top hd for PySem.Challenge.rw_kl0444_01
section
theorem fresh_0 : True := by
  w_top off
  trivial
abbrev PR : Program := PySem.Challenge.rw_kl0444_01.row.prog

theorem off_tail {news : List (Addr × Obj)} {M d : Nat} (h : ∀ q ∈ news, @LE.le Nat _ q.1 M) (hd : M < d) : ∀ p ∈ news, p.1 ≠ d :=
  fun p hp => Nat.ne_of_lt (Nat.lt_of_le_of_lt (h p hp) hd)
theorem ints_to {vs : List Value} {ns ns' : List Int} (h : IntsAre vs ns) (e : ns = ns') : IntsAre vs ns' := e ▸ h

theorem int_to {Q : Value → Shared → Prop} {x y : Int} {t : Tok} {s : Shared} (h : Q (.int x t) s) (e : y = x) : Q (.int y t) s := e ▸ h

theorem imp_lt {a b c d : Prop} (h : (a ∧ b) ∨ d) (f : b → c) : (a ∧ c) ∨ d := h.imp (fun x => ⟨x.1, f x.2⟩) id

/-- a table of inner code: still empty, or it holds its one entry -/
def TabMode (o : Obj) (line col : Nat) (qual : PySem.Str) (tl : List (Addr × Obj)) (Mx : Addr) : Prop :=
  o = tabObj #[] ∨ ∃ c' oc vs t, o = tabObj #[rawInt line, rawInt col, .ref c'] ∧ (c', oc) ∈ tl ∧ @LE.le Nat _ c' Mx ∧ oc.data = .fields vs ∧ vs[1]? = some (.str qual t)

section
variable {M : Model} {A : Around} {E : Value → Shared → Prop} {s : Shared} {h₀ : Heap} {L a c P : Addr} {m mg mb : PySem.Str → Option Value} {cn : PySem.Str} {cs : Scope} {ccd : Value} {cl : List (PySem.Str × Addr)} {news : List (Addr × Obj)} {g : Obj → List (Addr × Obj)}
  {p : Program} {loose : List PySem.Str} {mean : ExcName → Option Value} {name qual : PySem.Str} {params : Arguments} {body : List Stmt} {scope : Scope} {pos : Pos} {firstLine : Nat} {clos : List (PySem.Str × Addr)}
theorem def_uni {Q : Value → Shared → Prop} {o : Obj} {tl : List (Addr × Obj)} {Mx : Addr} (F : Fr h₀ L s.heap m) (N : News h₀ L s.heap news) (T : Top p loose mean mg mb h₀) (C : CodeHd h₀ c P) (hcd : ccd = .ref c) (U : UpdF P o news g)
    (hm : TabMode o pos.line pos.col qual tl Mx) (hs : ∀ q ∈ tl, q ∈ news)
    (hcl : closureFor scope (envX cn cs L a ccd cl) = pure clos)
    (h : ∀ f c' oc vs t ctv doc h' tk, Fr h₀ L h' m →
      News h₀ L h' ((f, fnMade name qual params body scope clos doc ((mg "__name__").getD .none) c' ctv) :: (c', oc) :: g (tabObj #[rawInt pos.line, rawInt pos.col, .ref c'])) →
      oc.data = .fields vs → vs[1]? = some (.str qual t) → (∀ q ∈ news, q.1 < f) → c' < f → (@LE.le Nat _ c' Mx ∨ ∀ q ∈ news, q.1 < c') →
      ((o = tabObj #[] ∧ ∀ q ∈ news, q.1 < c') ∨ (o = tabObj #[rawInt pos.line, rawInt pos.col, .ref c'] ∧ (c', oc) ∈ tl)) → Q (.ref f) { s with heap := h', toks := tk }) :
    wpAny M A (makeFunction name qual params (.stmts body) scope (envX cn cs L a ccd cl) [] [] [] pos firstLine) Q E s := by
  rcases hm with rfl | ⟨c', oc, vs, t, rfl, hmem, hle, hd, hv⟩
  · refine nest_K F N T C hcd U trivial rfl hcl ?_
    intro f c' oc vs t ctv doc h' tk F' N' d1 d2 l1 l2
    exact h f c' oc vs t ctv doc h' tk F' (by simpa using N') d1 d2 (fun q hq => Nat.lt_trans (l1 q hq) l2) l2 (.inr l1) (.inl ⟨rfl, l1⟩)
  · obtain ⟨pre, post, e, hg, _, _⟩ := U.split
    have hP : (P, tabObj #[rawInt pos.line, rawInt pos.col, .ref c']) ∈ news := by rw [e]; exact List.mem_append_right _ (.head _)
    refine nestHit_K (c' := c') F N T C hcd hP (by simp [TriplesOk, rawInt]) (by simp [codeAmong, rawInt]) hcl ?_
    intro f ctv doc h' tk F' N' l1
    refine h f c' oc vs t ctv doc h' tk F' ?_ hd hv l1 (l1 _ (hs _ hmem)) (.inl hle) (.inr ⟨rfl, hmem⟩)
    intro q hq
    rcases List.mem_cons.mp hq with rfl | hq
    · exact N' _ (.head _)
    · rcases List.mem_cons.mp hq with rfl | hq
      · exact N' _ (.tail _ (hs _ hmem))
      · rw [hg, ← e] at hq; exact N' _ (.tail _ hq)
end
end
section
theorem fresh_1 : True := by
  w_top off
  trivial
local macro_rules | `(tactic| k_room) => `(tactic| ktr_room)
local macro_rules | `(tactic| k_all) => `(tactic| first | (refine off_tail (by assumption) ?_; omega) | assumption)
local macro_rules | `(tactic| walk_at "exec FunctionDef") => `(tactic| (k_here; kn_here; k_dflt (refine' nestDef_K ?d0 ?k0 ?a0 ?_; (case d0 => exact rfl); (case k0 => exact rfl); (case a0 => exact rfl)); k_dflt (refine' def_uni ?F ?N ?T ?C ?cd ?U ?hm ?hs ?cl ?_; (case F => k_asm); (case N => k_asm); (case T => k_asm); (case cd => exact rfl); (case C => kn_code); (case U => k_updF); (case hm => assumption); (case hs => kcf_all); (case cl => exact rfl); k_whole); intro f' c' oc' vs' t' ct' dc' h' tk' F' N' d1' d2' l1 l2 l3 l4; (try dsimp only at N'); (try k_lt l1); (try k_lt2 l2); replace l3 := Or.imp id allLt_of l3; (try simp only [AllLt, and_true] at l3); replace l4 := Or.imp (fun hh => And.intro hh.1 (allLt_of hh.2)) id l4; (try simp only [AllLt, and_true] at l4)))
local macro_rules | `(tactic| walk_at "binaryOp Mult ref int") => `(tactic| (rw [(by assumption : Int.fdiv (_ + 1 - 1) 1 = _)]))

/-- the three least bits -/
def bits (k : Int) : List Int := [k % 2, k / 2 % 2, k / 4 % 2]
abbrev QInner : PySem.Str := PySem.Str.ofString "_int2digits.<locals>.inner"

def ThingsClaim (w : World) (lot : Int) : Prop := ∀ (tok : Tok) (news : List (Addr × Obj))
    (p : Program) (loose : List PySem.Str) (mean : ExcName → Option Value) (mg mb : PySem.Str → Option Value)
    (dp un : Nat) (gd : Option (List Code)) (cn : PySem.Str) (cs : Scope) (a : Addr) (ccd : Value) (cl : List (PySem.Str × Addr)) (outer : List Env) (A₀ : Around) (base h₀ : Heap) (L : Addr) (m : PySem.Str → Option Value) (s : Shared) (Q E : Value → Shared → Prop)
    (Mx : Addr) (oM o16 : Obj) (_B : Below A₀ base outer h₀) (_F : Fr h₀ L s.heap m) (_X : (hd.heap_39 w.params).In h₀) (_N : News h₀ L s.heap ((16, o16) :: (Mx, oM) :: news)) (_T : Top p loose mean mg mb h₀) (_hck : cs.kind = .function)
    (_C : CodeHd base 20 16) (_hm : TabMode o16 5 4 QInner news Mx) (_hM : ∀ q ∈ news, @LE.le Nat _ q.1 Mx) (_h16 : @LT.lt Nat _ 16 Mx) (_hne : ∀ q ∈ news, q.1 ≠ 16)
    (_hdp : dp + 20 < recursionLimit) (_hun : un + 100 < cLine)
    (_ret : ∀ l vs n c' oc vs' t h' tk', Fr h₀ L h' m → News h₀ L h' ((l, W.listOf (List.toArray vs) n) :: (16, tabObj #[rawInt 5, rawInt 4, .ref c']) :: (c', oc) :: (Mx, oM) :: news) → IntsAre vs (bits lot) → oc.data = .fields vs' → vs'[1]? = some (.str QInner t) → @LT.lt Nat _ Mx l →
      ((o16 = tabObj #[] ∧ @LT.lt Nat _ Mx c') ∨ (o16 = tabObj #[rawInt 5, rawInt 4, .ref c'] ∧ (c', oc) ∈ news)) → (@LE.le Nat _ c' Mx ∨ @LT.lt Nat _ Mx c') → @LT.lt Nat _ c' l → Q (.ref l) { s with heap := h', toks := tk' }),
    wpAny (model PR w) (ktrTop dp un gd cn cs L a ccd cl outer) (call (.ref 53) [.int lot tok]) Q E s


theorem things_0 (w : World) (lot : Int) (hlo : 0 ≤ lot) (hhi : lot ≤ 0) : ThingsClaim w lot := by
  intro tok news p loose mean mg mb dp un gd cn cs a ccd cl outer A₀ base h₀ L m s Q E Mx oM o16 B F X N T hck C hm hM h16 hne hdp hun ret
  obtain rfl : lot = 0 := by omega
  have hb : (((Builtin.Int.intBits 0 : Nat) : Int) + 1 - 1).fdiv 1 = 0 := by
    decide +kernel
  refine wpAny_call ?_
  (first | k_dflt cell_enter | ktn_no "the def is not entered")
  k_steps
  all_goals first
    | (exfalso; omega)
    | (refine' ret _ _ _ _ _ _ _ _ _ ?F ?N ?I ?d1 ?d2 ?o1 ?o2 ?o3 ?o4; (case F => k_asm); (case N => refine cb_drop (by assumption) ?_; kcf_all); (case d1 => assumption); (case d2 => assumption); (case o2 => (refine imp_lt (by assumption) ?_; intro h2; omega)); (case o1 => omega); (case o3 => omega); (case o4 => omega); (refine ints_to (by l_ints) ?_); decide +kernel)


theorem things_1 (w : World) (lot : Int) (hlo : 1 ≤ lot) (hhi : lot ≤ 1) : ThingsClaim w lot := by
  intro tok news p loose mean mg mb dp un gd cn cs a ccd cl outer A₀ base h₀ L m s Q E Mx oM o16 B F X N T hck C hm hM h16 hne hdp hun ret
  obtain rfl : lot = 1 := by omega
  have hb : (((Builtin.Int.intBits 1 : Nat) : Int) + 1 - 1).fdiv 1 = 1 := by
    decide +kernel
  refine wpAny_call ?_
  (first | k_dflt cell_enter | ktn_no "the def is not entered")
  k_steps
  all_goals first
    | (exfalso; omega)
    | (refine' ret _ _ _ _ _ _ _ _ _ ?F ?N ?I ?d1 ?d2 ?o1 ?o2 ?o3 ?o4; (case F => k_asm); (case N => refine cb_drop (by assumption) ?_; kcf_all); (case d1 => assumption); (case d2 => assumption); (case o2 => (refine imp_lt (by assumption) ?_; intro h2; omega)); (case o1 => omega); (case o3 => omega); (case o4 => omega); (refine ints_to (by l_ints) ?_); decide +kernel)


theorem things_2 (w : World) (lot : Int) (hlo : 2 ≤ lot) (hhi : lot ≤ 3) : ThingsClaim w lot := by
  intro tok news p loose mean mg mb dp un gd cn cs a ccd cl outer A₀ base h₀ L m s Q E Mx oM o16 B F X N T hck C hm hM h16 hne hdp hun ret
  have hb : (((Builtin.Int.intBits lot : Nat) : Int) + 1 - 1).fdiv 1 = 2 := by
    (have hv : lot = 2 ∨ lot = 3 := by omega); (rcases hv with rfl | rfl <;> decide +kernel)
  refine wpAny_call ?_
  (first | k_dflt cell_enter | ktn_no "the def is not entered")
  k_steps
  all_goals first
    | (exfalso; omega)
    | (refine' ret _ _ _ _ _ _ _ _ _ ?F ?N ?I ?d1 ?d2 ?o1 ?o2 ?o3 ?o4; (case F => k_asm); (case N => refine cb_drop (by assumption) ?_; kcf_all); (case d1 => assumption); (case d2 => assumption); (case o2 => (refine imp_lt (by assumption) ?_; intro h2; omega)); (case o1 => omega); (case o3 => omega); (case o4 => omega); (refine ints_to (by l_ints) ?_); (have hv : lot = 2 ∨ lot = 3 := by omega); (rcases hv with rfl | rfl <;> decide +kernel))


theorem things_3 (w : World) (lot : Int) (hlo : 4 ≤ lot) (hhi : lot ≤ 7) : ThingsClaim w lot := by
  intro tok news p loose mean mg mb dp un gd cn cs a ccd cl outer A₀ base h₀ L m s Q E Mx oM o16 B F X N T hck C hm hM h16 hne hdp hun ret
  have hb : (((Builtin.Int.intBits lot : Nat) : Int) + 1 - 1).fdiv 1 = 3 := by
    (have hv : lot = 4 ∨ lot = 5 ∨ lot = 6 ∨ lot = 7 := by omega); (rcases hv with rfl | rfl | rfl | rfl <;> decide +kernel)
  refine wpAny_call ?_
  (first | k_dflt cell_enter | ktn_no "the def is not entered")
  k_steps
  all_goals first
    | (exfalso; omega)
    | (refine' ret _ _ _ _ _ _ _ _ _ ?F ?N ?I ?d1 ?d2 ?o1 ?o2 ?o3 ?o4; (case F => k_asm); (case N => refine cb_drop (by assumption) ?_; kcf_all); (case d1 => assumption); (case d2 => assumption); (case o2 => (refine imp_lt (by assumption) ?_; intro h2; omega)); (case o1 => omega); (case o3 => omega); (case o4 => omega); (refine ints_to (by l_ints) ?_); (have hv : lot = 4 ∨ lot = 5 ∨ lot = 6 ∨ lot = 7 := by omega); (rcases hv with rfl | rfl | rfl | rfl <;> decide +kernel))


theorem things (w : World) (lot : Int) (hlo : 0 ≤ lot) (hhi : lot < 8) : ThingsClaim w lot := by
  by_cases h1 : lot ≤ 0
  · exact things_0 w lot hlo h1
  by_cases h2 : lot ≤ 1
  · exact things_1 w lot (by omega) h2
  by_cases h3 : lot ≤ 3
  · exact things_2 w lot (by omega) h3
  exact things_3 w lot (by omega) (by omega)
end
section
theorem fresh_2 : True := by
  w_top off
  trivial
local macro_rules | `(tactic| k_room) => `(tactic| ktr_room)
local macro_rules | `(tactic| k_all) => `(tactic| first | (refine off_tail (by assumption) ?_; omega) | assumption)
local macro_rules | `(tactic| walk_at "exec FunctionDef") => `(tactic| (k_here; kn_here; k_dflt (refine' nestDef_K ?d0 ?k0 ?a0 ?_; (case d0 => exact rfl); (case k0 => exact rfl); (case a0 => exact rfl)); k_dflt (refine' def_uni ?F ?N ?T ?C ?cd ?U ?hm ?hs ?cl ?_; (case F => k_asm); (case N => k_asm); (case T => k_asm); (case cd => exact rfl); (case C => kn_code); (case U => k_updF); (case hm => assumption); (case hs => kcf_all); (case cl => exact rfl); k_whole); intro f' c' oc' vs' t' ct' dc' h' tk' F' N' d1' d2' l1 l2 l3 l4; (try dsimp only at N'); (try k_lt l1); (try k_lt2 l2); replace l3 := Or.imp id allLt_of l3; (try simp only [AllLt, and_true] at l3); replace l4 := Or.imp (fun hh => And.intro hh.1 (allLt_of hh.2)) id l4; (try simp only [AllLt, and_true] at l4)))
local macro_rules | `(tactic| walk_at "binaryOp Mult ref int") => `(tactic| (rw [(by assumption : Int.fdiv (_ + 1 - 1) 1 = _)]))

abbrev QInnerD : PySem.Str := PySem.Str.ofString "_digits2int.<locals>.inner"

theorem digits_claim (w : World) (b0 b1 b2 : Int) (h0 : 0 ≤ b0) (h0' : b0 ≤ 1) (h1 : 0 ≤ b1) (h1' : b1 ≤ 1) (h2 : 0 ≤ b2) (h2' : b2 ≤ 1) (t0 t1 t2 tok : Tok) (n : Nat) (l : Addr) (news : List (Addr × Obj))
    (p : Program) (loose : List PySem.Str) (mean : ExcName → Option Value) (mg mb : PySem.Str → Option Value)
    (dp un : Nat) (gd : Option (List Code)) (cn : PySem.Str) (cs : Scope) (a : Addr) (ccd : Value) (cl : List (PySem.Str × Addr)) (outer : List Env) (A₀ : Around) (base h₀ : Heap) (L : Addr) (m : PySem.Str → Option Value) (s : Shared) (Q E : Value → Shared → Prop)
    (Mx : Addr) (oM o23 : Obj) (B : Below A₀ base outer h₀) (F : Fr h₀ L s.heap m) (X : (hd.heap_39 w.params).In h₀) (N : News h₀ L s.heap ((23, o23) :: (l, W.listOf #[.int b0 t0, .int b1 t1, .int b2 t2] n) :: (Mx, oM) :: news)) (T : Top p loose mean mg mb h₀) (hck : cs.kind = .function)
    (C : CodeHd base 27 23) (hm : TabMode o23 20 4 QInnerD news Mx) (hM : ∀ q ∈ news, @LE.le Nat _ q.1 Mx) (hl : @LE.le Nat _ l Mx) (h23 : @LT.lt Nat _ 23 Mx) (hl23 : @Ne Nat l 23) (hne : ∀ q ∈ news, q.1 ≠ 23)
    (hdp : dp + 20 < recursionLimit) (hun : un + 100 < cLine)
    (ret : ∀ c' oc vs' t r h' tk', Fr h₀ L h' m → News h₀ L h' ((23, tabObj #[rawInt 20, rawInt 4, .ref c']) :: (c', oc) :: (l, W.listOf #[.int b0 t0, .int b1 t1, .int b2 t2] n) :: (Mx, oM) :: news) → oc.data = .fields vs' → vs'[1]? = some (.str QInnerD t) →
      ((o23 = tabObj #[] ∧ @LT.lt Nat _ Mx c') ∨ (o23 = tabObj #[rawInt 20, rawInt 4, .ref c'] ∧ (c', oc) ∈ news)) → (@LE.le Nat _ c' Mx ∨ @LT.lt Nat _ Mx c') → Q (.int (b0 + 2 * b1 + 4 * b2) r) { s with heap := h', toks := tk' }) :
    wpAny (model PR w) (ktrTop dp un gd cn cs L a ccd cl outer) (call (.ref 28) [.ref l, .int 1 tok]) Q E s := by
  refine wpAny_call ?_
  k_dflt (refine' code_defC ?k1 ?k2 ?k3 ?k4 ?k5 ?kA ?kF ?kK ?k6 ?k7 ?k8 ?k9 ?kB ?kD ?_ ?c2 ?c3 ?c4; (case kA => exact rfl); (case kF => exact rfl); (case kK => assumption); (case k1 => k_asm); (case k2 => k_asm); (case k3 => k_asm); (case k4 => k_asm); (case k5 => k_asm); (case k6 => k_is); (case k7 => k_is); (case k8 => k_room); (case k9 => first | exact BindsTo.of_eq rfl | exact binds_K (by k_in) rfl (by k_is) rfl rfl rfl | fail "k_enter: no rule for these arguments"); (case kB => exact rfl); (case kD => decide +kernel); (case c2 => exact rfl); (case c3 => exact rfl); (case c4 => exact rfl); k_whole; intro g' L' h' tk' cells' FG' F' N' Y' B' X' T' l1; (try k_lt l1); k_cells Y'; (try simp only [List.cons_append, List.nil_append] at N'); (try dsimp only); (try k_lift B'); (try k_fold))
  k_steps
  all_goals (refine' int_to (ret _ _ _ _ _ _ _ ?F ?N ?d1 ?d2 ?o2 ?o3) ?e; (case F => k_asm); (case N => refine cb_drop (by assumption) ?_; kcf_all); (case d1 => assumption); (case d2 => assumption); (case o2 => (refine imp_lt (by assumption) ?_; intro h2; omega)); (case o3 => omega); skip)
  all_goals (rcases (by omega : b0 = 0 ∨ b0 = 1) with rfl | rfl <;> rcases (by omega : b1 = 0 ∨ b1 = 1) with rfl | rfl <;> rcases (by omega : b2 = 0 ∨ b2 = 1) with rfl | rfl <;> decide +kernel)
end
section
theorem fresh_3 : True := by
  w_top off
  trivial
local macro_rules | `(tactic| k_room) => `(tactic| ktr_room)
local macro_rules | `(tactic| k_all) => `(tactic| first | (refine off_tail (by assumption) ?_; omega) | assumption)
local macro_rules | `(tactic| walk_at "exec FunctionDef") => `(tactic| (k_here; kn_here; k_dflt (refine' nestDef_K ?d0 ?k0 ?a0 ?_; (case d0 => exact rfl); (case k0 => exact rfl); (case a0 => exact rfl)); k_dflt (refine' def_uni ?F ?N ?T ?C ?cd ?U ?hm ?hs ?cl ?_; (case F => k_asm); (case N => k_asm); (case T => k_asm); (case cd => exact rfl); (case C => kn_code); (case U => k_updF); (case hm => assumption); (case hs => kcf_all); (case cl => exact rfl); k_whole); intro f' c' oc' vs' t' ct' dc' h' tk' F' N' d1' d2' l1 l2 l3 l4; (try dsimp only at N'); (try k_lt l1); (try k_lt2 l2); replace l3 := Or.imp id allLt_of l3; (try simp only [AllLt, and_true] at l3); replace l4 := Or.imp (fun hh => And.intro hh.1 (allLt_of hh.2)) id l4; (try simp only [AllLt, and_true] at l4)))
local macro_rules | `(tactic| walk_at "binaryOp Mult ref int") => `(tactic| (rw [(by assumption : Int.fdiv (_ + 1 - 1) 1 = _)]))

/-- what the halving gives, by fuel -/
def bisF (ys : List Int) (x : Int) : Nat → Int → Int → Int
  | 0, lo, _ => lo
  | f + 1, lo, hi => if lo < hi then (if ys.getD ((lo + hi).fdiv 2).toNat 0 < x then bisF ys x f ((lo + hi).fdiv 2 + 1) hi else bisF ys x f lo ((lo + hi).fdiv 2)) else lo
def bis (ys : List Int) (x : Int) : Int := bisF ys x ys.length 0 ys.length
theorem fdiv2 (a : Int) : 2 * a.fdiv 2 ≤ a ∧ a ≤ 2 * a.fdiv 2 + 1 := by
  rw [Int.fdiv_eq_ediv_of_nonneg a (by omega)]; omega
theorem bisF_more (ys : List Int) (x : Int) : ∀ (f g : Nat) (lo hi : Int), (hi - lo).toNat ≤ f → f ≤ g → bisF ys x g lo hi = bisF ys x f lo hi
  | 0, 0, _, _, _, _ => rfl
  | 0, g + 1, lo, hi, h, _ => by
    unfold bisF
    rw [if_neg (by omega)]
  | f + 1, 0, _, _, _, h => by omega
  | f + 1, g + 1, lo, hi, h, hg => by
    have h2 := fdiv2 (lo + hi)
    unfold bisF
    by_cases hl : lo < hi
    · rw [if_pos hl, if_pos hl]
      rw [bisF_more ys x f g ((lo + hi).fdiv 2 + 1) hi (by omega) (by omega), bisF_more ys x f g lo ((lo + hi).fdiv 2) (by omega) (by omega)]
    · rw [if_neg hl, if_neg hl]
abbrev BisW (ys : List Int) (x lo hi : Int) : Prop := 0 ≤ lo ∧ lo ≤ hi ∧ hi ≤ (ys.length : Int) ∧ bisF ys x (hi - lo).toNat lo hi = bis ys x
theorem bisW_start (ys : List Int) (x : Int) : BisW ys x 0 ys.length := ⟨by omega, by omega, by omega, by
  have : ((ys.length : Int) - 0).toNat = ys.length := by omega
  rw [this]; rfl⟩
theorem bisW_right {ys : List Int} {x lo hi : Int} (h : BisW ys x lo hi) (hl : lo < hi) (hx : ys.getD ((lo + hi).fdiv 2).toNat 0 < x) : BisW ys x ((lo + hi).fdiv 2 + 1) hi := by
  obtain ⟨h1, h2, h3, h4⟩ := h
  have h5 := fdiv2 (lo + hi)
  refine ⟨by omega, by omega, h3, ?_⟩
  obtain ⟨f, hf⟩ : ∃ f, (hi - lo).toNat = f + 1 := ⟨(hi - lo).toNat - 1, by omega⟩
  rw [hf] at h4
  unfold bisF at h4
  rw [if_pos hl, if_pos hx] at h4
  rw [← h4]
  exact (bisF_more ys x _ f _ _ (Nat.le_refl _) (by omega)).symm
theorem bisW_left {ys : List Int} {x lo hi : Int} (h : BisW ys x lo hi) (hl : lo < hi) (hx : ¬ ys.getD ((lo + hi).fdiv 2).toNat 0 < x) : BisW ys x lo ((lo + hi).fdiv 2) := by
  obtain ⟨h1, h2, h3, h4⟩ := h
  have h5 := fdiv2 (lo + hi)
  refine ⟨by omega, by omega, by omega, ?_⟩
  obtain ⟨f, hf⟩ : ∃ f, (hi - lo).toNat = f + 1 := ⟨(hi - lo).toNat - 1, by omega⟩
  rw [hf] at h4
  unfold bisF at h4
  rw [if_pos hl, if_neg hx] at h4
  rw [← h4]
  exact (bisF_more ys x _ f _ _ (Nat.le_refl _) (by omega)).symm
theorem bisW_end {ys : List Int} {x lo hi : Int} (h : BisW ys x lo hi) (hl : ¬ lo < hi) : lo = bis ys x := by
  obtain ⟨h1, h2, h3, h4⟩ := h
  have : (hi - lo).toNat = 0 := by omega
  rw [this] at h4
  exact h4

theorem bis_mr {lo hi : Int} (h : lo < hi) : (hi - ((lo + hi).fdiv 2 + 1)).toNat < (hi - lo).toNat := by
  have := fdiv2 (lo + hi); omega
theorem bis_ml {lo hi : Int} (h : lo < hi) : ((lo + hi).fdiv 2 - lo).toNat < (hi - lo).toNat := by
  have := fdiv2 (lo + hi); omega
theorem bisect_claim (w : World) (ys : List Int) (vs : List Value) (hys : IntsAre vs ys) (hlen : ys.length ≤ 1000) (x : Int) (tok : Tok) (n : Nat) (l : Addr) (news : List (Addr × Obj))
    (p : Program) (loose : List PySem.Str) (mean : ExcName → Option Value) (mg mb : PySem.Str → Option Value)
    (dp un : Nat) (gd : Option (List Code)) (cn : PySem.Str) (cs : Scope) (a : Addr) (ccd : Value) (cl : List (PySem.Str × Addr)) (outer : List Env) (A₀ : Around) (base h₀ : Heap) (L : Addr) (m : PySem.Str → Option Value) (s : Shared) (Q E : Value → Shared → Prop)
    (B : Below A₀ base outer h₀) (F : Fr h₀ L s.heap m) (X : (hd.heap_39 w.params).In h₀) (N : News h₀ L s.heap ((l, W.listOf (List.toArray vs) n) :: news)) (T : Top p loose mean mg mb h₀) (hck : cs.kind = .function)
    (hdp : dp + 20 < recursionLimit) (hun : un + 100 < cLine)
    (ret : ∀ r h' tk', Fr h₀ L h' m → News h₀ L h' ((l, W.listOf (List.toArray vs) n) :: news) → Q (.int (bis ys x) r) { s with heap := h', toks := tk' }) :
    wpAny (model PR w) (ktrTop dp un gd cn cs L a ccd cl outer) (call (.ref 46) [.ref l, .int x tok]) Q E s := by
  refine wpAny_call ?_
  k_dflt (refine' code_def ?k1 ?k2 ?k3 ?k4 ?k5 ?kA ?kF ?kK ?k6 ?k7 ?k8 ?k9 ?kB ?_ ?c2 ?c3 ?c4 ?c5; (case kA => exact rfl); (case kF => exact rfl); (case kK => assumption); (case k1 => k_asm); (case k2 => k_asm); (case k3 => k_asm); (case k4 => k_asm); (case k5 => k_asm); (case k6 => k_is); (case k7 => k_is); (case k8 => k_room); (case k9 => (refine' kp_binds ?kx ?ke; (case kx => k_in); (case ke => exact fun _ => rfl))); (case c5 => decide); (case kB => exact locs rfl); (case c2 => exact rfl); (case c3 => exact rfl); (case c4 => exact rfl); k_whole; intro g' L' h' FG' F' N' B' X' T'; (try dsimp only); (try k_lift B'); (try k_fold))
  k_with "exec While Compare cons nil" => k_while_given ["x"] (fun x script lo hi => 0 ≤ lo ∧ lo ≤ hi ∧ hi ≤ (script.length : Int) ∧ bisF script x (hi - lo).toNat lo hi = bis script x) (fun x script lo hi => (hi - lo).toNat) "lo" "hi"
  k_with "state" => first | exact bisW_start _ _ | exact bisW_right ⟨by assumption, by assumption, by assumption, by assumption⟩ (by assumption) (by assumption) | exact bisW_left ⟨by assumption, by assumption, by assumption, by assumption⟩ (by assumption) (by assumption)
  k_with "measure" => first | exact bis_mr (by assumption) | exact bis_ml (by assumption)
  k_steps
  all_goals first
    | exact int_to (ret _ _ _ (by k_asm) (by k_asm)) (bisW_end ⟨by assumption, by assumption, by assumption, by assumption⟩ (by assumption))
    | fail "left"

/-- bisect_left upon a list anywhere in the ledger -/
theorem bisect_w {w : World} {ys : List Int} {vs : List Value} {x : Int} {tok : Tok} {n : Nat} {l : Addr} {nw : List (Addr × Obj)}
    {p : Program} {loose : List PySem.Str} {mean : ExcName → Option Value} {mg mb : PySem.Str → Option Value}
    {dp un : Nat} {gd : Option (List Code)} {cn : PySem.Str} {cs : Scope} {a : Addr} {ccd : Value} {cl : List (PySem.Str × Addr)} {outer : List Env} {A₀ : Around} {base h₀ : Heap} {L : Addr} {m : PySem.Str → Option Value} {s : Shared} {Q E : Value → Shared → Prop}
    (B : Below A₀ base outer h₀) (F : Fr h₀ L s.heap m) (X : (hd.heap_39 w.params).In h₀) (N : News h₀ L s.heap nw) (T : Top p loose mean mg mb h₀) (hck : cs.kind = .function)
    (hm : (l, W.listOf (List.toArray vs) n) ∈ nw) (hys : IntsAre vs ys) (hlen : ys.length ≤ 1000) (hdp : dp + 20 < recursionLimit) (hun : un + 100 < cLine)
    (ret : ∀ r h' tk', Fr h₀ L h' m → News h₀ L h' nw → Q (.int (bis ys x) r) { s with heap := h', toks := tk' }) :
    wpAny (model PR w) (ktrTop dp un gd cn cs L a ccd cl outer) (call (.ref 46) [.ref l, .int x tok]) Q E s := by
  refine bisect_claim w ys vs hys hlen x tok n l nw p loose mean mg mb dp un gd cn cs a ccd cl outer A₀ base h₀ L m s Q E B F X ?_ T hck hdp hun ?_
  · intro q hq
    rcases List.mem_cons.mp hq with rfl | hq
    · exact N _ hm
    · exact N _ hq
  · exact fun r h' tk' F' N' => ret r h' tk' F' fun q hq => N' q (.tail _ hq)
theorem bisW_all (ys : List Int) (x : Int) : ∀ (f : Nat) (lo hi : Int), 0 ≤ lo → lo ≤ hi → lo ≤ bisF ys x f lo hi ∧ bisF ys x f lo hi ≤ hi
  | 0, lo, hi, h0, h => ⟨Int.le_refl _, h⟩
  | f + 1, lo, hi, h0, h => by
    have h2 := fdiv2 (lo + hi)
    unfold bisF
    split
    · split
      · have := bisW_all ys x f ((lo + hi).fdiv 2 + 1) hi (by omega) (by omega); omega
      · have := bisW_all ys x f lo ((lo + hi).fdiv 2) h0 (by omega); omega
    · omega
theorem bis_lo (ys : List Int) (x : Int) : 0 ≤ bis ys x := (bisW_all ys x ys.length 0 ys.length (by omega) (by omega)).1
theorem bis_hi (ys : List Int) (x : Int) : bis ys x ≤ ys.length := (bisW_all ys x ys.length 0 ys.length (by omega) (by omega)).2
end
section
theorem fresh_4 : True := by
  w_top off
  trivial
local macro_rules | `(tactic| k_room) => `(tactic| ktr_room)
local macro_rules | `(tactic| k_all) => `(tactic| first | (refine off_tail (by assumption) ?_; omega) | assumption)
local macro_rules | `(tactic| walk_at "exec FunctionDef") => `(tactic| (k_here; kn_here; k_dflt (refine' nestDef_K ?d0 ?k0 ?a0 ?_; (case d0 => exact rfl); (case k0 => exact rfl); (case a0 => exact rfl)); k_dflt (refine' def_uni ?F ?N ?T ?C ?cd ?U ?hm ?hs ?cl ?_; (case F => k_asm); (case N => k_asm); (case T => k_asm); (case cd => exact rfl); (case C => kn_code); (case U => k_updF); (case hm => assumption); (case hs => kcf_all); (case cl => exact rfl); k_whole); intro f' c' oc' vs' t' ct' dc' h' tk' F' N' d1' d2' l1 l2 l3 l4; (try dsimp only at N'); (try k_lt l1); (try k_lt2 l2); replace l3 := Or.imp id allLt_of l3; (try simp only [AllLt, and_true] at l3); replace l4 := Or.imp (fun hh => And.intro hh.1 (allLt_of hh.2)) id l4; (try simp only [AllLt, and_true] at l4)))
local macro_rules | `(tactic| walk_at "binaryOp Mult ref int") => `(tactic| (rw [(by assumption : Int.fdiv (_ + 1 - 1) 1 = _)]))

/-- what insort_left makes of a list -/
def insF (ys : List Int) (x : Int) : List Int := ys.take (bis ys x).toNat ++ x :: ys.drop (bis ys x).toNat

theorem ints_ins {vs : List Value} {ys : List Int} (h : IntsAre vs ys) {k : Int} (h0 : 0 ≤ k) (hk : k ≤ (ys.length : Int)) (x : Int) (t : Tok) : IntsAre (kl_ins vs k (.int x t)) (ys.take k.toNat ++ x :: ys.drop k.toNat) := by
  have hl := h.length
  unfold kl_ins
  rw [if_neg (by omega), show min k.toNat vs.length = k.toNat by omega]
  exact (h.take _).append (.cons x t (h.drop _))
theorem ints_insF {vs : List Value} {ys : List Int} (h : IntsAre vs ys) {x lo hi : Int} (hb : BisW ys x lo hi) (hl : ¬ lo < hi) (t : Tok) : IntsAre (kl_ins vs lo (.int x t)) (insF ys x) := by
  have e := bisW_end hb hl
  unfold insF
  rw [← e]
  exact ints_ins h hb.1 (by have := hb.2; omega) x t
theorem insort_claim (w : World) (ys : List Int) (vs : List Value) (hys : IntsAre vs ys) (hlen : ys.length ≤ 1000) (x : Int) (tok : Tok) (n : Nat) (l : Addr) (news : List (Addr × Obj))
    (p : Program) (loose : List PySem.Str) (mean : ExcName → Option Value) (mg mb : PySem.Str → Option Value)
    (dp un : Nat) (gd : Option (List Code)) (cn : PySem.Str) (cs : Scope) (a : Addr) (ccd : Value) (cl : List (PySem.Str × Addr)) (outer : List Env) (A₀ : Around) (base h₀ : Heap) (L : Addr) (m : PySem.Str → Option Value) (s : Shared) (Q E : Value → Shared → Prop)
    (B : Below A₀ base outer h₀) (F : Fr h₀ L s.heap m) (X : (hd.heap_39 w.params).In h₀) (N : News h₀ L s.heap ((l, W.listOf (List.toArray vs) n) :: news)) (T : Top p loose mean mg mb h₀) (hck : cs.kind = .function)
    (hne : ∀ q ∈ news, q.1 ≠ l) (hdp : dp + 20 < recursionLimit) (hun : un + 100 < cLine)
    (ret : ∀ vs' n' h' tk', Fr h₀ L h' m → News h₀ L h' ((l, W.listOf (List.toArray vs') n') :: news) → IntsAre vs' (insF ys x) → Q .none { s with heap := h', toks := tk' }) :
    wpAny (model PR w) (ktrTop dp un gd cn cs L a ccd cl outer) (call (.ref 37) [.ref l, .int x tok]) Q E s := by
  refine wpAny_call ?_
  k_dflt (refine' code_def ?k1 ?k2 ?k3 ?k4 ?k5 ?kA ?kF ?kK ?k6 ?k7 ?k8 ?k9 ?kB ?_ ?c2 ?c3 ?c4 ?c5; (case kA => exact rfl); (case kF => exact rfl); (case kK => assumption); (case k1 => k_asm); (case k2 => k_asm); (case k3 => k_asm); (case k4 => k_asm); (case k5 => k_asm); (case k6 => k_is); (case k7 => k_is); (case k8 => k_room); (case k9 => (refine' kp_binds ?kx ?ke; (case kx => k_in); (case ke => exact fun _ => rfl))); (case c5 => decide); (case kB => exact locs rfl); (case c2 => exact rfl); (case c3 => exact rfl); (case c4 => exact rfl); k_whole; intro g' L' h' FG' F' N' B' X' T'; (try dsimp only); (try k_lift B'); (try k_fold))
  k_with "exec While Compare cons nil" => k_while_given ["x"] (fun x script lo hi => 0 ≤ lo ∧ lo ≤ hi ∧ hi ≤ (script.length : Int) ∧ bisF script x (hi - lo).toNat lo hi = bis script x) (fun x script lo hi => (hi - lo).toNat) "lo" "hi"
  k_with "state" => first | exact bisW_start _ _ | exact bisW_right ⟨by assumption, by assumption, by assumption, by assumption⟩ (by assumption) (by assumption) | exact bisW_left ⟨by assumption, by assumption, by assumption, by assumption⟩ (by assumption) (by assumption)
  k_with "measure" => first | exact bis_mr (by assumption) | exact bis_ml (by assumption)
  k_steps
  refine kl_insert (by k_asm) (by k_asm) ?f rfl (Upd.head hne) ?z ?_
  case f => simp only [Builtin.List.listFitsIndex, Bool.and_eq_true, decide_eq_true_eq]; omega
  case z => have := hys.length; rw [PySem.sizeLine_eq]; dsimp only; omega
  intro h' F' N'
  k_steps
  exact ret _ _ _ _ (by k_asm) (by k_asm) (ints_insF hys ⟨by assumption, by assumption, by assumption, by assumption⟩ (by assumption) _)

/-- insort_left upon a list anywhere in the ledger -/
theorem insort_w {w : World} {ys : List Int} {vs : List Value} {x : Int} {tok : Tok} {n : Nat} {l : Addr} {nw : List (Addr × Obj)} {g : Obj → List (Addr × Obj)}
    {p : Program} {loose : List PySem.Str} {mean : ExcName → Option Value} {mg mb : PySem.Str → Option Value}
    {dp un : Nat} {gd : Option (List Code)} {cn : PySem.Str} {cs : Scope} {a : Addr} {ccd : Value} {cl : List (PySem.Str × Addr)} {outer : List Env} {A₀ : Around} {base h₀ : Heap} {L : Addr} {m : PySem.Str → Option Value} {s : Shared} {Q E : Value → Shared → Prop}
    (hys : IntsAre vs ys) (hlen : ys.length ≤ 1000)
    (B : Below A₀ base outer h₀) (F : Fr h₀ L s.heap m) (X : (hd.heap_39 w.params).In h₀) (N : News h₀ L s.heap nw) (T : Top p loose mean mg mb h₀) (hck : cs.kind = .function)
    (U : UpdF l (W.listOf (List.toArray vs) n) nw g) (hdp : dp + 20 < recursionLimit) (hun : un + 100 < cLine)
    (ret : ∀ vs' n' h' tk', Fr h₀ L h' m → News h₀ L h' (g (W.listOf (List.toArray vs') n')) → IntsAre vs' (insF ys x) → Q .none { s with heap := h', toks := tk' }) :
    wpAny (model PR w) (ktrTop dp un gd cn cs L a ccd cl outer) (call (.ref 37) [.ref l, .int x tok]) Q E s := by
  obtain ⟨pre, post, rfl, hg, h1, h2⟩ := U.split
  refine insort_claim w ys vs hys hlen x tok n l (pre ++ post) p loose mean mg mb dp un gd cn cs a ccd cl outer A₀ base h₀ L m s Q E B F X ?_ T hck ?_ hdp hun ?_
  · intro q hq
    rcases List.mem_cons.mp hq with rfl | hq
    · exact N _ (List.mem_append_right _ (.head _))
    · rcases List.mem_append.mp hq with hq | hq
      · exact N _ (List.mem_append_left _ hq)
      · exact N _ (List.mem_append_right _ (.tail _ hq))
  · intro q hq
    rcases List.mem_append.mp hq with hq | hq
    · exact h1 q hq
    · exact h2 q hq
  · intro vs' n' h' tk' F' N' I'
    refine ret vs' n' h' tk' F' ?_ I'
    rw [hg]
    intro q hq
    rcases List.mem_append.mp hq with hq | hq
    · exact N' _ (.tail _ (List.mem_append_left _ hq))
    · rcases List.mem_cons.mp hq with rfl | hq
      · exact N' _ (.head _)
      · exact N' _ (.tail _ (List.mem_append_right _ hq))
end
section
theorem fresh_5 : True := by
  w_top off
  trivial

/-! the contract of _law_things over any ledger -/
abbrev tab16 (c' : Addr) : Obj := tabObj #[rawInt 5, rawInt 4, .ref c']
/-- what is known of the inner def's code object -/
def CodeO (q : PySem.Str) (oc : Obj) : Prop := ∃ vs t, oc.data = .fields vs ∧ vs[1]? = some (.str q t)
/-- the table's part of the ledger: nothing yet, or the one entry and its code object -/
def MdT (T : List (Addr × Obj)) (R : List (Addr × Obj)) : Prop :=
  T = [(16, tabObj #[])] ∨ ∃ c' oc, T = [(16, tab16 c'), (c', oc)] ∧ CodeO QInner oc ∧ (@Ne Nat c' 16) ∧ ∀ q ∈ R, @Ne Nat q.1 c'

theorem max_of : ∀ (l : List (Addr × Obj)), (∃ q ∈ l, @LT.lt Nat _ 16 q.1) → ∃ Mx oM, (Mx, oM) ∈ l ∧ (∀ q ∈ l, @LE.le Nat _ q.1 Mx) ∧ @LT.lt Nat _ 16 Mx
  | [], ⟨_, h, _⟩ => nomatch h
  | (a, o) :: r, ⟨q, hq, h16⟩ => by
    by_cases hr : ∃ q ∈ r, @LT.lt Nat _ 16 q.1
    · obtain ⟨Mx, oM, h1, h2, h3⟩ := max_of r hr
      by_cases ha : @LE.le Nat _ a Mx
      · exact ⟨Mx, oM, List.mem_cons_of_mem _ h1, fun p hp => by
          rcases List.mem_cons.mp hp with rfl | hp
          · exact ha
          · exact h2 p hp, h3⟩
      · have ha' : @LT.lt Nat _ Mx a := Nat.lt_of_not_le ha
        exact ⟨a, o, List.mem_cons_self, fun p hp => by
          rcases List.mem_cons.mp hp with rfl | hp
          · exact Nat.le_refl _
          · exact Nat.le_trans (h2 p hp) (Nat.le_of_lt ha'), Nat.lt_trans h3 ha'⟩
    · have hqa : q = (a, o) := (List.mem_cons.mp hq).resolve_right fun h => hr ⟨q, h, h16⟩
      subst hqa
      exact ⟨a, o, List.mem_cons_self, fun p hp => by
        rcases List.mem_cons.mp hp with rfl | hp
        · exact Nat.le_refl _
        · exact Nat.le_trans (Nat.le_of_not_lt fun h => hr ⟨p, hp, h⟩) (Nat.le_of_lt h16), h16⟩

section
variable {w : World} {lot : Int} {tok : Tok} {nw T R : List (Addr × Obj)} {p : Program} {loose : List PySem.Str} {mean : ExcName → Option Value} {mg mb : PySem.Str → Option Value}
  {dp un : Nat} {gd : Option (List Code)} {cn : PySem.Str} {cs : Scope} {a : Addr} {ccd : Value} {cl : List (PySem.Str × Addr)} {outer : List Env} {A₀ : Around} {base h₀ : Heap} {L : Addr} {m : PySem.Str → Option Value} {s : Shared} {Q E : Value → Shared → Prop}

theorem things_k (hlo : 0 ≤ lot) (hhi : lot < 8) (B : Below A₀ base outer h₀) (F : Fr h₀ L s.heap m) (X : (hd.heap_39 w.params).In h₀) (N : News h₀ L s.heap nw) (Tp : Top p loose mean mg mb h₀) (hck : cs.kind = .function)
    (C : CodeHd base 20 16) (md : MdT T R) (hT : ∀ q ∈ T, q ∈ nw) (hR : ∀ q ∈ R, q ∈ nw) (hbig : ∃ q ∈ R, @LT.lt Nat _ 16 q.1) (h16 : ∀ q ∈ R, @Ne Nat q.1 16)
    (hdp : dp + 20 < recursionLimit) (hun : un + 100 < cLine)
    (ret : ∀ c' oc l vs n h' tk', Fr h₀ L h' m → News h₀ L h' ((l, W.listOf (List.toArray vs) n) :: (16, tab16 c') :: (c', oc) :: R) → IntsAre vs (bits lot) → CodeO QInner oc → (@Ne Nat c' 16) → (∀ q ∈ R, @Ne Nat q.1 c') →
      (∀ q ∈ R, q.1 < l) → (@LT.lt Nat _ c' l) → (@LT.lt Nat _ 16 l) → (T = [(16, tabObj #[])] ∨ T = [(16, tab16 c'), (c', oc)]) → Q (.ref l) { s with heap := h', toks := tk' }) :
    wpAny (model PR w) (ktrTop dp un gd cn cs L a ccd cl outer) (call (.ref 53) [.int lot tok]) Q E s := by
  obtain ⟨Mx, oM, hM1, hM2, hM3⟩ := max_of R hbig
  rcases md with rfl | ⟨c0, oc0, rfl, hcd, hc16, hcR⟩
  · refine things w lot hlo hhi tok R p loose mean mg mb dp un gd cn cs a ccd cl outer A₀ base h₀ L m s Q E Mx oM (tabObj #[]) B F X ?_ Tp hck C (.inl rfl) hM2 hM3 h16 hdp hun ?_
    · intro q hq
      rcases List.mem_cons.mp hq with rfl | hq
      · exact N _ (hT _ (.head _))
      · rcases List.mem_cons.mp hq with rfl | hq
        · exact N _ (hR _ hM1)
        · exact N _ (hR _ hq)
    · intro l vs n c' oc vs' t h' tk' F' N' I d1 d2 o1 o2 o3 o4
      have hc : @LT.lt Nat _ Mx c' := by
        rcases o2 with h | h
        · exact h.2
        · cases h.1
      refine ret c' oc l vs n h' tk' F' (fun q hq => N' q ?_) I ⟨_, _, d1, d2⟩ (Nat.ne_of_gt (Nat.lt_trans hM3 hc)) (fun q hq => Nat.ne_of_lt (Nat.lt_of_le_of_lt (hM2 q hq) hc)) (fun q hq => Nat.lt_of_le_of_lt (hM2 q hq) o1) o4 (Nat.lt_trans hM3 o1) (.inl rfl)
      rcases List.mem_cons.mp hq with rfl | hq
      · exact .head _
      · rcases List.mem_cons.mp hq with rfl | hq
        · exact .tail _ (.head _)
        · rcases List.mem_cons.mp hq with rfl | hq
          · exact .tail _ (.tail _ (.head _))
          · exact .tail _ (.tail _ (.tail _ (.tail _ hq)))
  · obtain ⟨My, oM', hy1, hy2, hy3⟩ := max_of ((c0, oc0) :: R) (by obtain ⟨q, h1, h2⟩ := hbig; exact ⟨q, .tail _ h1, h2⟩)
    have hmem : ∀ q ∈ (c0, oc0) :: R, q ∈ nw := fun q hq => by
      rcases List.mem_cons.mp hq with rfl | hq
      · exact hT _ (.tail _ (.head _))
      · exact hR _ hq
    obtain ⟨vs0, t0, hd1, hd2⟩ := hcd
    refine things w lot hlo hhi tok ((c0, oc0) :: R) p loose mean mg mb dp un gd cn cs a ccd cl outer A₀ base h₀ L m s Q E My oM' (tab16 c0) B F X ?_ Tp hck C (.inr ⟨c0, oc0, vs0, t0, rfl, .head _, hy2 _ (.head _), hd1, hd2⟩) hy2 hy3 ?_ hdp hun ?_
    · intro q hq
      rcases List.mem_cons.mp hq with rfl | hq
      · exact N _ (hT _ (.head _))
      · rcases List.mem_cons.mp hq with rfl | hq
        · exact N _ (hmem _ hy1)
        · exact N _ (hmem _ hq)
    · intro q hq
      rcases List.mem_cons.mp hq with rfl | hq
      · exact hc16
      · exact h16 q hq
    · intro l vs n c' oc vs' t h' tk' F' N' I d1 d2 o1 o2 o3 o4
      have hc : c0 = c' := by
        rcases o2 with h | h
        · cases h.1
        · have h1 := h.1
          injection h1 with _ _ h1 _
          injection h1 with h1
          simpa using h1
      subst hc
      have e1 := (N' (c0, oc) (.tail _ (.tail _ (.head _)))).1
      have e2 := (N' (c0, oc0) (.tail _ (.tail _ (.tail _ (.tail _ (.head _)))))).1
      have e3 : oc = oc0 := by
        dsimp only at e1 e2
        rw [e1] at e2
        exact Option.some.inj e2
      subst e3
      refine ret c0 oc l vs n h' tk' F' (fun q hq => N' q ?_) I ⟨_, _, d1, d2⟩ hc16 hcR (fun q hq => Nat.lt_of_le_of_lt (hy2 q (.tail _ hq)) o1) o4 (Nat.lt_trans hy3 o1) (.inr rfl)
      rcases List.mem_cons.mp hq with rfl | hq
      · exact .head _
      · rcases List.mem_cons.mp hq with rfl | hq
        · exact .tail _ (.head _)
        · rcases List.mem_cons.mp hq with rfl | hq
          · exact .tail _ (.tail _ (.head _))
          · exact .tail _ (.tail _ (.tail _ (.tail _ (.tail _ hq))))

/-- the table stands: nothing old changes -/
theorem things_hit (hlo : 0 ≤ lot) (hhi : lot < 8) (B : Below A₀ base outer h₀) (F : Fr h₀ L s.heap m) (X : (hd.heap_39 w.params).In h₀) (N : News h₀ L s.heap nw) (Tp : Top p loose mean mg mb h₀) (hck : cs.kind = .function)
    (C : CodeHd base 20 16) {c0 : Addr} {oc0 : Obj} (h1 : (16, tab16 c0) ∈ nw) (h2 : (c0, oc0) ∈ nw) (hcd : CodeO QInner oc0) (hc16 : @Ne Nat c0 16) (hbig : ∃ q ∈ nw, @LT.lt Nat _ 16 q.1 ∧ @Ne Nat q.1 c0)
    (hdp : dp + 20 < recursionLimit) (hun : un + 100 < cLine)
    (ret : ∀ l vs n h' tk', Fr h₀ L h' m → News h₀ L h' ((l, W.listOf (List.toArray vs) n) :: nw) → IntsAre vs (bits lot) → (∀ q ∈ nw, q.1 < l) → Q (.ref l) { s with heap := h', toks := tk' }) :
    wpAny (model PR w) (ktrTop dp un gd cn cs L a ccd cl outer) (call (.ref 53) [.int lot tok]) Q E s := by
  have hR : ∀ q ∈ nw.filter (fun q => decide (¬ (@Eq Nat q.1 16 ∨ @Eq Nat q.1 c0))), q ∈ nw ∧ @Ne Nat q.1 16 ∧ @Ne Nat q.1 c0 := fun q hq => by
    obtain ⟨a1, a2⟩ := List.mem_filter.mp hq
    have a3 := of_decide_eq_true a2
    exact ⟨a1, fun e => a3 (.inl e), fun e => a3 (.inr e)⟩
  have only : ∀ q ∈ nw, q = (16, tab16 c0) ∨ q = (c0, oc0) ∨ q ∈ nw.filter (fun q => decide (¬ (@Eq Nat q.1 16 ∨ @Eq Nat q.1 c0))) := fun q hq => by
    by_cases e1 : @Eq Nat q.1 16
    · have z1 := (N _ h1).1
      have z2 := (N _ hq).1
      rw [show q.1 = (16 : Nat) from e1, z1] at z2
      exact .inl (Prod.ext e1 (Option.some.inj z2).symm)
    · by_cases e2 : @Eq Nat q.1 c0
      · have z1 := (N _ h2).1
        have z2 := (N _ hq).1
        rw [show q.1 = c0 from e2, z1] at z2
        exact .inr (.inl (Prod.ext e2 (Option.some.inj z2).symm))
      · exact .inr (.inr (List.mem_filter.mpr ⟨hq, decide_eq_true (fun h => h.elim e1 e2)⟩))
  refine things_k (T := [(16, tab16 c0), (c0, oc0)]) (R := nw.filter (fun q => decide (¬ (@Eq Nat q.1 16 ∨ @Eq Nat q.1 c0)))) hlo hhi B F X N Tp hck C (.inr ⟨c0, oc0, rfl, hcd, hc16, fun q hq => (hR q hq).2.2⟩) (fun q hq => ?_) (fun q hq => (hR q hq).1) ?_ (fun q hq => (hR q hq).2.1) hdp hun ?_
  · rcases List.mem_cons.mp hq with rfl | hq
    · exact h1
    · rw [List.mem_singleton.mp hq]; exact h2
  · obtain ⟨q, a1, a2, a3⟩ := hbig
    exact ⟨q, List.mem_filter.mpr ⟨a1, decide_eq_true (fun h => h.elim (fun e => absurd a2 (by rw [e]; exact Nat.lt_irrefl _)) a3)⟩, a2⟩
  · intro c' oc l vs n h' tk' F' N' I hcd' hc' hcR hl hcl h16l same
    have e : c0 = c' ∧ oc0 = oc := by
      rcases same with h | h
      · cases h
      · injection h with h3 h4
        injection h4 with h4 _
        injection h4 with h4 h5
        exact ⟨h4, h5⟩
    obtain ⟨rfl, rfl⟩ := e
    refine ret l vs n h' tk' F' (fun q hq => ?_) I (fun q hq => ?_)
    · rcases List.mem_cons.mp hq with rfl | hq
      · exact N' _ (.head _)
      · rcases only q hq with rfl | rfl | hq
        · exact N' _ (.tail _ (.head _))
        · exact N' _ (.tail _ (.tail _ (.head _)))
        · exact N' _ (.tail _ (.tail _ (.tail _ hq)))
    · rcases only q hq with rfl | rfl | hq
      · exact h16l
      · exact hcl
      · exact hl q hq
end
end
section
theorem fresh_6 : True := by
  w_top off
  trivial

/-! comprehensions whose own variable is a cell -/
section
variable {prog : Program} {w : World} {A : Around} {E : Value → Shared → Prop} {s : Shared} {h₀ : Heap} {L : Addr} {m : PySem.Str → Option Value} {env : Env}

theorem newEnv_comp {M : Model} {scope : Scope} {globals : Addr} {cl : List (PySem.Str × Addr)} {qual : PySem.Str} {Q : Env → Shared → Prop}
    (h : Q { scope := scope, locals := s.heap.objs.size, globals := globals, cells := cellsFrom (s.heap.objs.size + 1) scope.names cl, qual := qual, func := none, code := env.code, frame := env.frame, builtins := env.builtins }
      { s with heap := pushCells (s.heap.push { cls := .type "dict", data := .dict #[] }) scope.names }) :
    wpAny M A (newFunctionEnv scope globals cl [] qual none .none (some env)) Q E s := by
  simp only [newFunctionEnv, Option.isSome_some, if_true]
  refine wpAny_bind (wpAny_alloc ?_)
  refine wpAny_bind (wpAny_layCells _ (fun name kind cells => by cases kind == NameKind.cell <;> simp) _ _ _ _ ?_)
  rw [show ({ s with heap := s.heap.push { cls := .type "dict", data := .dict #[] } } : Shared).heap.objs.size = s.heap.objs.size + 1 from Heap.size_push ..]
  exact wpAny_bind (by rw [List.forIn_nil]; exact wpAny_pure (wpAny_pure h))

/-- the ledger stands apart from the four objects of a comprehension -/
def Off4 (X I C D : Addr) : List (Addr × Obj) → Prop
  | [] => True
  | p :: r => ((@Ne Nat p.1 X) ∧ (@Ne Nat p.1 I) ∧ (@Ne Nat p.1 C) ∧ (@Ne Nat p.1 D)) ∧ Off4 X I C D r
theorem Off4.mem {X I C D : Addr} : ∀ {l : List (Addr × Obj)}, Off4 X I C D l → ∀ p ∈ l, p.1 ≠ X ∧ p.1 ≠ I ∧ p.1 ≠ C ∧ p.1 ≠ D
  | [], _, _, h => nomatch h
  | _ :: _, x, p, h => by
    rcases List.mem_cons.mp h with rfl | h
    · exact x.1
    · exact Off4.mem x.2 p h
theorem Off4.of {X I C D : Addr} : ∀ {l : List (Addr × Obj)}, (∀ p ∈ l, p.1 ≠ X ∧ p.1 ≠ I ∧ p.1 ≠ C ∧ p.1 ≠ D) → Off4 X I C D l
  | [], _ => trivial
  | _ :: _, h => ⟨h _ List.mem_cons_self, Off4.of fun p hp => h p (List.mem_cons_of_mem _ hp)⟩
theorem off1_of {D : Addr} : ∀ {l : List (Addr × Obj)}, (∀ p ∈ l, p.1 ≠ D) → LCg.Off1 D l
  | [], _ => trivial
  | _ :: _, h => ⟨h _ List.mem_cons_self, off1_of fun p hp => h p (List.mem_cons_of_mem _ hp)⟩

/-- a turn's end: the four objects stand, the ledger is another one of the family -/
def CEnd (h₀ : Heap) (L : Addr) (m : PySem.Str → Option Value) (s₁ : Shared) (X : Addr) (oX : Obj) (I : Addr) (oI : Obj) (C : Addr) (oC : Obj) (D : Addr) (oD : Obj) (S : List (Addr × Obj) → Prop) (rest : List (Addr × Obj) → Prop) (s₂ : Shared) : Prop :=
  ∃ h' tk nw, s₂ = { s₁ with heap := h', toks := tk } ∧ Fr h₀ L h' m ∧ News h₀ L h' ((X, oX) :: (I, oI) :: (C, oC) :: (D, oD) :: nw) ∧ Off4 X I C D nw ∧ S nw ∧ rest nw

theorem block_C {elt iter : Expr} {ifs : List Expr} {x : PySem.Str} {px : Pos} {scope : Scope} {cl : List (PySem.Str × Addr)} {pos : Pos} {s₂ : Shared} {I : Addr} {fp : List Addr} {n : Nat} {P : Nat → Value → Prop} {St : Nat → Heap → Prop} {S : List (Addr × Obj) → Prop} {news : List (Addr × Obj)}
    (J : Nat → List Value → List (Addr × Obj) → Prop) {RR : Value → Addr → Result → Shared → Prop}
    (W : Walks prog w A I fp [I] n P St) (hsz : n ≤ sizeLine) (hIo : ∀ i h, St i h → ∃ o, h.get? I = some o)
    (hSt : ∀ i h h' o nw, St i h → h.get? I = some o → h'.get? I = some o → (∀ b o, h₀.get? b = some o → h'.get? b = some o) → News h₀ L h' nw → S nw → St i h')
    (hcells : ∀ C, cellsFrom C scope.names cl = (x, C) :: cl) (hpush : ∀ h : Heap, pushCells h scope.names = h.push { cls := .type "cell", data := .cell none })
    (hkind : scope.kind = .function) (hx : (relabel scope env).names.lookup x = some .cell) (hst : St 0 s₂.heap) (hfp : ∀ b ∈ fp, b < s₂.heap.objs.size)
    (F : Fr h₀ L s₂.heap m) (N : News h₀ L s₂.heap news) (hIL : L ≠ I) (hI₀ : h₀.get? I = none) (off : ∀ p ∈ news, p.1 ≠ I) (hS : S news) (hJ : J 0 [] news)
    (turn : ∀ i v X oX oI C oC D m₂ ys nw h tk (E' : Value → Shared → Prop), i < n → P i v → J i ys nw → S nw → LCg.NsObj oC m₂ → oX.data = .cell (some v) → Fr h₀ L h m → News h₀ L h ((X, oX) :: (I, oI) :: (C, oC) :: (D, LCg.lst ys) :: nw) → Off4 X I C D nw →
      ((@Ne Nat X I) ∧ (@Ne Nat X C) ∧ (@Ne Nat X D) ∧ (@Ne Nat I C) ∧ (@Ne Nat I D) ∧ (@Ne Nat C D)) →
      wpAny (model prog w) A (forIn ifs true fun c r => if r = true then do let ok ← isTrue c (compEnvC scope ((x, X) :: cl) C env) (eval c (compEnvC scope ((x, X) :: cl) C env)); pure (ForInStep.yield ok) else pure (ForInStep.yield r)) (fun ok s' =>
        if ok = true then wpAny (model prog w) A (eval elt (compEnvC scope ((x, X) :: cl) C env)) (fun y s'' => CEnd h₀ L m { s₂ with heap := h, toks := tk } X oX I oI C oC D (LCg.lst ys) S (J (i + 1) (ys ++ [y])) s'') E' s'
        else CEnd h₀ L m { s₂ with heap := h, toks := tk } X oX I oI C oC D (LCg.lst ys) S (J (i + 1) ys) s') E' { s₂ with heap := h, toks := tk })
    (hRR : ∀ D C h tk m' ys nw, Fr h₀ L h m → News h₀ L h ((D, LCg.lst ys) :: nw) → LCg.Off1 D nw → h.Ns C m' → h₀.get? C = none → h₀.get? D = none → C ≠ L → D ≠ L → C ≠ D → (∀ p ∈ nw, p.1 ≠ C) → s₂.heap.objs.size ≤ D → J n ys nw → RR (.ref D) C (.ok .next) { s₂ with heap := h, toks := tk }) :
    wpAny (model prog w) A (newList []) (fun acc s₃ => wpAny (model prog w) A (newFunctionEnv scope env.globals cl [] env.qual none .none (some env)) (fun cenv s₄ =>
      codeAny (model prog w) A (.compStart (.ListComp elt [⟨.Name x px, iter, ifs, 0⟩] scope pos) 0 (.ref I) acc { cenv with scope := relabel scope env }) (RR acc cenv.locals) s₄) E s₃) E s₂ := by
  refine wpAny_newObj_type (newEnv_comp ?_)
  dsimp only
  rw [hcells, hpush]
  generalize hH2 : s₂.heap.push { cls := .type "list", dict := none, data := .seq ([] : List Value).toArray } = H2
  generalize hH3 : H2.push { cls := .type "dict", data := .dict #[] } = H3
  generalize hh1 : H3.push { cls := .type "cell", data := .cell none } = h₁
  have hC : H2.objs.size = s₂.heap.objs.size + 1 := by rw [← hH2, Heap.size_push]
  have hX : H3.objs.size = s₂.heap.objs.size + 2 := by rw [← hH3, Heap.size_push, hC]
  have eX : H2.objs.size + 1 = H3.objs.size := by rw [hX, hC]
  rw [eX]
  have old : ∀ b o, s₂.heap.get? b = some o → h₁.get? b = some o := fun b o e => hh1 ▸ Heap.get?_push_of_some _ (hH3 ▸ Heap.get?_push_of_some _ (hH2 ▸ Heap.get?_push_of_some _ e))
  have hacc : h₁.get? s₂.heap.objs.size = some (LCg.lst []) := hh1 ▸ Heap.get?_push_of_some _ (hH3 ▸ Heap.get?_push_of_some _ (hH2 ▸ Heap.get?_push_size _ rfl))
  have hns₁ : h₁.Ns H2.objs.size (fun _ => none) := hh1 ▸ (hH3 ▸ Heap.Ns.new H2 (.type "dict")).push _
  have hcx : h₁.IsCell H3.objs.size none := ⟨_, hh1 ▸ Heap.get?_push_size _ rfl, rfl⟩
  have below : ∀ b, b < s₂.heap.objs.size → b ≠ H3.objs.size ∧ b ≠ H2.objs.size ∧ b ≠ s₂.heap.objs.size := fun b hb => ⟨by rw [hX]; omega, by rw [hC]; omega, Nat.ne_of_lt hb⟩
  have hDC : s₂.heap.objs.size ≠ H2.objs.size := by rw [hC]; omega
  have hXC : H3.objs.size ≠ H2.objs.size := by rw [hC, hX]; omega
  have hXD : H3.objs.size ≠ s₂.heap.objs.size := by rw [hX]; omega
  have hfpd : ∀ b ∈ fp, b ≠ H3.objs.size ∧ b ≠ H2.objs.size ∧ b ≠ s₂.heap.objs.size := fun b hb => below b (hfp b hb)
  have hIf : I ∈ fp := W.sub I (List.mem_singleton.mpr rfl)
  have hst₁ : St 0 h₁ := W.frame _ _ _ hst fun b _ o e => old b o e
  have fresh₀ : ∀ a, s₂.heap.objs.size ≤ a → h₀.get? a = none := fun a ha => by
    cases e : h₀.get? a with
    | none => rfl
    | some o' => exact absurd (Heap.lt_size (F.keep a o' e)) (Nat.not_lt.mpr ha)
  have hD₀ : h₀.get? s₂.heap.objs.size = none := fresh₀ _ (Nat.le_refl _)
  have hC₀ : h₀.get? H2.objs.size = none := fresh₀ _ (by rw [hC]; omega)
  have hX₀ : h₀.get? H3.objs.size = none := fresh₀ _ (by rw [hX]; omega)
  have hLb := below L F.ns.lt
  have hDL : s₂.heap.objs.size ≠ L := Ne.symm hLb.2.2
  have hCL : H2.objs.size ≠ L := Ne.symm hLb.2.1
  have hXL : H3.objs.size ≠ L := Ne.symm hLb.1
  have hXI : H3.objs.size ≠ I := Ne.symm (hfpd I hIf).1
  have hCI : I ≠ H2.objs.size := (hfpd I hIf).2.1
  have hDI : I ≠ s₂.heap.objs.size := (hfpd I hIf).2.2
  have off₀ : Off4 H3.objs.size I H2.objs.size s₂.heap.objs.size news := Off4.of fun p hp =>
    have b := below _ (Heap.lt_size (N p hp).1); ⟨b.1, off p hp, b.2.1, b.2.2⟩
  have loop : ∀ s₃ : Shared, s₃ = { s₂ with heap := h₁ } →
      codeAny (model prog w) A (.compLoop (.ListComp elt [⟨.Name x px, iter, ifs, 0⟩] scope pos) 0 (.ref I) (.ref s₂.heap.objs.size) (compEnvC scope ((x, H3.objs.size) :: cl) H2.objs.size env))
        (RR (.ref s₂.heap.objs.size) H2.objs.size) s₃ := by
    rintro s₃ rfl
    refine codeAny_compLoop_tests
      (fun k s' => ∃ h' tk i ys m' cv nw, s' = { s₂ with heap := h', toks := tk } ∧ i ≤ n ∧ k = n + 1 - i ∧ ys.length ≤ i ∧ St i h' ∧ Fr h₀ L h' m ∧ h'.Ns H2.objs.size m' ∧ h'.IsCell H3.objs.size cv ∧ News h₀ L h' ((s₂.heap.objs.size, LCg.lst ys) :: nw) ∧
        Off4 H3.objs.size I H2.objs.size s₂.heap.objs.size nw ∧ S nw ∧ J i ys nw) ?_ (n + 1)
      ⟨h₁, _, 0, [], _, none, news, rfl, Nat.zero_le _, rfl, Nat.le_refl _, hst₁, F.keeps old, hns₁, hcx, fun p hp => ?_, off₀, hS, hJ⟩
    · rintro k s' ⟨h', tk, i, ys, m', cv, nw, rfl, hi, rfl, hyl, hst', F', hn', hc', N', off', hS', J'⟩
      have off4 := off'.mem
      by_cases hlt : i < n
      · refine W.item i _ _ _ hlt hst' fun v h₂ tk₂ hPv hst₂ hk₂ => ?_
        have hc₂ : h₂.IsCell H3.objs.size cv := by obtain ⟨o, e, r⟩ := hc'; exact ⟨o, hk₂ _ _ (by simpa using hXI) e, r⟩
        refine wpAny_assign_Name (wpAny_storeName_cell (c := H3.objs.size) (by simp [compEnvC, relabel, hkind]) hx (by simp [compEnvC]) hc₂ fun h₃ hc₃ hs₃ => ?_)
        have hst₃ : St (i + 1) h₃ := W.frame _ _ _ hst₂ fun b hb o e => hs₃.extBut b o (fun q => (hfpd b hb).1 q) e
        obtain ⟨oI, heI⟩ := hIo _ _ hst₃
        have hn₃ : h₃.Ns H2.objs.size m' := (hn'.at' fun o e => hk₂ _ o (by simpa using Ne.symm hCI) e).sameBut hs₃ (Ne.symm hXC)
        obtain ⟨oC, heC, hoC⟩ := LCg.ns_obj hn₃
        obtain ⟨oX, heX, hoX⟩ := hc₃
        have F₃ : Fr h₀ L h₃ m := (LCg.fr_but F' hk₂ hIL hI₀).change hs₃ hXL hX₀
        have N₂ : News h₀ L h₂ ((s₂.heap.objs.size, LCg.lst ys) :: nw) := LCg.news_but N' hk₂ fun p hp => by
          rcases List.mem_cons.mp hp with rfl | hp
          · exact Ne.symm hDI
          · exact (off4 p hp).2.1
        have N₃ : News h₀ L h₃ ((H3.objs.size, oX) :: (I, oI) :: (H2.objs.size, oC) :: (s₂.heap.objs.size, LCg.lst ys) :: nw) := fun p hp => by
          rcases List.mem_cons.mp hp with rfl | hp
          · exact ⟨heX, hXL, hX₀⟩
          · rcases List.mem_cons.mp hp with rfl | hp
            · exact ⟨heI, Ne.symm hIL, hI₀⟩
            · rcases List.mem_cons.mp hp with rfl | hp
              · exact ⟨heC, hCL, hC₀⟩
              · have z := N₂ p hp
                refine ⟨hs₃.extBut _ _ ?_ z.1, z.2⟩
                rcases List.mem_cons.mp hp with rfl | hp
                · exact Ne.symm hXD
                · exact (off4 p hp).1
        have fin : ∀ (ys' : List Value) (s₅ : Shared), CEnd h₀ L m { s₂ with heap := h₃, toks := tk₂ } H3.objs.size oX I oI H2.objs.size oC s₂.heap.objs.size (LCg.lst ys) S (J (i + 1) ys') s₅ →
            ∃ h₄ tk₄ nw₄, s₅ = { s₂ with heap := h₄, toks := tk₄ } ∧ Fr h₀ L h₄ m ∧ h₄.get? s₂.heap.objs.size = some (LCg.lst ys) ∧ News h₀ L h₄ nw₄ ∧ Off4 H3.objs.size I H2.objs.size s₂.heap.objs.size nw₄ ∧ S nw₄ ∧ J (i + 1) ys' nw₄ ∧ St (i + 1) h₄ ∧ h₄.Ns H2.objs.size m' ∧ h₄.IsCell H3.objs.size (some v) := by
          rintro ys' s₅ ⟨h₄, tk₄, nw₄, rfl, F₄, N₄, off₄, hS₄, J₄⟩
          have zX := (N₄ (H3.objs.size, oX) List.mem_cons_self).1
          have zI := (N₄ (I, oI) (List.mem_cons_of_mem _ List.mem_cons_self)).1
          have zC := (N₄ (H2.objs.size, oC) (List.mem_cons_of_mem _ (List.mem_cons_of_mem _ List.mem_cons_self))).1
          have zD := (N₄ (s₂.heap.objs.size, LCg.lst ys) (List.mem_cons_of_mem _ (List.mem_cons_of_mem _ (List.mem_cons_of_mem _ List.mem_cons_self)))).1
          have N₄' : News h₀ L h₄ nw₄ := fun p hp => N₄ p (List.mem_cons_of_mem _ (List.mem_cons_of_mem _ (List.mem_cons_of_mem _ (List.mem_cons_of_mem _ hp))))
          exact ⟨h₄, tk₄, nw₄, rfl, F₄, zD, N₄', off₄, hS₄, J₄, hSt _ _ _ _ _ hst₃ heI zI F₄.keep N₄' hS₄, hoC.ns zC, ⟨_, zX, hoX⟩⟩
        refine wpAny_mono (turn i v _ oX oI _ oC _ m' ys nw h₃ tk₂ _ hlt hPv J' hS' hoC hoX F₃ N₃ off' ⟨hXI, hXC, hXD, hCI, hDI, Ne.symm hDC⟩) (fun ok s₄ h₄ => ?_) fun _ _ e => e
        cases ok with
        | true =>
          simp only [if_true] at h₄ ⊢
          refine wpAny_mono h₄ (fun y s₅ h₅ => ?_) fun _ _ e => e
          obtain ⟨h₅, tk₅, nw₅, rfl, F₅, zD, N₅, off₅, hS₅, J₅, hst₅, hns₅, hcl₅⟩ := fin _ _ h₅
          refine append_at (hsz := by show ys.toArray.size ≤ sizeLine; rw [List.size_toArray]; exact Nat.le_trans (Nat.le_trans hyl hi) hsz) zD fun h₆ hs₆ hD₆ => ?_
          have off6 := off₅.mem
          refine ⟨n + 1 - (i + 1), by omega, h₆, tk₅, i + 1, ys ++ [y], _, some v, nw₅, rfl, hlt, rfl, by rw [List.length_append, List.length_singleton]; exact Nat.succ_le_succ hyl, W.frame _ _ _ hst₅ fun b hb o e => hs₆.extBut b o (fun q => (hfpd b hb).2.2 q) e, F₅.change hs₆ hDL hD₀,
            hns₅.sameBut hs₆ (Ne.symm hDC), hcl₅.sameBut hs₆ hXD, fun p hp => ?_, off₅, hS₅, J₅⟩
          rcases List.mem_cons.mp hp with rfl | hp
          · exact ⟨hD₆.trans (congrArg some (LCg.lst_snoc ys y)), hDL, hD₀⟩
          · exact ⟨hs₆.extBut _ _ (off6 p hp).2.2.2 (N₅ p hp).1, (N₅ p hp).2⟩
        | false =>
          simp only [Bool.false_eq_true, if_false] at h₄ ⊢
          obtain ⟨h₅, tk₅, nw₅, rfl, F₅, zD, N₅, off₅, hS₅, J₅, hst₅, hns₅, hcl₅⟩ := fin _ _ h₄
          refine ⟨n + 1 - (i + 1), by omega, h₅, tk₅, i + 1, ys, _, some v, nw₅, rfl, hlt, rfl, Nat.le_succ_of_le hyl, hst₅, F₅, hns₅, hcl₅, fun p hp => ?_, off₅, hS₅, J₅⟩
          rcases List.mem_cons.mp hp with rfl | hp
          · exact ⟨zD, hDL, hD₀⟩
          · exact N₅ p hp
      · obtain rfl : i = n := Nat.le_antisymm hi (Nat.not_lt.mp hlt)
        refine W.done _ _ _ hst' fun h₂ tk₂ hk₂ => ?_
        exact hRR _ _ h₂ tk₂ _ ys nw (LCg.fr_but F' hk₂ hIL hI₀) (LCg.news_but N' hk₂ fun p hp => by
          rcases List.mem_cons.mp hp with rfl | hp
          · exact Ne.symm hDI
          · exact (off4 p hp).2.1) (off1_of fun p hp => (off4 p hp).2.2.2) (hn'.at' fun o e => hk₂ _ o (by simpa using Ne.symm hCI) e) hC₀ hD₀ hCL hDL (Ne.symm hDC) (fun p hp => (off4 p hp).2.2.1) (Nat.le_refl _) J'
    · rcases List.mem_cons.mp hp with rfl | hp
      · exact ⟨hacc, hDL, hD₀⟩
      · exact ⟨old _ _ (N p hp).1, (N p hp).2⟩
  exact codeAny_compStart_list (loop _ rfl) (W.self 0 _ _ _ hst₁ (loop _ rfl))
end

section
variable {prog : Program} {w : World} {A : Around} {E : Value → Shared → Prop} {s : Shared} {h₀ : Heap} {L : Addr} {m : PySem.Str → Option Value} {env : Env}

/-- one turn of a comprehension whose variable is a cell -/
def TurnC (prog : Program) (w : World) (A : Around) (h₀ : Heap) (L : Addr) (m : PySem.Str → Option Value) (env : Env) (ifs : List Expr) (elt : Expr) (x : PySem.Str) (scope : Scope) (cl : List (PySem.Str × Addr)) (s : Shared) (S : List (Addr × Obj) → Prop) (its : Array Value) (J : Nat → List Value → List (Addr × Obj) → Prop) : Prop :=
  ∀ i v X oX oI I C oC D m₂ ys nw h tk (E' : Value → Shared → Prop), i < its.size → its[i]? = some v → J i ys nw → S nw → LCg.NsObj oC m₂ → oX.data = .cell (some v) → Fr h₀ L h m → News h₀ L h ((X, oX) :: (I, oI) :: (C, oC) :: (D, LCg.lst ys) :: nw) → Off4 X I C D nw →
    ((@Ne Nat X I) ∧ (@Ne Nat X C) ∧ (@Ne Nat X D) ∧ (@Ne Nat I C) ∧ (@Ne Nat I D) ∧ (@Ne Nat C D)) →
    wpAny (model prog w) A (forIn ifs true fun c r => if r = true then do let ok ← isTrue c (compEnvC scope ((x, X) :: cl) C env) (eval c (compEnvC scope ((x, X) :: cl) C env)); pure (ForInStep.yield ok) else pure (ForInStep.yield r)) (fun ok s' =>
      if ok = true then wpAny (model prog w) A (eval elt (compEnvC scope ((x, X) :: cl) C env)) (fun y s'' => CEnd h₀ L m { s with heap := h, toks := tk } X oX I oI C oC D (LCg.lst ys) S (J (i + 1) (ys ++ [y])) s'') E' s'
      else CEnd h₀ L m { s with heap := h, toks := tk } X oX I oI C oC D (LCg.lst ys) S (J (i + 1) ys) s') E' { s with heap := h, toks := tk }

theorem ListComp_C {elt iter : Expr} {ifs : List Expr} {x : PySem.Str} {px : Pos} {scope : Scope} {cl : List (PySem.Str × Addr)} {pos : Pos} {ax : Addr} {its : Array Value} {news : List (Addr × Obj)} {Q : Value → Shared → Prop} (J : Nat → List Value → List (Addr × Obj) → Prop)
    (hh : A.handled = none) (F : Fr h₀ L s.heap m) (N : News h₀ L s.heap news) (S : LCg.SrcAt h₀ ax its news) (hsz : its.size ≤ sizeLine)
    (hit : ∀ (Q' : Value → Shared → Prop) (E' : Value → Shared → Prop), Q' (.ref ax) s → wpAny (model prog w) A (eval iter env) Q' E' s)
    (hclos : closureFor scope env = pure cl) (hcells : ∀ C, cellsFrom C scope.names cl = (x, C) :: cl) (hpush : ∀ h : Heap, pushCells h scope.names = h.push { cls := .type "cell", data := .cell none })
    (hkind : scope.kind = .function) (hnames : ∀ y ∈ scope.names, y.2 = .local → scope.names.lookup y.1 = some .local) (hx : (relabel scope env).names.lookup x = some .cell) (hJ : J 0 [] news)
    (turn : TurnC prog w A h₀ L m env ifs elt x scope cl s (LCg.SrcAt h₀ ax its) its J)
    (fin : ∀ D ys nw h tk, J its.size ys nw → Fr h₀ L h m → News h₀ L h ((D, LCg.lst ys) :: nw) → LCg.Off1 D nw → s.heap.objs.size ≤ D → Q (.ref D) { s with heap := h, toks := tk })
    (hs : ∀ x, foldedSetIterable iter env x = pure x := by intro _; rfl) :
    wpAny (model prog w) A (eval (.ListComp elt [⟨.Name x px, iter, ifs, 0⟩] scope pos) env) Q E s := by
  rw [eval_ListComp]
  refine wpAny_comprehension_free (use := none) rfl hs hclos hkind hnames (hit _ _ ?_)
  have hl := S.list F.keep N
  have hlt : ax < s.heap.objs.size := by obtain ⟨_, e, _⟩ := hl; exact Heap.lt_size e
  refine wpAny_pyIter_list hl ?_
  have up : ∀ b o, s.heap.get? b = some o → (s.heap.push { cls := .type "list_iterator", data := .fields #[.ref ax, .int 0 0] }).get? b = some o := fun b o e => Heap.get?_push_of_some _ e
  refine block_C J (Walks.list hh s.heap.objs.size ax (Nat.ne_of_lt hlt) its) hsz (fun i h st => by obtain ⟨o, e, _⟩ := st.1; exact ⟨o, e⟩) LCg.list_st hcells hpush hkind hx ⟨⟨_, Heap.get?_push_size _ rfl, rfl, rfl⟩, hl.push _⟩ (fun b hb => ?_)
    (F.keeps up) (N.grown up) (Nat.ne_of_lt F.ns.lt) (next_is_new F) (fun p hp => Nat.ne_of_lt (Heap.lt_size (N p hp).1)) S hJ (fun i v X oX oI C oC D m₂ ys nw h tk E' a b c d e f g hh' ii jj => turn i v X oX oI _ C oC D m₂ ys nw h tk E' a b c d e f g hh' ii jj) ?_
  · show b < (s.heap.push _).objs.size
    rw [Heap.size_push]
    rcases List.mem_cons.mp hb with rfl | hb
    · exact Nat.lt_succ_self _
    · rw [List.mem_singleton.mp hb]; exact Nat.lt_succ_of_lt hlt
  · intro D C h' tk m' ys nw F' N' o1 hn hC₀ hD₀ hCL hDL hCD offC hge hj
    refine ⟨m', hn, fun h'' hs'' => fin D ys nw h'' tk hj (F'.change hs'' hCL hC₀) (fun p hp => ?_) o1 (by rw [Heap.size_push] at hge; omega)⟩
    refine ⟨hs''.extBut _ _ ?_ (N' p hp).1, (N' p hp).2⟩
    rcases List.mem_cons.mp hp with rfl | hp
    · exact Ne.symm hCD
    · exact offC p hp

theorem Assign_ListComp_C {elt iter : Expr} {ifs : List Expr} {x y : PySem.Str} {px py : Pos} {scope : Scope} {cl : List (PySem.Str × Addr)} {pos spos : Pos} {ax : Addr} {its : Array Value} {news : List (Addr × Obj)} {Q : Flow → Shared → Prop} (J : Nat → List Value → List (Addr × Obj) → Prop)
    (hLe : env.locals = L)
    (hh : A.handled = none) (F : Fr h₀ L s.heap m) (N : News h₀ L s.heap news) (S : LCg.SrcAt h₀ ax its news) (hsz : its.size ≤ sizeLine)
    (hsw : swapsWith (.ListComp elt [⟨.Name x px, iter, ifs, 0⟩] scope pos) (some (.Name y py)) spos.line env = pure true)
    (hit : ∀ (Q' : Value → Shared → Prop) (E' : Value → Shared → Prop), Q' (.ref ax) s → wpAny (model prog w) A (eval iter env) Q' E' s)
    (hclos : closureFor scope env = pure cl) (hcells : ∀ C, cellsFrom C scope.names cl = (x, C) :: cl) (hpush : ∀ h : Heap, pushCells h scope.names = h.push { cls := .type "cell", data := .cell none })
    (hkind : scope.kind = .function) (hnames : ∀ y ∈ scope.names, y.2 = .local → scope.names.lookup y.1 = some .local) (hx : (relabel scope env).names.lookup x = some .cell) (hJ : J 0 [] news)
    (hy : env.kindOf y = some .local) (hp : (env.scope.kind == .class || (env.scope.kind == .module && env.locals != env.globals)) = false)
    (turn : TurnC prog w A h₀ L m env ifs elt x scope cl s (LCg.SrcAt h₀ ax its) its J)
    (fin : ∀ D ys nw h tk, J its.size ys nw → Fr h₀ L h (fun z => if z = y then some (.ref D) else m z) → News h₀ L h ((D, LCg.lst ys) :: nw) → LCg.Off1 D nw → s.heap.objs.size ≤ D → Q .next { s with heap := h, toks := tk })
    (hs : ∀ x, foldedSetIterable iter env x = pure x := by intro _; rfl) :
    wpAny (model prog w) A (exec (.Assign [.Name y py] (.ListComp elt [⟨.Name x px, iter, ifs, 0⟩] scope pos) spos) env) Q E s := by
  subst hLe
  rw [exec_Assign_Name_used _ _ _ _ hsw]
  refine wpAny_bind (wpAny_standAt (wpAny_bind ?_))
  show wpAny _ A (do let _ ← comprehension (.ListComp elt [⟨.Name x px, iter, ifs, 0⟩] scope pos) scope env _ (newList []) false (eval iter env) (some (assign (.Name y py) env))) _ _ s
  refine wpAny_bind (wpAny_mono (wpAny_comprehension_free (use := some (assign (.Name y py) env)) (Q := fun _ s' => Q .next s') rfl hs hclos hkind hnames (hit _ _ ?_)) (fun _ s' hq => wpAny_pure (wpAny_pure hq)) fun _ _ e => e)
  have hl := S.list F.keep N
  have hlt : ax < s.heap.objs.size := by obtain ⟨_, e, _⟩ := hl; exact Heap.lt_size e
  refine wpAny_pyIter_list hl ?_
  have up : ∀ b o, s.heap.get? b = some o → (s.heap.push { cls := .type "list_iterator", data := .fields #[.ref ax, .int 0 0] }).get? b = some o := fun b o e => Heap.get?_push_of_some _ e
  refine block_C J (Walks.list hh s.heap.objs.size ax (Nat.ne_of_lt hlt) its) hsz (fun i h st => by obtain ⟨o, e, _⟩ := st.1; exact ⟨o, e⟩) LCg.list_st hcells hpush hkind hx ⟨⟨_, Heap.get?_push_size _ rfl, rfl, rfl⟩, hl.push _⟩ (fun b hb => ?_)
    (F.keeps up) (N.grown up) (Nat.ne_of_lt F.ns.lt) (next_is_new F) (fun p hp => Nat.ne_of_lt (Heap.lt_size (N p hp).1)) S hJ (fun i v X oX oI C oC D m₂ ys nw h tk E' a b c d e f g hh' ii jj => turn i v X oX oI _ C oC D m₂ ys nw h tk E' a b c d e f g hh' ii jj) ?_
  · show b < (s.heap.push _).objs.size
    rw [Heap.size_push]
    rcases List.mem_cons.mp hb with rfl | hb
    · exact Nat.lt_succ_self _
    · rw [List.mem_singleton.mp hb]; exact Nat.lt_succ_of_lt hlt
  · intro D C h' tk m' ys nw F' N' o1 hn hC₀ hD₀ hCL hDL hCD offC hge hj
    show wpAny _ A (assign (.Name y py) env (.ref D)) _ _ _
    refine wpAny_assign_Name (wpAny_storeName_local hy F'.ns (fun h₂ hn₂ hs₂ => ?_) hp)
    have hL₀ : h₀.get? env.locals = none := Heap.get?_none_of_le F'.above
    have F₂ : Fr h₀ env.locals h₂ (fun z => if z = y then some (.ref D) else m z) := ⟨hn₂, fun b o e => hs₂.extBut b o (fun q => by rw [q, hL₀] at e; cases e) (F'.keep b o e), F'.above⟩
    refine ⟨m', hn.sameBut hs₂ hCL, fun h'' hs'' => fin D ys nw h'' _ hj (F₂.change hs'' hCL hC₀) (fun p hp => ?_) o1 (by rw [Heap.size_push] at hge; omega)⟩
    have z : h₂.get? p.1 = some p.2 := hs₂.extBut _ _ (N' p hp).2.1 (N' p hp).1
    refine ⟨hs''.extBut _ _ ?_ z, (N' p hp).2⟩
    rcases List.mem_cons.mp hp with rfl | hp
    · exact Ne.symm hCD
    · exact offC p hp
end
end
section
theorem fresh_7 : True := by
  w_top off
  trivial

/-! for loops: any target, any family of ledgers -/
section
variable {w : World} {A : Around} {E : Value → Shared → Prop} {s : Shared} {h₀ : Heap} {L : Addr} {m : PySem.Str → Option Value} {env : Env} {prog : Program}

def FEnd (h₀ : Heap) (L : Addr) (s₁ : Shared) (I : Addr) (oI : Obj) (S : List (Addr × Obj) → Prop) (rest : (PySem.Str → Option Value) → List (Addr × Obj) → Prop) (s₂ : Shared) : Prop :=
  ∃ h' tk m' nw, s₂ = { s₁ with heap := h', toks := tk } ∧ Fr h₀ L h' m' ∧ News h₀ L h' ((I, oI) :: nw) ∧ LCg.Off1 I nw ∧ S nw ∧ rest m' nw
def FPost (h₀ : Heap) (L : Addr) (s₁ : Shared) (I : Addr) (oI : Obj) (S : List (Addr × Obj) → Prop) (rest : (PySem.Str → Option Value) → List (Addr × Obj) → Prop) (R : Result → Shared → Prop) (f : Flow) (s₂ : Shared) : Prop :=
  match f with
  | .ret v => R (.ok (.ret v)) s₂
  | .brk => R (.ok .next) s₂
  | _ => FEnd h₀ L s₁ I oI S rest s₂
theorem off1_mem {D : Addr} : ∀ {l : List (Addr × Obj)}, LCg.Off1 D l → ∀ p ∈ l, p.1 ≠ D
  | [], _, _, h => nomatch h
  | _ :: _, x, p, h => by
    rcases List.mem_cons.mp h with rfl | h
    · exact x.1
    · exact off1_mem x.2 p h

def TurnF (prog : Program) (w : World) (A : Around) (h₀ : Heap) (L : Addr) (env : Env) (target : Expr) (body : List Stmt) (s : Shared) (S : List (Addr × Obj) → Prop) (n : Nat) (P : Nat → Value → Prop) (J : Nat → (PySem.Str → Option Value) → List (Addr × Obj) → Prop) (R : Result → Shared → Prop) : Prop :=
  ∀ i v m₁ nw I oI h tk (E' : Value → Shared → Prop), i < n → P i v → J i m₁ nw → S nw → Fr h₀ L h m₁ → News h₀ L h ((I, oI) :: nw) → LCg.Off1 I nw →
    wpAny (model prog w) A (assign target env v) (fun _ s₂ => wpAny (model prog w) A (execs body env) (FPost h₀ L { s with heap := h, toks := tk } I oI S (J (i + 1)) R) E' s₂) E' { s with heap := h, toks := tk }

theorem for_led {target : Expr} {body : List Stmt} {I : Addr} {fp : List Addr} {n : Nat} {P : Nat → Value → Prop} {St : Nat → Heap → Prop} {S : List (Addr × Obj) → Prop} {news : List (Addr × Obj)} {R : Result → Shared → Prop}
    (J : Nat → (PySem.Str → Option Value) → List (Addr × Obj) → Prop)
    (W : Walks prog w A I fp [I] n P St) (hIo : ∀ i h, St i h → ∃ o, h.get? I = some o)
    (hSt : ∀ i h h' o nw, St i h → h.get? I = some o → h'.get? I = some o → (∀ b o, h₀.get? b = some o → h'.get? b = some o) → News h₀ L h' nw → S nw → St i h')
    (hst : St 0 s.heap) (F : Fr h₀ L s.heap m) (N : News h₀ L s.heap news) (hIL : L ≠ I) (hI₀ : h₀.get? I = none) (off : LCg.Off1 I news) (hS : S news) (hJ : J 0 m news)
    (hgo : ∀ v, letOwnedTupleGo target (.ref I) v = pure ())
    (turn : TurnF prog w A h₀ L env target body s S n P J R)
    (done : ∀ h tk m₁ nw, J n m₁ nw → S nw → Fr h₀ L h m₁ → News h₀ L h nw → R (.ok .next) { s with heap := h, toks := tk }) :
    codeAny (model prog w) A (.forLoop target (.ref I) body [] env) R s := by
  refine codeAny_forLoop_any
    (fun k s' => ∃ h' tk m' nw i, s' = { s with heap := h', toks := tk } ∧ i ≤ n ∧ k = n + 1 - i ∧ St i h' ∧ Fr h₀ L h' m' ∧ News h₀ L h' nw ∧ LCg.Off1 I nw ∧ S nw ∧ J i m' nw) ?_ (n + 1)
    ⟨s.heap, s.toks, m, news, 0, rfl, Nat.zero_le _, rfl, hst, F, N, off, hS, hJ⟩
  rintro k s' ⟨h', tk, m', nw, i, rfl, hi, rfl, hst', F', N', off', hS', J'⟩
  have off1 := off1_mem off'
  by_cases hlt : i < n
  · refine W.item i _ _ _ hlt hst' fun v h₁ tk₁ hP hst₁ hk₁ => ?_
    refine wpAny_of_eq (hgo v) ?_
    obtain ⟨oI, heI⟩ := hIo _ _ hst₁
    have F₁ := LCg.fr_but F' hk₁ hIL hI₀
    have N₁ : News h₀ L h₁ ((I, oI) :: nw) := fun p hp => by
      rcases List.mem_cons.mp hp with rfl | hp
      · exact ⟨heI, Ne.symm hIL, hI₀⟩
      · exact LCg.news_but N' hk₁ off1 p hp
    refine wpAny_mono (turn i v m' nw I oI h₁ tk₁ _ hlt hP J' hS' F₁ N₁ off') (fun _ s₂ h₂ => wpAny_mono h₂ (fun f s₃ h₃ => ?_) fun _ _ e => e) fun _ _ e => e
    have fin : FEnd h₀ L { s with heap := h₁, toks := tk₁ } I oI S (J (i + 1)) s₃ → ∃ m_1, m_1 < n + 1 - i ∧ ∃ h' tk m' nw i, s₃ = { s with heap := h', toks := tk } ∧ i ≤ n ∧ m_1 = n + 1 - i ∧ St i h' ∧ Fr h₀ L h' m' ∧ News h₀ L h' nw ∧ LCg.Off1 I nw ∧ S nw ∧ J i m' nw := by
      rintro ⟨h₄, tk₄, m₄, nw₄, rfl, F₄, N₄, off₄, hS₄, J₄⟩
      have zI := (N₄ (I, oI) List.mem_cons_self).1
      have N₄' : News h₀ L h₄ nw₄ := fun p hp => N₄ p (List.mem_cons_of_mem _ hp)
      exact ⟨n + 1 - (i + 1), by omega, h₄, tk₄, m₄, nw₄, i + 1, rfl, hlt, rfl, hSt _ _ _ _ _ hst₁ heI zI F₄.keep N₄' hS₄, F₄, N₄', off₄, hS₄, J₄⟩
    cases f with
    | ret v => exact h₃
    | brk => exact h₃
    | cont => exact fin h₃
    | next => exact fin h₃
  · obtain rfl : i = n := Nat.le_antisymm hi (Nat.not_lt.mp hlt)
    refine W.done _ _ _ hst' fun h₁ tk₁ hk₁ => wpAny_execs_nil ?_
    exact done h₁ tk₁ m' nw J' hS' (LCg.fr_but F' hk₁ hIL hI₀) (LCg.news_but N' hk₁ off1)

/-- over a list of the ledger's (or of what stood before) -/
theorem for_list {x : PySem.Str} {px pos : Pos} {iter : Expr} {body : List Stmt} {ax : Addr} {its : Array Value} {news : List (Addr × Obj)} {Q : Flow → Shared → Prop} (J : Nat → (PySem.Str → Option Value) → List (Addr × Obj) → Prop)
    (hh : A.handled = none) (hLe : env.locals = L) (F : Fr h₀ L s.heap m) (N : News h₀ L s.heap news) (S : LCg.SrcAt h₀ ax its news)
    (hit : ∀ (Q' : Value → Shared → Prop) (E' : Value → Shared → Prop), Q' (.ref ax) s → wpAny (model prog w) A (eval iter env) Q' E' s) (hJ : J 0 m news)
    (turn : TurnF prog w A h₀ L env (.Name x px) body s (LCg.SrcAt h₀ ax its) its.size (fun i v => its[i]? = some v) J (fun r s' => match r with | .ok f => Q f s' | .error e => cameBackBy (model prog w) A env E e s'))
    (done : ∀ h tk m₁ nw, J its.size m₁ nw → LCg.SrcAt h₀ ax its nw → Fr h₀ L h m₁ → News h₀ L h nw → Q .next { s with heap := h, toks := tk })
    (hs : ∀ x, foldedSetIterable iter env x = pure x := by intro _; rfl) :
    wpAny (model prog w) A (exec (.For (.Name x px) iter body [] pos) env) Q E s := by
  subst hLe
  refine wpAny_For (hit _ _ ?_) hs
  have hl := S.list F.keep N
  have hlt : ax < s.heap.objs.size := by obtain ⟨_, e, _⟩ := hl; exact Heap.lt_size e
  refine wpAny_pyIter_list hl ?_
  have up : ∀ b o, s.heap.get? b = some o → (s.heap.push { cls := .type "list_iterator", data := .fields #[.ref ax, .int 0 0] }).get? b = some o := fun b o e => Heap.get?_push_of_some _ e
  exact for_led J (Walks.list hh s.heap.objs.size ax (Nat.ne_of_lt hlt) its) (fun i h st => by obtain ⟨o, e, _⟩ := st.1; exact ⟨o, e⟩) LCg.list_st ⟨⟨_, Heap.get?_push_size _ rfl, rfl, rfl⟩, hl.push _⟩
    (F.keeps up) (N.grown up) (Nat.ne_of_lt F.ns.lt) (next_is_new F) (off1_of fun p hp => Nat.ne_of_lt (Heap.lt_size (N p hp).1)) S hJ (fun _ => rfl)
    (fun i v m₁ nw I oI h tk E' a b c d e f g => turn i v m₁ nw I oI h tk E' a b c d e f g) fun h tk m₁ nw j hS F' N' => done h tk m₁ nw j hS F' N'

/-- over a range -/
theorem for_range {x : PySem.Str} {px : Pos} {body : List Stmt} {r : Addr} {a b c : Int} {t u v : Tok} {n : Nat} {news : List (Addr × Obj)} {R : Result → Shared → Prop} (J : Nat → (PySem.Str → Option Value) → List (Addr × Obj) → Prop)
    (hh : A.handled = none) (hLe : env.locals = L) (F : Fr h₀ L s.heap m) (N : News h₀ L s.heap news) (hr : IsRange s.heap r a b c t u v) (hsm : Builtin.Range.small a b c = true) (hn : Builtin.Range.rangeSize a b c = ((n : Nat) : Int)) (hJ : J 0 m news)
    (turn : TurnF prog w A h₀ L env (.Name x px) body s (fun _ => True) n (fun i v => ∃ t, v = .int (a + (i : Int) * c) t) J R)
    (done : ∀ h tk m₁ nw, J n m₁ nw → Fr h₀ L h m₁ → News h₀ L h nw → R (.ok .next) { s with heap := h, toks := tk }) :
    wpAny (model prog w) A (pyIter (.ref r)) (fun it s₂ => codeAny (model prog w) A (.forLoop (.Name x px) it body [] env) R s₂) E s := by
  subst hLe
  refine wpAny_pyIter_range hr hsm ?_
  refine for_led J (Walks.range hh s.heap.objs.size a c n) (fun i h st => ⟨_, st⟩) ?_ (by show IsRangeIter _ _ _ _ _; rw [hn]; simpa using Heap.get?_push_size _ rfl)
    (F.push _) (fun p hp => ⟨Heap.get?_push_of_some _ (N p hp).1, (N p hp).2⟩) (Nat.ne_of_lt F.ns.lt) (next_is_new F) (off1_of fun p hp => Nat.ne_of_lt (Heap.lt_size (N p hp).1)) trivial hJ (fun _ => rfl)
    (fun i v m₁ nw I oI h tk E' a b c d e f g => turn i v m₁ nw I oI h tk E' a b c d e f g) fun h tk m₁ nw j _ F' N' => done h tk m₁ nw j F' N'
  intro i h h' o nw st e1 e2 _ _ _
  unfold IsRangeIter at st ⊢
  rw [e2, ← e1]
  exact st
end
end
section
theorem fresh_8 : True := by
  w_top off
  trivial

/-! comprehensions with a local variable and one test, over ints: the turns by a rule -/
section
variable {prog : Program} {w : World} {A : Around} {h₀ : Heap} {L : Addr} {m : PySem.Str → Option Value} {env : Env} {ct elt : Expr} {x : PySem.Str} {scope : Scope} {cl : List (PySem.Str × Addr)} {s : Shared} {S : List (Addr × Obj) → Prop} {P : Nat → Value → Prop} {Fin : List Value → List (Addr × Obj) → Prop} {news : List (Addr × Obj)}

theorem ints_snoc {vs : List Value} {ns : List Int} (h : IntsAre vs ns) (k : Int) (t : Tok) : IntsAre (vs ++ [.int k t]) (ns ++ [k]) := h.append (.cons k t .nil)

theorem restT_filter {n : Nat} {ns : List Int} (p : Int → Bool) (f : Int → Int) (Led : Nat → List (Addr × Obj) → Prop) (hn : ns.length = n) (hP : ∀ i v, i < n → P i v → ∃ k t, ns[i]? = some k ∧ v = .int k t) (h0 : Led 0 news)
    (turn : ∀ i k t I oI C oC D m₂ ys nw h tk (E' : Value → Shared → Prop), ns[i]? = some k → Led i nw → LCg.NsObj oC m₂ → m₂ x = some (.int k t) → Fr h₀ L h m → News h₀ L h ((I, oI) :: (C, oC) :: (D, LCg.lst ys) :: nw) → LCg.Off3 I C D nw → ((@Ne Nat I C) ∧ (@Ne Nat I D) ∧ (@Ne Nat C D)) →
      wpAny (model prog w) A (isTrue ct (compEnvC scope cl C env) (eval ct (compEnvC scope cl C env))) (fun ok s' => ok = p k ∧ ∃ h' tk' nw', s' = { s with heap := h', toks := tk' } ∧ Fr h₀ L h' m ∧ News h₀ L h' ((I, oI) :: (C, oC) :: (D, LCg.lst ys) :: nw') ∧ LCg.Off3 I C D nw' ∧ S nw' ∧ Led (i + 1) nw') E' { s with heap := h, toks := tk })
    (el : ∀ i k t I oI C oC D m₂ ys nw h tk (E' : Value → Shared → Prop), ns[i]? = some k → p k = true → Led (i + 1) nw → LCg.NsObj oC m₂ → m₂ x = some (.int k t) → Fr h₀ L h m → News h₀ L h ((I, oI) :: (C, oC) :: (D, LCg.lst ys) :: nw) → LCg.Off3 I C D nw → S nw →
      wpAny (model prog w) A (eval elt (compEnvC scope cl C env)) (LCg.CompEnd h₀ L m { s with heap := h, toks := tk } I oI C oC D (LCg.lst ys) S (fun y news' => (∃ t', y = .int (f k) t') ∧ Led (i + 1) news')) E' { s with heap := h, toks := tk })
    (fin : ∀ ys nw, IntsAre ys ((ns.filter p).map f) → Led n nw → Fin ys nw) : LCt.CompRestT prog w A h₀ L m env ct elt x scope cl s S P Fin n 0 [] news := by
  have key : ∀ (j i : Nat) (ys : List Value) (nw : List (Addr × Obj)), i + j = n → IntsAre ys (((ns.take i).filter p).map f) → Led i nw → LCt.CompRestT prog w A h₀ L m env ct elt x scope cl s S P Fin j i ys nw := by
    intro j
    induction j with
    | zero =>
      intro i ys nw hi hy hl
      have e : i = ns.length := by omega
      have e2 : i = n := by omega
      rw [e, List.take_length] at hy
      exact LCt.CompRestT.zero (fin ys nw hy (e2 ▸ hl))
    | succ j ih =>
      intro i ys nw hi hy hl
      refine LCt.CompRestT.succ ?_
      intro v I oI C oC D m₂ h tk E' hv hC hx F N off ne
      obtain ⟨k, t, hk, hv'⟩ := hP i v (by omega) hv
      rw [hv'] at hx
      refine wpAny_mono (turn i k t I oI C oC D m₂ ys nw h tk E' hk hl hC hx F N off ne) (fun ok s₂ hq => ?_) fun _ _ e => e
      obtain ⟨rfl, h', tk', nw', rfl, F', N', off', hS', hl'⟩ := hq
      cases hp : p k with
      | true =>
        rw [if_pos rfl]
        refine wpAny_mono (el i k t I oI C oC D m₂ ys nw' h' tk' E' hk hp hl' hC hx F' N' off' hS') (fun y s₃ hq => ?_) fun _ _ e => e
        obtain ⟨h3, tk3, nw3, rfl, F3, N3, off3, hS3, ⟨t', rfl⟩, hl3⟩ := hq
        refine ⟨h3, tk3, nw3, rfl, F3, N3, off3, hS3, ih (i + 1) _ _ (by omega) ?_ hl3⟩
        rw [take_succ_filter p ns i k hk, hp, List.map_append]
        exact ints_snoc hy _ _
      | false =>
        rw [if_neg Bool.false_ne_true]
        refine ⟨h', tk', nw', rfl, F', N', off', hS', ih (i + 1) _ _ (by omega) ?_ hl'⟩
        rw [take_succ_filter p ns i k hk, hp]
        simpa using hy
  exact key n 0 [] news (by omega) (by simpa using IntsAre.nil) h0
end

section
variable {prog : Program} {w : World} {A : Around} {h₀ : Heap} {L : Addr} {m : PySem.Str → Option Value} {env : Env} {ct : Expr} {x : PySem.Str} {px : Pos} {scope : Scope} {cl : List (PySem.Str × Addr)} {s : Shared} {S : List (Addr × Obj) → Prop}
theorem turnC_filter {vs : List Value} {ns : List Int} (hI : IntsAre vs ns) (p : Int → Bool) (Led : Nat → List (Addr × Obj) → Prop)
    (hk : scope.kind = .function) (hx : (relabel scope env).names.lookup x = some .cell) (hb : (x == ("__debug__" : PySem.Str)) = false)
    (turn : ∀ i k t X oX I oI C oC D m₂ ys nw h tk (E' : Value → Shared → Prop), ns[i]? = some k → Led i nw → S nw → LCg.NsObj oC m₂ → oX.data = .cell (some (.int k t)) → Fr h₀ L h m → News h₀ L h ((X, oX) :: (I, oI) :: (C, oC) :: (D, LCg.lst ys) :: nw) → Off4 X I C D nw →
      ((@Ne Nat X I) ∧ (@Ne Nat X C) ∧ (@Ne Nat X D) ∧ (@Ne Nat I C) ∧ (@Ne Nat I D) ∧ (@Ne Nat C D)) →
      wpAny (model prog w) A (isTrue ct (compEnvC scope ((x, X) :: cl) C env) (eval ct (compEnvC scope ((x, X) :: cl) C env))) (fun ok s' => ok = p k ∧ CEnd h₀ L m { s with heap := h, toks := tk } X oX I oI C oC D (LCg.lst ys) S (Led (i + 1)) s') E' { s with heap := h, toks := tk }) :
    TurnC prog w A h₀ L m env [ct] (.Name x px) x scope cl s S vs.toArray (fun i ys nw => IntsAre ys ((ns.take i).filter p) ∧ Led i nw) := by
  intro i v X oX oI I C oC D m₂ ys nw h tk E' hi hv hj hS hC hX F N off ne
  obtain ⟨k, t, hv', hk'⟩ := IntsAre.at hI i v (by simpa using hv)
  subst hv'
  refine wpAny_tests_one (wpAny_mono (turn i k t X oX I oI C oC D m₂ ys nw h tk E' hk' hj.2 hS hC hX F N off ne) (fun ok s₂ hq => ?_) fun _ _ e => e)
  obtain ⟨rfl, h', tk', nw', rfl, F', N', off', hS', hl'⟩ := hq
  cases hp : p k with
  | true =>
    rw [if_pos rfl]
    refine wpAny_Name (wpAny_loadName_cell (c := X) hk hx (by simp [compEnvC]) ⟨oX, (N' _ (.head _)).1, hX⟩ ?_) hb
    refine ⟨h', tk', nw', rfl, F', N', off', hS', ?_, hl'⟩
    rw [take_succ_filter p ns i k hk', hp]
    exact ints_snoc hj.1 k t
  | false =>
    rw [if_neg Bool.false_ne_true]
    refine ⟨h', tk', nw', rfl, F', N', off', hS', ?_, hl'⟩
    rw [take_succ_filter p ns i k hk', hp]
    simpa using hj.1
end
end
section
theorem fresh_9 : True := by
  w_top off
  trivial

/-! the two modes of table 16, as a tail of the ledger -/
def Sep (T R : List (Addr × Obj)) : Prop := ∀ q ∈ R, ∀ p ∈ T, @Ne Nat p.1 q.1
def Hit (T : List (Addr × Obj)) : Prop := ∃ c' oc, T = [(16, tab16 c'), (c', oc)] ∧ CodeO QInner oc ∧ @Ne Nat c' 16
def Md (T : List (Addr × Obj)) : Prop := T = [(16, tabObj #[])] ∨ Hit T
def Then (T T' : List (Addr × Obj)) : Prop := T = [(16, tabObj #[])] ∨ T' = T
theorem Then.refl {T : List (Addr × Obj)} : Then T T := .inr rfl
theorem Then.trans {T T' T'' : List (Addr × Obj)} (h : Then T T') (h' : Then T' T'') : Then T T'' := by
  rcases h with h | h
  · exact .inl h
  · rcases h' with h' | h'
    · exact .inl (h ▸ h')
    · exact .inr (h'.trans h)
theorem Hit.ne {T : List (Addr × Obj)} (h : Hit T) : T ≠ [(16, tabObj #[])] := by
  obtain ⟨c', oc, rfl, _⟩ := h
  intro e; cases e
theorem Then.hit {T T' : List (Addr × Obj)} (h : Then T T') (ht : Hit T) : T' = T := h.resolve_left ht.ne
theorem Md.mdT {T R : List (Addr × Obj)} (h : Md T) (hs : Sep T R) : MdT T R := by
  rcases h with h | ⟨c', oc, rfl, hc, hn⟩
  · exact .inl h
  · exact .inr ⟨c', oc, rfl, hc, hn, fun q hq => Ne.symm (hs q hq _ (.tail _ (.head _)))⟩
theorem Md.sixteen {T : List (Addr × Obj)} (h : Md T) : ∃ o, ((16 : Addr), o) ∈ T := by
  rcases h with rfl | ⟨c', oc, rfl, _⟩
  · exact ⟨_, .head _⟩
  · exact ⟨_, .head _⟩
theorem Sep.cons {T R : List (Addr × Obj)} {q : Addr × Obj} (h : ∀ p ∈ T, @Ne Nat p.1 q.1) (hs : Sep T R) : Sep T (q :: R) := fun r hr => by
  rcases List.mem_cons.mp hr with rfl | hr
  · exact h
  · exact hs r hr
theorem Sep.sub {T R R' : List (Addr × Obj)} (hs : Sep T R) (h : ∀ q ∈ R', q ∈ R) : Sep T R' := fun q hq => hs q (h q hq)

inductive TailF (T rest : List (Addr × Obj)) : List (Addr × Obj) → (List (Addr × Obj) → List (Addr × Obj)) → Prop
  | here : TailF T rest (T ++ rest) (fun T' => T' ++ rest)
  | cons {e nw g} : TailF T rest nw g → TailF T rest (e :: nw) (fun T' => e :: g T')
theorem TailF.inT {T rest nw : List (Addr × Obj)} {g : List (Addr × Obj) → List (Addr × Obj)} (U : TailF T rest nw g) : ∀ q ∈ T, q ∈ nw := by
  induction U with
  | here => exact fun q hq => List.mem_append_left _ hq
  | cons _ ih => exact fun q hq => .tail _ (ih q hq)
theorem TailF.inR {T rest nw : List (Addr × Obj)} {g : List (Addr × Obj) → List (Addr × Obj)} (U : TailF T rest nw g) : ∀ q ∈ g [], q ∈ nw := by
  induction U with
  | here => exact fun q hq => List.mem_append_right _ hq
  | cons _ ih =>
    intro q hq
    rcases List.mem_cons.mp hq with rfl | hq
    · exact .head _
    · exact .tail _ (ih q hq)
theorem TailF.out {T rest nw : List (Addr × Obj)} {g : List (Addr × Obj) → List (Addr × Obj)} (U : TailF T rest nw g) (T' : List (Addr × Obj)) : ∀ q ∈ g T', q ∈ T' ∨ q ∈ g [] := by
  induction U with
  | here => exact fun q hq => List.mem_append.mp hq
  | cons _ ih =>
    intro q hq
    rcases List.mem_cons.mp hq with rfl | hq
    · exact .inr (.head _)
    · exact (ih q hq).imp id (.tail _)

section
variable {w : World} {lot : Int} {tok : Tok} {nw T rest : List (Addr × Obj)} {g : List (Addr × Obj) → List (Addr × Obj)} {p : Program} {loose : List PySem.Str} {mean : ExcName → Option Value} {mg mb : PySem.Str → Option Value}
  {dp un : Nat} {gd : Option (List Code)} {cn : PySem.Str} {cs : Scope} {a : Addr} {ccd : Value} {cl : List (PySem.Str × Addr)} {outer : List Env} {A₀ : Around} {base h₀ : Heap} {L : Addr} {m : PySem.Str → Option Value} {s : Shared} {Q E : Value → Shared → Prop}
theorem things_w (hlo : 0 ≤ lot) (hhi : lot < 8) (B : Below A₀ base outer h₀) (F : Fr h₀ L s.heap m) (X : (hd.heap_39 w.params).In h₀) (N : News h₀ L s.heap nw) (Tp : Top p loose mean mg mb h₀) (hck : cs.kind = .function)
    (C : CodeHd base 20 16) (U : TailF T rest nw g) (md : Md T) (sep : Sep T (g [])) (hbig : ∃ q ∈ g [], @LT.lt Nat _ 16 q.1)
    (hdp : dp + 20 < recursionLimit) (hun : un + 100 < cLine)
    (ret : ∀ T' l vs n h' tk', Fr h₀ L h' m → News h₀ L h' ((l, W.listOf (List.toArray vs) n) :: g T') → IntsAre vs (bits lot) → Hit T' → Sep T' ((l, W.listOf (List.toArray vs) n) :: g []) → (∀ q ∈ g [], q.1 < l) → Then T T' → Q (.ref l) { s with heap := h', toks := tk' }) :
    wpAny (model PR w) (ktrTop dp un gd cn cs L a ccd cl outer) (call (.ref 53) [.int lot tok]) Q E s := by
  obtain ⟨o16, h16⟩ := md.sixteen
  refine things_k hlo hhi B F X N Tp hck C (md.mdT sep) U.inT U.inR hbig (fun q hq => Ne.symm (sep q hq _ h16)) hdp hun ?_
  intro c' oc l vs n h' tk' F' N' I hcd hc hcR hl hcl h16l th
  refine ret [(16, tab16 c'), (c', oc)] l vs n h' tk' F' (fun q hq => N' q ?_) I ⟨c', oc, rfl, hcd, hc⟩ ?_ hl (th.imp id fun e => e.symm)
  · rcases List.mem_cons.mp hq with rfl | hq
    · exact .head _
    · rcases U.out _ q hq with h | h
      · rcases List.mem_cons.mp h with rfl | h
        · exact .tail _ (.head _)
        · rw [List.mem_singleton.mp h]; exact .tail _ (.tail _ (.head _))
      · exact .tail _ (.tail _ (.tail _ h))
  · refine Sep.cons (fun q hq => ?_) fun r hr q hq => ?_
    · rcases List.mem_cons.mp hq with rfl | hq
      · exact Nat.ne_of_lt h16l
      · rw [List.mem_singleton.mp hq]; exact Nat.ne_of_lt hcl
    · rcases List.mem_cons.mp hq with rfl | hq
      · exact (sep r hr _ h16 : @Ne Nat 16 r.1)
      · rw [List.mem_singleton.mp hq]; exact Ne.symm (hcR r hr)
end

theorem wpAny_viaF {α : Type} {M : Model} {A : Around} {t : Sem α} {Q : α → Shared → Prop} {E : Value → Shared → Prop} {s : Shared} {h₀ h : Heap} {L : Addr} {m : PySem.Str → Option Value} (_F : Fr h₀ L h m)
    (R : (PySem.Str → Option Value) → α → Shared → Prop) (h : wpAny M A t (R m) E s) (k : ∀ a s', R m a s' → Q a s') : wpAny M A t Q E s := wpAny_mono h k fun _ _ e => e

/-- an item of the three bits, at a place that is not written -/
theorem bits_item {prog : Program} {w : World} {A : Around} {E : Value → Shared → Prop} {s : Shared} {h₀ : Heap} {L : Addr} {nw : List (Addr × Obj)} {value slice : PySem.Expr} {l : Addr} {vs : List Value} {n : Nat} {lot k : Int} {u : Tok} {Q : Value → Shared → Prop}
    (N : News h₀ L s.heap nw) (hm : (l, W.listOf (List.toArray vs) n) ∈ nw) (I : IntsAre vs (bits lot)) (h0 : 0 ≤ k ∧ k < 3) (h : ∀ t, Q (.int ((bits lot).getD k.toNat 0) t) s)
    (hs : subscripted slice false (.ref l) (.int k u) = operate [.ref l, .int k u] (getItem (.ref l) (.int k u)) := by with_unfolding_all rfl) :
    wpAny (model prog w) A (subscriptTail value slice (.ref l) (.int k u)) Q E s := by
  have hl : s.heap.IsList l vs.toArray := ⟨_, (N _ hm).1, rfl, n, rfl⟩
  have hk : k.toNat < (bits lot).length := by show k.toNat < 3; omega
  obtain ⟨t, ht⟩ := I.get k.toNat ((bits lot).getD k.toNat 0) (by rw [List.getD_eq_getElem?_getD, List.getElem?_eq_getElem hk]; rfl)
  exact tail_any hl.typeIs slot_list_getitem.lookup (wpAny_getItem_list hl h0.1 (by omega) (by simpa using ht) (h t)) hs

/-- a wrap that the walk does not open -/
def Held (P : Prop) : Prop := P
theorem wpAny_held {α : Type} {M : Model} {A : Around} {t : Sem α} {Q : α → Shared → Prop} {E : Value → Shared → Prop} {s : Shared} (h : wpAny M A t (fun a s' => Held (Q a s')) E s) : wpAny M A t Q E s := h

theorem dec_nil (l : List Int) [d : Decidable (l = [])] : decide (l = []) = (l == []) := by
  cases l with
  | nil => simp
  | cons a r => simp
theorem held_out {P : Prop} (h : Held P) : P := h
theorem fr_shape {m : PySem.Str → Option Value} {a b : PySem.Str} {va vb : Value} (ha : m a = some va) (hb : m b = some vb) : m = fun y => if y = a then some va else if y = b then some vb else m y := by
  funext y
  by_cases e1 : y = a
  · rw [if_pos e1, e1, ha]
  · rw [if_neg e1]
    by_cases e2 : y = b
    · rw [if_pos e2, e2, hb]
    · rw [if_neg e2]

section
variable {prog : Program} {w : World} {A : Around} {E : Value → Shared → Prop} {s : Shared} {h₀ : Heap} {L : Addr} {nw : List (Addr × Obj)} {l : Addr} {vs : List Value} {n : Nat} {ys : List Int} {Q : Value → Shared → Prop}
theorem len_w (N : News h₀ L s.heap nw) (hm : (l, W.listOf (List.toArray vs) n) ∈ nw) (I : IntsAre vs ys) (hb : ys.length ≤ 1000) (h : ∀ t tk, Q (.int ys.length t) { s with toks := tk }) : wpAny (model prog w) A (call (.builtin "len") [.ref l]) Q E s := by
  have hl : s.heap.IsList l vs.toArray := ⟨_, (N _ hm).1, rfl, n, rfl⟩
  have e : ((vs.toArray.size : Nat) : Int) = (ys.length : Int) := by rw [List.size_toArray, I.length]
  exact len_list hl (by rw [e]; omega) (by rw [e]; exact h _ _)
theorem item_w {value slice : PySem.Expr} {k : Int} {u : Tok} (N : News h₀ L s.heap nw) (hm : (l, W.listOf (List.toArray vs) n) ∈ nw) (I : IntsAre vs ys) (hb : ys.length ≤ 1000) (h0 : 0 ≤ k) (hk : k < (ys.length : Int)) (h : ∀ t, Q (.int (ys.getD k.toNat 0) t) s)
    (hs : subscripted slice false (.ref l) (.int k u) = operate [.ref l, .int k u] (getItem (.ref l) (.int k u)) := by with_unfolding_all rfl) :
    wpAny (model prog w) A (subscriptTail value slice (.ref l) (.int k u)) Q E s := by
  have hl : s.heap.IsList l vs.toArray := ⟨_, (N _ hm).1, rfl, n, rfl⟩
  have hk' : k.toNat < ys.length := by omega
  obtain ⟨t, ht⟩ := I.get k.toNat (ys.getD k.toNat 0) (by rw [List.getD_eq_getElem?_getD, List.getElem?_eq_getElem hk']; rfl)
  exact tail_any hl.typeIs slot_list_getitem.lookup (wpAny_getItem_list hl h0 (by omega) (by simpa using ht) (h t)) hs
end
end
section
theorem fresh_10 : True := by
  w_top off
  trivial
local macro_rules | `(tactic| k_room) => `(tactic| ktr_room)
local macro_rules | `(tactic| k_all) => `(tactic| first | (refine off_tail (by assumption) ?_; omega) | assumption)
local macro_rules | `(tactic| walk_at "exec FunctionDef") => `(tactic| (k_here; kn_here; k_dflt (refine' nestDef_K ?d0 ?k0 ?a0 ?_; (case d0 => exact rfl); (case k0 => exact rfl); (case a0 => exact rfl)); k_dflt (refine' def_uni ?F ?N ?T ?C ?cd ?U ?hm ?hs ?cl ?_; (case F => k_asm); (case N => k_asm); (case T => k_asm); (case cd => exact rfl); (case C => kn_code); (case U => k_updF); (case hm => assumption); (case hs => kcf_all); (case cl => exact rfl); k_whole); intro f' c' oc' vs' t' ct' dc' h' tk' F' N' d1' d2' l1 l2 l3 l4; (try dsimp only at N'); (try k_lt l1); (try k_lt2 l2); replace l3 := Or.imp id allLt_of l3; (try simp only [AllLt, and_true] at l3); replace l4 := Or.imp (fun hh => And.intro hh.1 (allLt_of hh.2)) id l4; (try simp only [AllLt, and_true] at l4)))
local macro_rules | `(tactic| walk_at "binaryOp Mult ref int") => `(tactic| (rw [(by assumption : Int.fdiv (_ + 1 - 1) 1 = _)]))
local macro_rules | `(tactic| k_updF) => `(tactic| first | (refine' TailF.cons ?tb; (case tb => k_updF)) | exact TailF.here)
local macro_rules | `(tactic| walk_at "call ref") => `(tactic| (k_here; k_dflt (refine' things_w ?tlo ?thi ?tB ?tF ?tX ?tN ?tT ?tck ?tC ?tU ?tmd ?tsep ?tbig ?tdp ?tun ?_; (case tB => k_asm); (case tF => k_asm); (case tX => k_asm); (case tN => k_asm); (case tT => k_asm); (case tck => first | exact rfl | assumption); (case tC => assumption); (case tU => k_updF); (case tmd => first | assumption | exact Or.inr (by assumption)); (case tsep => assumption); (case tbig => first | exact ⟨_, .head _, by omega⟩ | exact ⟨_, .tail _ (.head _), by omega⟩ | exact ⟨_, .tail _ (.tail _ (.head _)), by omega⟩ | exact ⟨_, .tail _ (.tail _ (.tail _ (.head _))), by omega⟩ | exact ⟨_, .tail _ (.tail _ (.tail _ (.tail _ (.head _)))), by omega⟩ | exact ⟨_, .tail _ (.tail _ (.tail _ (.tail _ (.tail _ (.head _))))), by omega⟩); (case tlo => assumption); (case thi => assumption); (case tdp => ktr_room); (case tun => ktr_units); k_whole); intro T' l' vs' n' h' tk' F' N' I' hit' sep' lt' th'; (try dsimp only at N' sep' lt')))
local macro_rules | `(tactic| walk_at "subscriptTail") => `(tactic| (k_here; (with_reducible show wpAny _ _ (subscriptTail _ _ (Value.ref _) (Value.int _ _)) _ _ _); k_dflt (refine' bits_item ?bN ?bm ?bI ?b0 ?_ ?bs; (case bN => k_asm); (case bm => k_mem); (case bI => assumption); (case b0 => assumption); (case bs => with_unfolding_all rfl); k_whole); intro t'))
local macro_rules | `(tactic| walk_at "call ref") => `(tactic| (k_here; k_dflt (refine' insort_w ?ys ?yl ?tB ?tF ?tX ?tN ?tT ?tck ?tU ?tdp ?tun ?_; (case tB => k_asm); (case tF => k_asm); (case tX => k_asm); (case tN => k_asm); (case tT => k_asm); (case tck => first | exact rfl | assumption); (case tU => k_updF); (case ys => assumption); (case yl => assumption); (case tdp => ktr_room); (case tun => ktr_units); k_whole); intro vs' n' h' tk' F' N' I'; (try dsimp only at N')))

/-- one is within lot -/
def within (one lot : Int) : Bool := [(0 : Int), 1, 2].filter (fun k => decide ((bits one).getD k.toNat 0 > (bits lot).getD k.toNat 0)) == []
/-- the test of _law_grown -/
def covered (lots : List Int) (lot : Int) : Bool := !(lots.filter (fun one => within one lot) == [])
/-- the lots gathered after i turns (from 7 down) -/
def grownTo (lots : List Int) : Nat → List Int
  | 0 => []
  | i + 1 => if covered lots (7 - (i : Int)) then insF (grownTo lots i) (7 - (i : Int)) else grownTo lots i

theorem insF_len (ys : List Int) (x : Int) : (insF ys x).length = ys.length + 1 := by
  unfold insF
  rw [List.length_append, List.length_cons, List.length_take, List.length_drop]; omega
theorem grownTo_len (lots : List Int) : ∀ i, (grownTo lots i).length ≤ i
  | 0 => Nat.le_refl _
  | i + 1 => by
    have := grownTo_len lots i
    unfold grownTo
    split
    · rw [insF_len]; omega
    · omega
theorem allLt_mem {d : Addr} : ∀ {l : List (Addr × Obj)}, AllLt d l → ∀ p ∈ l, @LT.lt Nat _ p.1 d
  | [], _, _, h => nomatch h
  | _ :: _, x, p, h => by
    rcases List.mem_cons.mp h with rfl | h
    · exact x.1
    · exact allLt_mem x.2 p h
theorem grownTo_yes {lots : List Int} {i : Nat} (h : covered lots (7 - (i : Int)) = true) : grownTo lots (i + 1) = insF (grownTo lots i) (7 - (i : Int)) := by
  show (if covered lots (7 - (i : Int)) then _ else _) = _
  rw [if_pos h]
theorem grownTo_no {lots : List Int} {i : Nat} (h : covered lots (7 - (i : Int)) = false) : grownTo lots (i + 1) = grownTo lots i := by
  show (if covered lots (7 - (i : Int)) then _ else _) = _
  rw [if_neg (by rw [h]; exact Bool.false_ne_true)]
abbrev o0 : Obj := tabObj #[]

theorem grown_k (w : World) (lots : List Int) (vs : List Value) (hvs : IntsAre vs lots) (hlots : ∀ k ∈ lots, 0 ≤ k ∧ k < 8) (hlen : lots.length ≤ 8) (nl : Nat) (ll : Addr) (T news : List (Addr × Obj))
    (p : Program) (loose : List PySem.Str) (mean : ExcName → Option Value) (mg mb : PySem.Str → Option Value)
    (dp un : Nat) (gd : Option (List Code)) (cn : PySem.Str) (cs : Scope) (a : Addr) (ccd : Value) (cl : List (PySem.Str × Addr)) (outer : List Env) (A₀ : Around) (base h₀ : Heap) (L : Addr) (m : PySem.Str → Option Value) (s : Shared) (Q E : Value → Shared → Prop)
    (B : Below A₀ base outer h₀) (F : Fr h₀ L s.heap m) (X : (hd.heap_39 w.params).In h₀) (N : News h₀ L s.heap ((ll, W.listOf (List.toArray vs) nl) :: (T ++ news))) (Tp : Top p loose mean mg mb h₀) (hck : cs.kind = .function)
    (C : CodeHd base 20 16) (md : Md T) (sep : Sep T ((ll, o0) :: news)) (hl16 : @LT.lt Nat _ 16 ll)
    (hdp : dp + 30 < recursionLimit) (hun : un + 150 < cLine)
    (ret : ∀ T' l vs' n h' tk', Fr h₀ L h' m → News h₀ L h' ((l, W.listOf (List.toArray vs') n) :: (ll, W.listOf (List.toArray vs) nl) :: (T' ++ news)) → IntsAre vs' (grownTo lots 8) → Md T' → (lots ≠ [] → Hit T') → Sep T' ((l, o0) :: (ll, o0) :: news) → (@LT.lt Nat _ ll l) → (∀ q ∈ news, @LT.lt Nat _ q.1 l) → (∀ q ∈ T, @LT.lt Nat _ q.1 l) → Then T T' → Q (.ref l) { s with heap := h', toks := tk' }) :
    wpAny (model PR w) (ktrTop dp un gd cn cs L a ccd cl outer) (call (.ref 58) [.ref ll]) Q E s := by
  refine wpAny_call ?_
  k_dflt (refine' code_defC ?k1 ?k2 ?k3 ?k4 ?k5 ?kA ?kF ?kK ?k6 ?k7 ?k8 ?k9 ?kB ?kD ?_ ?c2 ?c3 ?c4; (case kA => exact rfl); (case kF => exact rfl); (case kK => assumption); (case k1 => k_asm); (case k2 => k_asm); (case k3 => k_asm); (case k4 => k_asm); (case k5 => k_asm); (case k6 => k_is); (case k7 => k_is); (case k8 => k_room); (case k9 => first | exact BindsTo.of_eq rfl | exact binds_K (by k_in) rfl (by k_is) rfl rfl rfl | fail "k_enter: no rule for these arguments"); (case kB => exact rfl); (case kD => decide +kernel); (case c2 => exact rfl); (case c3 => exact rfl); (case c4 => exact rfl); k_whole; intro g' L' h' tk' cells' FG' F' N' Y' B' X' T' l1; (try k_lt l1); k_cells Y'; (try simp only [List.cons_append, List.nil_append] at N'); (try dsimp only); (try k_lift B'); (try k_fold))
  k_steps
  refine wpAny_For ?_ (by intro _; rfl)
  k_steps
  rename_i oL dL lo hA lA hB FB NB hC tkC t1 u1 v1 hr FF NN hk
  have hTn : ∀ p ∈ T ++ news, @LT.lt Nat _ p.1 L' := allLt_mem l1.2
  have hLlo : @LT.lt Nat _ (L' + 1) lo := lA.1
  have hlllo : @LT.lt Nat _ ll lo := lA.2.1
  have hllL : @LT.lt Nat _ ll L' := l1.1
  refine for_range (m := _) (fun i m₁ nw => m₁ = _ ∧ ∃ T1 vs1 n1 oc v0, nw = (lo, W.listOf (List.toArray vs1) n1) :: (L' + 1, oc) :: (ll, W.listOf (List.toArray vs) nl) :: (T1 ++ news) ∧ oc.data = .cell v0 ∧ IntsAre vs1 (grownTo lots i) ∧ Md T1 ∧ (i ≠ 0 → lots ≠ [] → Hit T1) ∧ Sep T1 ((lo, o0) :: (L' + 1, o0) :: (ll, o0) :: news) ∧ Then T T1) rfl rfl FF NN hr (by decide) (n := 8) (by decide) ⟨rfl, T, [], 0, oL, _, rfl, dL, .nil, md, fun h => absurd rfl h, ?sep0, .refl⟩ ?turn ?done
  case sep0 =>
    refine Sep.cons (fun p hp => Nat.ne_of_lt (Nat.lt_trans (hTn p (List.mem_append_left _ hp)) (by omega))) (Sep.cons (fun p hp => Nat.ne_of_lt (Nat.lt_trans (hTn p (List.mem_append_left _ hp)) (by omega))) sep)
  case turn =>
    intro i v m₁ nw I oI h tk E' hi hv hj hS F1 N1 off1
    obtain ⟨rfl, T1, vs1, n1, oc, v0, rfl, hoc, hI1, hmd1, hhit1, hsep1, hth1⟩ := hj
    obtain ⟨t, rfl⟩ := hv
    have hcell : ∀ p ∈ T1 ++ news, p.1 ≠ L' + 1 := fun p hp => (List.mem_append.mp hp).elim (fun h1 => hsep1 _ (.tail _ (.head _)) p h1) fun h1 => Nat.ne_of_lt (Nat.lt_trans (hTn p (List.mem_append_right _ h1)) (Nat.lt_succ_self _))
    have hord : ∀ p ∈ T1 ++ news, p.1 ≠ lo := fun p hp => (List.mem_append.mp hp).elim (fun h1 => hsep1 _ (.head _) p h1) fun h1 => Nat.ne_of_lt (Nat.lt_trans (hTn p (List.mem_append_right _ h1)) (by omega))
    have offT : ∀ p ∈ T1 ++ news, p.1 ≠ I := off1_mem off1.2.2.2
    have o1 : @Ne Nat lo I := off1.1
    have o2 : @Ne Nat (L' + 1) I := off1.2.1
    have o3 : @Ne Nat ll I := off1.2.2.1
    refine wpAny_assign_Name ?_
    k_steps
    rename_i hD oc2 F2 N2 dc2
    have hkl : 7 + (i : Int) * (0 - 1) = 7 - (i : Int) := by omega
    rw [hkl] at dc2
    have hkl0 : 0 ≤ 7 - (i : Int) := by omega
    have hkl8 : 7 - (i : Int) < 8 := by omega
    have hsz : vs.toArray.size ≤ sizeLine := by rw [List.size_toArray, hvs.length, PySem.sizeLine_eq]; omega
    refine ListComp_C (ax := ll) (its := vs.toArray) (fun i2 ys nw => IntsAre ys ((lots.take i2).filter (fun one => within one (7 - (i : Int)))) ∧ ∃ T2, nw = (I, oI) :: (lo, W.listOf (List.toArray vs1) n1) :: (L' + 1, oc2) :: (ll, W.listOf (List.toArray vs) nl) :: (T2 ++ news) ∧ Md T2 ∧ (i2 ≠ 0 → Hit T2) ∧ Sep T2 ((I, o0) :: (lo, o0) :: (L' + 1, o0) :: (ll, o0) :: news) ∧ Then T1 T2)
      rfl F2 N2 (.inr ⟨_, by k_mem, rfl, _, rfl⟩) hsz ?hit (by with_unfolding_all rfl) (fun _ => rfl) (fun _ => rfl) rfl (by decide) (by rfl) ⟨.nil, T1, rfl, hmd1, fun h => absurd rfl h, ?sep1, .refl⟩ ?turn2 ?fin2
    case sep1 => exact Sep.cons (fun p hp => offT p (List.mem_append_left _ hp)) hsep1
    case hit => intro Q' E'' hq; walk1; exact hq
    case turn2 =>
      refine turnC_filter hvs (fun one => within one (7 - (i : Int))) (fun i2 nw => ∃ T2, nw = (I, oI) :: (lo, W.listOf (List.toArray vs1) n1) :: (L' + 1, oc2) :: (ll, W.listOf (List.toArray vs) nl) :: (T2 ++ news) ∧ Md T2 ∧ (i2 ≠ 0 → Hit T2) ∧ Sep T2 ((I, o0) :: (lo, o0) :: (L' + 1, o0) :: (ll, o0) :: news) ∧ Then T1 T2) rfl (by rfl) (by decide) ?_
      intro i2 k t2 X9 oX I2 oI2 C2 oC2 D2 m2 ys nw h2 tk2 E2 hk2 hled hS2 hC2 hX2 F3 N3 off3 ne3
      obtain ⟨T2, rfl, hmd2, hhit2, hsep2, hth2⟩ := hled
      have hkb := hlots k (List.mem_of_getElem? hk2)
      have hk0 : 0 ≤ k := hkb.1
      have hk8 : k < 8 := hkb.2
      have off4 := off3.mem
      obtain ⟨rest, hrest⟩ : ∃ r, r = (I2, oI2) :: (C2, oC2) :: (D2, LCg.lst ys) :: (I, oI) :: (lo, W.listOf (List.toArray vs1) n1) :: (ll, W.listOf (List.toArray vs) nl) :: news := ⟨_, rfl⟩
      have N4 : News g' L' h2 ((X9, oX) :: (L' + 1, oc2) :: (T2 ++ rest)) := by
        subst hrest
        intro q hq
        refine N3 q ?_
        simp only [List.mem_cons, List.mem_append] at hq ⊢
        rcases hq with h | h | h | h | h | h | h | h | h | h <;> simp [h]
      have sep4 : Sep T2 ((X9, oX) :: (L' + 1, oc2) :: rest) := by
        subst hrest
        have mT : ∀ p ∈ T2, p ∈ (I, oI) :: (lo, W.listOf (List.toArray vs1) n1) :: (L' + 1, oc2) :: (ll, W.listOf (List.toArray vs) nl) :: (T2 ++ news) := fun p hp => by simp [hp]
        intro q hq p hp
        have f := off4 p (mT p hp)
        simp only [List.mem_cons] at hq
        rcases hq with rfl | rfl | rfl | rfl | rfl | rfl | rfl | rfl | hq
        · exact f.1
        · exact hsep2 _ (.tail _ (.tail _ (.head _))) p hp
        · exact f.2.1
        · exact f.2.2.1
        · exact f.2.2.2
        · exact hsep2 _ (.head _) p hp
        · exact hsep2 _ (.tail _ (.head _)) p hp
        · exact hsep2 _ (.tail _ (.tail _ (.tail _ (.head _)))) p hp
        · exact hsep2 q (.tail _ (.tail _ (.tail _ (.tail _ hq)))) p hp
      refine wpAny_viaF F3 (fun mm ok s' => Held (ok = within k (7 - (i : Int)) ∧ ∃ h' tk' T3, s' = { heap := h', gens := s.gens, drawn := s.drawn, toks := tk', os := s.os } ∧ Fr g' L' h' mm ∧ News g' L' h' ((X9, oX) :: (L' + 1, oc2) :: (T3 ++ rest)) ∧ Hit T3 ∧ Sep T3 ((X9, oX) :: (L' + 1, oc2) :: rest) ∧ Then T2 T3)) ?c2 (fun ok s' hq => ?_)
      case c2 =>
        clear N3 hrest F2 N2
        (try dsimp only)
        walk1; walk1; walk1
        refine restT_filter (ns := [0, 1, 2]) (fun kk => decide ((bits k).getD kk.toNat 0 > (bits (7 - (i : Int))).getD kk.toNat 0)) id (fun i3 nw => ∃ T3, nw = (X9, oX) :: (L' + 1, oc2) :: (T3 ++ rest) ∧ Md T3 ∧ (i3 ≠ 0 → Hit T3) ∧ Sep T3 ((X9, oX) :: (L' + 1, oc2) :: rest) ∧ Then T2 T3) rfl ?hP ⟨T2, rfl, hmd2, fun h => absurd rfl h, sep4, .refl⟩ ?turn3 ?el3 ?fin3
        case hP =>
          rintro i3 v hi3 ⟨t3, rfl⟩
          have hi3 : i3 < (3 : Nat) := hi3
          rcases (by omega : i3 = 0 ∨ i3 = 1 ∨ i3 = 2) with rfl | rfl | rfl <;> exact ⟨_, _, rfl, rfl⟩
        case turn3 =>
          intro i3 kk t3 I3 oI3 C3 oC3 D3 m3 ys3 nw h3 tk3 E3 hkk hled3 hC3 hm3 F5 N5 off5 ne5
          obtain ⟨T3, rfl, hmd3, hhit3, hsep3, hth3⟩ := hled3
          have hkk3 : 0 ≤ kk ∧ kk < 3 := by
            rcases i3 with _ | _ | _ | i3 <;> simp at hkk <;> omega
          have hsepA : Sep T3 ((I3, oI3) :: (C3, oC3) :: (D3, LCg.lst ys3) :: (X9, oX) :: (L' + 1, oc2) :: rest) := by
            have off6 := off5.mem
            have f : ∀ p ∈ T3, p.1 ≠ I3 ∧ p.1 ≠ C3 ∧ p.1 ≠ D3 := fun p hp => off6 p (by simp [hp])
            exact Sep.cons (fun p hp => (f p hp).1) (Sep.cons (fun p hp => (f p hp).2.1) (Sep.cons (fun p hp => (f p hp).2.2) hsep3))
          refine wpAny_held ?_
          k_steps
          rename_i T4 l4 vs4 n4 hA4 tk4 F4 N4 I4 hit4 sep4' lt4 th4 t4 cE T5 l5 vs5 n5 hA5 tk5 F6 N6 I5 hit5 sep5 lt5 th5 t5
          unfold Held
          refine ⟨?e, _, _, (X9, oX) :: (L' + 1, oc2) :: (T5 ++ rest), rfl, F6, cb_drop N6 (by kcf_all), ?o, trivial, T5, rfl, .inr hit5, fun _ => hit5, ?s, (hth3.trans th4).trans th5⟩
          case e => rfl
          case o =>
            have e4 := off5.1
            have e5 := off5.2.1
            have f : ∀ p ∈ T5 ++ rest, p.1 ≠ I3 ∧ p.1 ≠ C3 ∧ p.1 ≠ D3 := fun p hp => (List.mem_append.mp hp).elim
              (fun hp => ⟨sep5 _ (.tail _ (.tail _ (.head _))) p hp, sep5 _ (.tail _ (.tail _ (.tail _ (.head _)))) p hp, sep5 _ (.tail _ (.tail _ (.tail _ (.tail _ (.head _))))) p hp⟩)
              (fun hp => off5.mem p (by simp [hp]))
            exact ⟨e4, e5, LCg.Off3.of f⟩
          case s => exact fun q hq p hp => sep5 q (.tail _ (.tail _ (.tail _ (.tail _ (.tail _ hq))))) p hp
        case el3 =>
          intro i3 kk t3 I3 oI3 C3 oC3 D3 m3 ys3 nw h3 tk3 E3 hkk hp3 hled3 hC3 hm3 F5 N5 off5 hS5
          obtain ⟨T3, rfl, hmd3, hhit3, hsep3, hth3⟩ := hled3
          refine wpAny_held ?_
          k_steps
          unfold Held
          refine LCg.CompEnd.intro (by assumption) (by assumption) ((X9, oX) :: (L' + 1, oc2) :: (T3 ++ rest)) (fun _ h => h) off5 trivial ⟨⟨_, rfl⟩, T3, rfl, hmd3, hhit3, hsep3, hth3⟩
        case fin3 =>
          intro ys3 nw hI3 hled3
          obtain ⟨T3, rfl, hmd3, hhit3, hsep3, hth3⟩ := hled3
          unfold LCg.FinE
          intro D3 h3 tk3 F5 N5 off5
          k_steps
          rename Fr _ _ _ _ => F6
          rename News _ _ _ _ => N6
          unfold Held
          refine ⟨?e, _, _, T3, rfl, F6, cb_drop N6 (by kcf_all), hhit3 (by decide), hsep3, hth3⟩
          case e => unfold within; simp only [List.map_id]; exact dec_nil _
      obtain ⟨rfl, h5, tk5, T5, rfl, F6, N6, hit5, sep5, th5⟩ := (hq : _ ∧ _)
      refine ⟨rfl, h5, tk5, (I, oI) :: (lo, W.listOf (List.toArray vs1) n1) :: (L' + 1, oc2) :: (ll, W.listOf (List.toArray vs) nl) :: (T5 ++ news), rfl, F6, ?n, ?o, .inr ⟨W.listOf vs.toArray nl, .tail _ (.tail _ (.tail _ (.head _))), rfl, nl, rfl⟩, T5, rfl, .inr hit5, fun _ => hit5, ?s, hth2.trans th5⟩
      case n =>
        subst hrest
        intro q hq
        refine N6 q ?_
        simp only [List.mem_cons, List.mem_append] at hq ⊢
        rcases hq with h | h | h | h | h | h | h | h | h | h <;> simp [h]
      case o =>
        subst hrest
        exact ⟨off3.1, off3.2.1, off3.2.2.1, off3.2.2.2.1, Off4.of fun p hp => (List.mem_append.mp hp).elim
          (fun hp => ⟨sep5 _ (.head _) p hp, sep5 _ (.tail _ (.tail _ (.head _))) p hp, sep5 _ (.tail _ (.tail _ (.tail _ (.head _)))) p hp, sep5 _ (.tail _ (.tail _ (.tail _ (.tail _ (.head _))))) p hp⟩)
          (fun hp => off4 p (by simp [hp]))⟩
      case s =>
        subst hrest
        exact Sep.cons (fun p hp => sep5 _ (.tail _ (.tail _ (.tail _ (.tail _ (.tail _ (.head _)))))) p hp) (Sep.cons (fun p hp => sep5 _ (.tail _ (.tail _ (.tail _ (.tail _ (.tail _ (.tail _ (.head _))))))) p hp) (Sep.cons (fun p hp => sep5 _ (.tail _ (.head _)) p hp) (Sep.cons (fun p hp => sep5 _ (.tail _ (.tail _ (.tail _ (.tail _ (.tail _ (.tail _ (.tail _ (.head _)))))))) p hp) (fun q hq p hp => sep5 q (.tail _ (.tail _ (.tail _ (.tail _ (.tail _ (.tail _ (.tail _ (.tail _ hq)))))))) p hp))))
    case fin2 =>
      intro D ys nw h2 tk2 hj2 F3 N3 offD hge
      obtain ⟨hI2, T2, rfl, hmd2, hhit2, hsep2, hth2⟩ := hj2
      have hsize : vs.toArray.size = lots.length := by rw [List.size_toArray, hvs.length]
      rw [hsize, List.take_length] at hI2
      rw [hsize] at hhit2
      have hord2 : ∀ p ∈ T2 ++ news, p.1 ≠ lo := fun p hp => (List.mem_append.mp hp).elim (fun h1 => hsep2 _ (.tail _ (.head _)) p h1) fun h1 => Nat.ne_of_lt (Nat.lt_trans (hTn p (List.mem_append_right _ h1)) (by omega))
      have hoD : @Ne Nat lo D := offD.2.1
      have hglen : (grownTo lots i).length ≤ 1000 := by have := grownTo_len lots i; omega
      have hit3 : i + 1 ≠ 0 → lots ≠ [] → Hit T2 := fun _ hne => hhit2 fun h => hne (List.eq_nil_of_length_eq_zero h)
      have sep3 : Sep T2 ((lo, o0) :: (L' + 1, o0) :: (ll, o0) :: news) := fun q hq => hsep2 q (.tail _ hq)
      have offI : ∀ p ∈ T2 ++ news, p.1 ≠ I := fun p hp => (List.mem_append.mp hp).elim (fun hp => hsep2 _ (.head _) p hp) fun hp => offT p (List.mem_append_right _ hp)
      k_steps
      all_goals (rename Fr _ _ _ _ => F6; rename News _ _ _ _ => N6; rename decide _ = _ => hdec)
      · refine ⟨_, _, _, (lo, W.listOf (List.toArray vs1) n1) :: (L' + 1, oc2) :: (ll, W.listOf (List.toArray vs) nl) :: (T2 ++ news), rfl, F6, cb_drop N6 (by kcf_all), ⟨o1, o2, o3, off1_of offI⟩, trivial, rfl, T2, vs1, n1, oc2, _, rfl, dc2, ?_, hmd2, hit3, sep3, hth1.trans hth2⟩
        rw [grownTo_no (by unfold covered; rw [← dec_nil, hdec]; rfl)]
        exact hI1
      · rename IntsAre _ _ => I6
        refine ⟨_, _, _, (lo, _) :: (L' + 1, oc2) :: (ll, W.listOf (List.toArray vs) nl) :: (T2 ++ news), rfl, F6, cb_drop N6 (by kcf_all), ⟨o1, o2, o3, off1_of offI⟩, trivial, rfl, T2, _, _, oc2, _, rfl, dc2, ?_, hmd2, hit3, sep3, hth1.trans hth2⟩
        rw [grownTo_yes (by unfold covered; rw [← dec_nil, hdec]; rfl)]
        exact I6
  case done =>
    intro h tk m₁ nw hj F1 N1
    obtain ⟨rfl, T1, vs1, n1, oc, v0, rfl, hoc, hI1, hmd1, hhit1, hsep1, hth1⟩ := hj
    dsimp only
    k_steps
    rename Fr _ _ _ _ => F6
    rename News _ _ _ _ => N6
    exact ret T1 lo vs1 n1 _ _ F6 (cb_drop N6 (by kcf_all)) hI1 hmd1 (hhit1 (by decide)) (fun q hq => by
      rcases List.mem_cons.mp hq with rfl | hq
      · exact hsep1 _ (.head _)
      · exact hsep1 q (.tail _ (.tail _ hq))) hlllo (fun q hq => Nat.lt_trans (hTn q (List.mem_append_right _ hq)) (by omega)) (fun q hq => Nat.lt_trans (hTn q (List.mem_append_left _ hq)) (by omega)) hth1
end
section
theorem fresh_11 : True := by
  w_top off
  trivial
local macro_rules | `(tactic| k_room) => `(tactic| ktr_room)
local macro_rules | `(tactic| k_all) => `(tactic| first | (refine off_tail (by assumption) ?_; omega) | assumption)
local macro_rules | `(tactic| walk_at "exec FunctionDef") => `(tactic| (k_here; kn_here; k_dflt (refine' nestDef_K ?d0 ?k0 ?a0 ?_; (case d0 => exact rfl); (case k0 => exact rfl); (case a0 => exact rfl)); k_dflt (refine' def_uni ?F ?N ?T ?C ?cd ?U ?hm ?hs ?cl ?_; (case F => k_asm); (case N => k_asm); (case T => k_asm); (case cd => exact rfl); (case C => kn_code); (case U => k_updF); (case hm => assumption); (case hs => kcf_all); (case cl => exact rfl); k_whole); intro f' c' oc' vs' t' ct' dc' h' tk' F' N' d1' d2' l1 l2 l3 l4; (try dsimp only at N'); (try k_lt l1); (try k_lt2 l2); replace l3 := Or.imp id allLt_of l3; (try simp only [AllLt, and_true] at l3); replace l4 := Or.imp (fun hh => And.intro hh.1 (allLt_of hh.2)) id l4; (try simp only [AllLt, and_true] at l4)))
local macro_rules | `(tactic| walk_at "binaryOp Mult ref int") => `(tactic| (rw [(by assumption : Int.fdiv (_ + 1 - 1) 1 = _)]))
local macro_rules | `(tactic| walk_at "call ref") => `(tactic| (k_here; k_dflt (refine' bisect_w ?tB ?tF ?tX ?tN ?tT ?tck ?tm ?ys ?yl ?tdp ?tun ?_; (case tB => k_asm); (case tF => k_asm); (case tX => k_asm); (case tN => k_asm); (case tT => k_asm); (case tck => first | exact rfl | assumption); (case tm => first | assumption | k_mem); (case ys => assumption); (case yl => assumption); (case tdp => ktr_room); (case tun => ktr_units); k_whole); intro t' h' tk' F' N'))
local macro_rules | `(tactic| walk_at "exec For Name Name cons nil") => `(tactic| (refine held_out ?_))
local macro_rules | `(tactic| walk_at "call builtin:len") => `(tactic| (k_here; (with_reducible show wpAny _ _ (call (Value.builtin "len") [Value.ref _]) _ _ _); k_dflt (refine' len_w ?N ?m ?I ?b ?_; (case N => k_asm); (case m => first | assumption | k_mem); (case I => assumption); (case b => assumption); k_whole); intro t' tk'))
local macro_rules | `(tactic| walk_at "subscriptTail") => `(tactic| (k_here; (with_reducible show wpAny _ _ (subscriptTail _ _ (Value.ref _) (Value.int _ _)) _ _ _); k_dflt (refine' item_w ?bN ?bm ?bI ?bb ?b0 ?bk ?_ ?bs; (case bN => k_asm); (case bm => first | assumption | k_mem); (case bI => assumption); (case bb => assumption); (case b0 => assumption); (case bk => first | assumption | omega); (case bs => with_unfolding_all rfl); k_whole); intro t'))

/-- lot stands in other, as _law_both finds it -/
def stands (other : List Int) (lot : Int) : Bool := decide (bis other lot < (other.length : Int)) && (other.getD (bis other lot).toNat 0 == lot)
def bothF (one other : List Int) : List Int := one.filter (fun lot => stands other lot)

theorem stands_yes {other : List Int} {k : Int} (h1 : bis other k < (other.length : Int)) (h2 : other.getD (bis other k).toNat 0 = k) : stands other k = true := by
  unfold stands; rw [decide_eq_true h1, h2]; simp
theorem stands_no {other : List Int} {k : Int} (h2 : ¬ other.getD (bis other k).toNat 0 = k) : stands other k = false := by
  unfold stands; rw [beq_eq_false_iff_ne.mpr h2, Bool.and_false]
theorem stands_out {other : List Int} {k : Int} (h1 : ¬ bis other k < (other.length : Int)) : stands other k = false := by
  unfold stands; rw [decide_eq_false h1, Bool.false_and]
theorem both_k (w : World) (one other : List Int) (vs1 vs2 : List Value) (h1 : IntsAre vs1 one) (h2 : IntsAre vs2 other) (hl1 : one.length ≤ 8) (hl2 : other.length ≤ 1000) (n1 n2 : Nat) (l1 l2 : Addr) (nw : List (Addr × Obj))
    (p : Program) (loose : List PySem.Str) (mean : ExcName → Option Value) (mg mb : PySem.Str → Option Value)
    (dp un : Nat) (gd : Option (List Code)) (cn : PySem.Str) (cs : Scope) (a : Addr) (ccd : Value) (cl : List (PySem.Str × Addr)) (outer : List Env) (A₀ : Around) (base h₀ : Heap) (L : Addr) (m : PySem.Str → Option Value) (s : Shared) (Q E : Value → Shared → Prop)
    (B : Below A₀ base outer h₀) (F : Fr h₀ L s.heap m) (X : (hd.heap_39 w.params).In h₀) (N : News h₀ L s.heap nw) (Tp : Top p loose mean mg mb h₀) (hck : cs.kind = .function)
    (hm1 : (l1, W.listOf (List.toArray vs1) n1) ∈ nw) (hm2 : (l2, W.listOf (List.toArray vs2) n2) ∈ nw) (hne : @Ne Nat l1 l2)
    (hdp : dp + 30 < recursionLimit) (hun : un + 150 < cLine)
    (ret : ∀ l vs' n h' tk', Fr h₀ L h' m → News h₀ L h' ((l, W.listOf (List.toArray vs') n) :: nw) → IntsAre vs' (bothF one other) → (∀ q ∈ nw, @LT.lt Nat _ q.1 l) → Q (.ref l) { s with heap := h', toks := tk' }) :
    wpAny (model PR w) (ktrTop dp un gd cn cs L a ccd cl outer) (call (.ref 65) [.ref l1, .ref l2]) Q E s := by
  refine wpAny_call ?_
  (first | k_dflt cell_enter | fail "not entered")
  k_steps
  rename_i g' L' hX FG' B' X' T' lf hA lB hC FF NN
  have hnf : ∀ q ∈ nw, @LT.lt Nat _ q.1 lf := lB
  have hnf' : ∀ q ∈ nw, q.1 ≠ lf := fun q hq => Nat.ne_of_lt (hnf q hq)
  unfold Held
  refine for_list (ax := l1) (its := vs1.toArray) (fun i m₁ nw' => m₁ (PySem.Str.ofString "found") = some (.ref lf) ∧ m₁ (PySem.Str.ofString "other") = some (.ref l2) ∧ ∃ vs3 n3, nw' = (lf, W.listOf (List.toArray vs3) n3) :: nw ∧ IntsAre vs3 ((one.take i).filter (fun lot => stands other lot))) rfl rfl FF NN (.inr ⟨W.listOf vs1.toArray n1, .tail _ hm1, rfl, n1, rfl⟩) ?hit ⟨rfl, rfl, [], 0, rfl, .nil⟩ ?turn ?done
  case hit => intro Q' E'' hq; walk1; exact hq
  case turn =>
    intro i v m₁ nw' I oI h tk E' hi hv hj hS F1 N1 off1
    obtain ⟨hmf, hmo, vs3, n3, rfl, hI3⟩ := hj
    obtain ⟨k, t, rfl, hk⟩ := IntsAre.at h1 i v (by simpa using hv)
    rw [fr_shape hmf hmo] at F1
    have hb0 := bis_lo other k
    have hb1 := bis_hi other k
    have hoI : @Ne Nat lf I := off1.1
    have hsz3 : ((one.take i).filter (fun lot => stands other lot)).length ≤ 8 := by
      have a1 := List.length_filter_le (fun lot => stands other lot) (one.take i)
      have a2 := List.length_take_le' i one
      omega
    have hl3 := hI3.length
    have hm2' : (l2, W.listOf (List.toArray vs2) n2) ∈ (I, oI) :: (lf, W.listOf (List.toArray vs3) n3) :: nw := .tail _ (.tail _ hm2)
    refine wpAny_assign_Name ?_
    k_steps
    all_goals (rename Fr _ _ _ _ => F6; rename News _ _ _ _ => N6)
    · try simp only [List.push_toArray] at N6
      refine ⟨_, _, _, (lf, W.listOf (List.toArray (vs3 ++ [Value.int k t])) (n3 + 1)) :: nw, rfl, F6, (by first | exact N6 | simpa only [List.push_toArray] using N6 | simpa using N6), off1, .inr ⟨W.listOf vs1.toArray n1, .tail _ hm1, rfl, n1, rfl⟩, rfl, rfl, _, _, rfl, ?_⟩
      rw [take_succ_filter _ one i k hk, stands_yes (by assumption) (by assumption), if_pos rfl]
      exact ints_snoc hI3 k t
    · refine ⟨_, _, _, (lf, W.listOf (List.toArray vs3) n3) :: nw, rfl, F6, N6, off1, .inr ⟨W.listOf vs1.toArray n1, .tail _ hm1, rfl, n1, rfl⟩, rfl, rfl, _, _, rfl, ?_⟩
      rw [take_succ_filter _ one i k hk, stands_no (by assumption), if_neg Bool.false_ne_true, List.append_nil]
      exact hI3
    · refine ⟨_, _, _, (lf, W.listOf (List.toArray vs3) n3) :: nw, rfl, F6, N6, off1, .inr ⟨W.listOf vs1.toArray n1, .tail _ hm1, rfl, n1, rfl⟩, rfl, rfl, _, _, rfl, ?_⟩
      rw [take_succ_filter _ one i k hk, stands_out (by assumption), if_neg Bool.false_ne_true, List.append_nil]
      exact hI3
  case done =>
    intro h tk m₁ nw' hj hS F1 N1
    obtain ⟨hmf, hmo, vs3, n3, rfl, hI3⟩ := hj
    rw [fr_shape hmf hmo] at F1
    k_steps
    rename Fr _ _ _ _ => F6
    rename News _ _ _ _ => N6
    refine ret lf vs3 n3 _ _ F6 N6 ?_ hnf
    unfold bothF
    rw [List.size_toArray, h1.length, List.take_length] at hI3
    exact hI3
end
section
theorem fresh_12 : True := by
  w_top off
  trivial

/-! the contracts as the law's body uses them -/
section
variable {w : World} {lot : Int} {tok : Tok} {nw : List (Addr × Obj)} {p : Program} {loose : List PySem.Str} {mean : ExcName → Option Value} {mg mb : PySem.Str → Option Value}
  {dp un : Nat} {gd : Option (List Code)} {cn : PySem.Str} {cs : Scope} {a : Addr} {ccd : Value} {cl : List (PySem.Str × Addr)} {outer : List Env} {A₀ : Around} {base h₀ : Heap} {L : Addr} {m : PySem.Str → Option Value} {s : Shared} {Q E : Value → Shared → Prop}
theorem grown_first {lots : List Int} {vs : List Value} {nl : Nat} {ll : Addr} {g : Obj → List (Addr × Obj)} (B : Below A₀ base outer h₀) (F : Fr h₀ L s.heap m) (X : (hd.heap_39 w.params).In h₀) (N : News h₀ L s.heap nw) (Tp : Top p loose mean mg mb h₀) (hck : cs.kind = .function)
    (C : CodeHd base 20 16) (U : UpdF 16 (tabObj #[]) nw g) (hll : (ll, W.listOf (List.toArray vs) nl) ∈ nw) (hvs : IntsAre vs lots) (hlots : ∀ k ∈ lots, 0 ≤ k ∧ k < 8) (hlen : lots.length ≤ 8) (hne : lots ≠ []) (hl16 : @LT.lt Nat _ 16 ll)
    (hdp : dp + 30 < recursionLimit) (hun : un + 150 < cLine)
    (ret : ∀ c' oc l vs' n h' tk', Fr h₀ L h' m → News h₀ L h' ((l, W.listOf (List.toArray vs') n) :: (c', oc) :: g (tab16 c')) → IntsAre vs' (grownTo lots 8) → CodeO QInner oc → (@Ne Nat c' 16) → (@Ne Nat c' l) → (∀ q ∈ nw, @Ne Nat q.1 c') → (∀ q ∈ nw, @LT.lt Nat _ q.1 l) → Q (.ref l) { s with heap := h', toks := tk' }) :
    wpAny (model PR w) (ktrTop dp un gd cn cs L a ccd cl outer) (call (.ref 58) [.ref ll]) Q E s := by
  obtain ⟨pre, post, rfl, hg, hpre, hpost⟩ := U.split
  have h16 : ∀ q ∈ pre ++ post, @Ne Nat 16 q.1 := fun q hq => Ne.symm ((List.mem_append.mp hq).elim (hpre q) (hpost q))
  have hmem : ∀ q ∈ pre ++ (16, tabObj #[]) :: post, q = (16, tabObj #[]) ∨ q ∈ pre ++ post := fun q hq => by
    rcases List.mem_append.mp hq with hq | hq
    · exact .inr (List.mem_append_left _ hq)
    · rcases List.mem_cons.mp hq with rfl | hq
      · exact .inl rfl
      · exact .inr (List.mem_append_right _ hq)
  refine grown_k w lots vs hvs hlots hlen nl ll [(16, tabObj #[])] (pre ++ post) p loose mean mg mb dp un gd cn cs a ccd cl outer A₀ base h₀ L m s Q E B F X ?_ Tp hck C (.inl rfl) ?_ hl16 hdp hun ?_
  · intro q hq
    rcases List.mem_cons.mp hq with rfl | hq
    · exact N _ hll
    · rcases List.mem_cons.mp hq with rfl | hq
      · exact N _ (by simp)
      · refine N _ ?_
        rcases List.mem_append.mp (show q ∈ pre ++ post from hq) with h | h
        · exact List.mem_append_left _ h
        · exact List.mem_append_right _ (.tail _ h)
  · intro q hq p' hp
    rw [List.mem_singleton.mp hp]
    rcases List.mem_cons.mp hq with rfl | hq
    · exact Nat.ne_of_lt hl16
    · exact h16 q hq
  · intro T' l vs' n h' tk' F' N' I _ hhit sep hl hn _ _
    obtain ⟨c', oc, rfl, hcd, hc16⟩ := hhit hne
    refine ret c' oc l vs' n h' tk' F' (fun q hq => N' q ?_) I hcd hc16 (sep _ (.head _) _ (.tail _ (.head _))) (fun q hq => ?_) fun q hq => ?_
    · rw [hg] at hq
      simp only [List.mem_cons, List.mem_append, List.not_mem_nil] at hq ⊢
      rcases hq with h | h | h | h | h <;> simp [h]
    · rcases hmem q hq with rfl | hq
      · exact Ne.symm hc16
      · exact Ne.symm (sep _ (.tail _ (.tail _ hq)) _ (.tail _ (.head _)))
    · rcases hmem q hq with rfl | hq
      · exact Nat.lt_trans hl16 hl
      · exact hn q hq

theorem grown_hit {lots : List Int} {vs : List Value} {nl : Nat} {ll : Addr} (B : Below A₀ base outer h₀) (F : Fr h₀ L s.heap m) (X : (hd.heap_39 w.params).In h₀) (N : News h₀ L s.heap nw) (Tp : Top p loose mean mg mb h₀) (hck : cs.kind = .function)
    (C : CodeHd base 20 16) {c0 : Addr} {oc0 : Obj} (h1 : (16, tab16 c0) ∈ nw) (h2 : (c0, oc0) ∈ nw) (hcd : CodeO QInner oc0) (hc16 : @Ne Nat c0 16)
    (hll : (ll, W.listOf (List.toArray vs) nl) ∈ nw) (hvs : IntsAre vs lots) (hlots : ∀ k ∈ lots, 0 ≤ k ∧ k < 8) (hlen : lots.length ≤ 8) (hl16 : @LT.lt Nat _ 16 ll) (hlc : @Ne Nat c0 ll)
    (hdp : dp + 30 < recursionLimit) (hun : un + 150 < cLine)
    (ret : ∀ l vs' n h' tk', Fr h₀ L h' m → News h₀ L h' ((l, W.listOf (List.toArray vs') n) :: nw) → IntsAre vs' (grownTo lots 8) → (∀ q ∈ nw, @LT.lt Nat _ q.1 l) → Q (.ref l) { s with heap := h', toks := tk' }) :
    wpAny (model PR w) (ktrTop dp un gd cn cs L a ccd cl outer) (call (.ref 58) [.ref ll]) Q E s := by
  have hR : ∀ q ∈ nw.filter (fun q => decide (¬ (@Eq Nat q.1 16 ∨ @Eq Nat q.1 c0))), q ∈ nw ∧ @Ne Nat q.1 16 ∧ @Ne Nat q.1 c0 := fun q hq => by
    obtain ⟨a1, a2⟩ := List.mem_filter.mp hq
    have a3 := of_decide_eq_true a2
    exact ⟨a1, fun e => a3 (.inl e), fun e => a3 (.inr e)⟩
  have only : ∀ q ∈ nw, q = (16, tab16 c0) ∨ q = (c0, oc0) ∨ q ∈ nw.filter (fun q => decide (¬ (@Eq Nat q.1 16 ∨ @Eq Nat q.1 c0))) := fun q hq => by
    by_cases e1 : @Eq Nat q.1 16
    · have z1 := (N _ h1).1
      have z2 := (N _ hq).1
      rw [show q.1 = (16 : Nat) from e1, z1] at z2
      exact .inl (Prod.ext e1 (Option.some.inj z2).symm)
    · by_cases e2 : @Eq Nat q.1 c0
      · have z1 := (N _ h2).1
        have z2 := (N _ hq).1
        rw [show q.1 = c0 from e2, z1] at z2
        exact .inr (.inl (Prod.ext e2 (Option.some.inj z2).symm))
      · exact .inr (.inr (List.mem_filter.mpr ⟨hq, decide_eq_true (fun h => h.elim e1 e2)⟩))
  refine grown_k w lots vs hvs hlots hlen nl ll [(16, tab16 c0), (c0, oc0)] (nw.filter (fun q => decide (¬ (@Eq Nat q.1 16 ∨ @Eq Nat q.1 c0)))) p loose mean mg mb dp un gd cn cs a ccd cl outer A₀ base h₀ L m s Q E B F X ?_ Tp hck C (.inr ⟨c0, oc0, rfl, hcd, hc16⟩) ?_ hl16 hdp hun ?_
  · intro q hq
    rcases List.mem_cons.mp hq with rfl | hq
    · exact N _ hll
    · rcases List.mem_append.mp hq with hq | hq
      · rcases List.mem_cons.mp hq with rfl | hq
        · exact N _ h1
        · rw [List.mem_singleton.mp hq]; exact N _ h2
      · exact N _ (hR q hq).1
  · intro q hq p' hp
    rcases List.mem_cons.mp hp with rfl | hp
    · rcases List.mem_cons.mp hq with rfl | hq
      · exact Nat.ne_of_lt hl16
      · exact Ne.symm (hR q hq).2.1
    · rw [List.mem_singleton.mp hp]
      rcases List.mem_cons.mp hq with rfl | hq
      · exact hlc
      · exact Ne.symm (hR q hq).2.2
  · intro T' l vs' n h' tk' F' N' I _ _ sep hl hn hT th
    obtain rfl := th.hit ⟨c0, oc0, rfl, hcd, hc16⟩
    refine ret l vs' n h' tk' F' (fun q hq => N' q ?_) I fun q hq => ?_
    · rcases List.mem_cons.mp hq with rfl | hq
      · exact .head _
      · rcases only q hq with rfl | rfl | hq
        · exact .tail _ (.tail _ (.head _))
        · exact .tail _ (.tail _ (.tail _ (.head _)))
        · exact .tail _ (.tail _ (List.mem_append_right _ hq))
    · rcases only q hq with rfl | rfl | hq
      · exact Nat.lt_trans hl16 hl
      · exact hT _ (.tail _ (.head _))
      · exact hn q hq

/-! _digits2int's table -/
abbrev tab23 (c' : Addr) : Obj := tabObj #[rawInt 20, rawInt 4, .ref c']
def Hit23 (T : List (Addr × Obj)) : Prop := ∃ c' oc, T = [(23, tab23 c'), (c', oc)] ∧ CodeO QInnerD oc ∧ @Ne Nat c' 23
def Md23 (T : List (Addr × Obj)) : Prop := T = [(23, tabObj #[])] ∨ Hit23 T

theorem bits_three {vs : List Value} {lot : Int} (I : IntsAre vs (bits lot)) : ∃ t0 t1 t2, vs = [.int (lot % 2) t0, .int (lot / 2 % 2) t1, .int (lot / 4 % 2) t2] := by
  unfold bits at I
  cases I with | cons a t0 I => cases I with | cons a t1 I => cases I with | cons a t2 I => cases I with | nil => exact ⟨t0, t1, t2, rfl⟩

theorem digits_w {l : Addr} {vs : List Value} {n : Nat} {T rest : List (Addr × Obj)} {g : List (Addr × Obj) → List (Addr × Obj)} (hlo : 0 ≤ lot) (hhi : lot < 8) (B : Below A₀ base outer h₀) (F : Fr h₀ L s.heap m) (X : (hd.heap_39 w.params).In h₀) (N : News h₀ L s.heap nw) (Tp : Top p loose mean mg mb h₀) (hck : cs.kind = .function)
    (C : CodeHd base 27 23) (U : TailF T rest nw g) (md : Md23 T) (sep : Sep T (g [])) (hl : (l, W.listOf (List.toArray vs) n) ∈ g []) (I : IntsAre vs (bits lot)) (h23 : @LT.lt Nat _ 23 l)
    (hdp : dp + 20 < recursionLimit) (hun : un + 100 < cLine)
    (ret : ∀ T' r h' tk', Fr h₀ L h' m → News h₀ L h' (g T') → Hit23 T' → Sep T' (g []) → Q (.int lot r) { s with heap := h', toks := tk' }) :
    wpAny (model PR w) (ktrTop dp un gd cn cs L a ccd cl outer) (call (.ref 28) [.ref l, .int 1 tok]) Q E s := by
  obtain ⟨t0, t1, t2, rfl⟩ := bits_three I
  have e1 : lot % 2 + 2 * (lot / 2 % 2) + 4 * (lot / 4 % 2) = lot := by omega
  have finish : ∀ {T' : List (Addr × Obj)} {r : Tok} {h' : Heap} {tk' : Nat}, Fr h₀ L h' m → News h₀ L h' (g T') → Hit23 T' → Sep T' (g []) → Q (.int (lot % 2 + 2 * (lot / 2 % 2) + 4 * (lot / 4 % 2)) r) { s with heap := h', toks := tk' } := fun F' N' H S' => by
    rw [e1]; exact ret _ _ _ _ F' N' H S'
  rcases md with rfl | ⟨c0, oc0, rfl, hcd, hc23⟩
  · obtain ⟨Mx, oM, hM1, hM2, hM3⟩ := max_of (g []) ⟨_, hl, Nat.lt_trans (by decide) h23⟩
    have hlM : @LE.le Nat _ l Mx := hM2 _ hl
    refine digits_claim w (lot % 2) (lot / 2 % 2) (lot / 4 % 2) (by omega) (by omega) (by omega) (by omega) (by omega) (by omega) t0 t1 t2 tok n l (g []) p loose mean mg mb dp un gd cn cs a ccd cl outer A₀ base h₀ L m s Q E Mx oM (tabObj #[]) B F X ?_ Tp hck C (.inl rfl) hM2 hlM (Nat.lt_of_lt_of_le h23 hlM) (Nat.ne_of_gt h23) (fun q hq => Ne.symm (sep q hq _ (.head _))) hdp hun ?_
    · intro q hq
      rcases List.mem_cons.mp hq with rfl | hq
      · exact N _ (U.inT _ (.head _))
      · rcases List.mem_cons.mp hq with rfl | hq
        · exact N _ (U.inR _ hl)
        · rcases List.mem_cons.mp hq with rfl | hq
          · exact N _ (U.inR _ hM1)
          · exact N _ (U.inR _ hq)
    · intro c' oc vs' t r h' tk' F' N' d1 d2 o2 o3
      have hc : @LT.lt Nat _ Mx c' := by
        rcases o2 with h | h
        · exact h.2
        · cases h.1
      have h23c : @LT.lt Nat _ 23 c' := Nat.lt_trans (Nat.lt_of_lt_of_le h23 hlM) hc
      refine finish (T' := [(23, tab23 c'), (c', oc)]) F' (fun q hq => N' q ?_) ⟨c', oc, rfl, ⟨_, _, d1, d2⟩, Nat.ne_of_gt h23c⟩ ?_
      · rcases U.out _ q hq with h | h
        · rcases List.mem_cons.mp h with rfl | h
          · exact .head _
          · rw [List.mem_singleton.mp h]; exact .tail _ (.head _)
        · exact .tail _ (.tail _ (.tail _ (.tail _ h)))
      · intro q hq p' hp
        rcases List.mem_cons.mp hp with rfl | hp
        · exact sep q hq (23, tabObj #[]) (.head _)
        · rw [List.mem_singleton.mp hp]
          exact Nat.ne_of_gt (Nat.lt_of_le_of_lt (hM2 q hq) hc)
  · obtain ⟨Mx, oM, hM1, hM2, hM3⟩ := max_of ((c0, oc0) :: g []) ⟨_, .tail _ hl, Nat.lt_trans (by decide) h23⟩
    have hlM : @LE.le Nat _ l Mx := hM2 _ (.tail _ hl)
    obtain ⟨vs0, t00, hd1, hd2⟩ := hcd
    have hin : ∀ q ∈ (c0, oc0) :: g [], q ∈ nw := fun q hq => by
      rcases List.mem_cons.mp hq with rfl | hq
      · exact U.inT _ (.tail _ (.head _))
      · exact U.inR _ hq
    refine digits_claim w (lot % 2) (lot / 2 % 2) (lot / 4 % 2) (by omega) (by omega) (by omega) (by omega) (by omega) (by omega) t0 t1 t2 tok n l ((c0, oc0) :: g []) p loose mean mg mb dp un gd cn cs a ccd cl outer A₀ base h₀ L m s Q E Mx oM (tab23 c0) B F X ?_ Tp hck C (.inr ⟨c0, oc0, vs0, t00, rfl, .head _, hM2 _ (.head _), hd1, hd2⟩) hM2 hlM (Nat.lt_of_lt_of_le h23 hlM) (Nat.ne_of_gt h23) ?_ hdp hun ?_
    · intro q hq
      rcases List.mem_cons.mp hq with rfl | hq
      · exact N _ (U.inT _ (.head _))
      · rcases List.mem_cons.mp hq with rfl | hq
        · exact N _ (U.inR _ hl)
        · rcases List.mem_cons.mp hq with rfl | hq
          · exact N _ (hin _ hM1)
          · exact N _ (hin _ hq)
    · intro q hq
      rcases List.mem_cons.mp hq with rfl | hq
      · exact hc23
      · exact Ne.symm (sep q hq _ (.head _))
    · intro c' oc vs' t r h' tk' F' N' d1 d2 o2 o3
      obtain rfl : c0 = c' := by
        rcases o2 with h | h
        · cases h.1
        · have := h.1
          simp [tabObj] at this
          exact this
      have hoc : oc = oc0 := by
        have z1 := (N' (c0, oc) (.tail _ (.head _))).1
        have z2 := (N' (c0, oc0) (.tail _ (.tail _ (.tail _ (.tail _ (.head _)))))).1
        exact Option.some.inj (z1.symm.trans z2)
      subst hoc
      refine finish (T' := [(23, tab23 c0), (c0, oc)]) F' (fun q hq => N' q ?_) ⟨c0, oc, rfl, ⟨_, _, d1, d2⟩, hc23⟩ sep
      rcases U.out _ q hq with h | h
      · rcases List.mem_cons.mp h with rfl | h
        · exact .head _
        · rw [List.mem_singleton.mp h]; exact .tail _ (.head _)
      · exact .tail _ (.tail _ (.tail _ (.tail _ (.tail _ h))))
end
end
section
theorem fresh_13 : True := by
  w_top off
  trivial

/-! comprehensions with two clauses whose test never holds -/
section
variable {prog : Program} {w : World} {A : Around} {E : Value → Shared → Prop} {R : Result → Shared → Prop} {s : Shared}
variable {elt t0 it0 t1 it1 ct : Expr} {scope : Scope} {pos : Pos} {it acc : Value} {env : Env}

theorem compTurn2_in (elt t0 it0 t1 it1 ct : Expr) (scope : Scope) (pos : Pos) (it acc : Value) (env : Env) :
    compTurn (.ListComp elt [⟨t0, it0, [], 0⟩, ⟨t1, it1, [ct], 0⟩] scope pos) 1 it acc env = (do
      standAt it1.pos
      match ← pyNext it with
      | none => pure (.done .next)
      | some v =>
        letOwnedTupleGo t1 it v
        assign t1 env v
        let mut ok := true
        for c in [ct] do
          if ok then ok ← isTrue c env (eval c env)
        if ok then
          (do let _ ← call (.builtin "list.append") [acc, ← eval elt env])
        again (.compLoop (.ListComp elt [⟨t0, it0, [], 0⟩, ⟨t1, it1, [ct], 0⟩] scope pos) 1 it acc env)) := by rfl

theorem compTurn2_out (elt t0 it0 t1 it1 ct : Expr) (scope : Scope) (pos : Pos) (it acc : Value) (env : Env) :
    compTurn (.ListComp elt [⟨t0, it0, [], 0⟩, ⟨t1, it1, [ct], 0⟩] scope pos) 0 it acc env = (do
      standAt it0.pos
      match ← pyNext it with
      | none => pure (.done .next)
      | some v =>
        letOwnedTupleGo t0 it v
        assign t0 env v
        let mut ok := true
        for c in ([] : List Expr) do
          if ok then ok ← isTrue c env (eval c env)
        if ok then
          let x ← eval it1 env
          standAt it1.pos
          let x ← foldedSetIterable it1 env x
          let _ ← runOwn (.compStart (.ListComp elt [⟨t0, it0, [], 0⟩, ⟨t1, it1, [ct], 0⟩] scope pos) 1 (← holding [x] (pyIter x)) acc env) env
        again (.compLoop (.ListComp elt [⟨t0, it0, [], 0⟩, ⟨t1, it1, [ct], 0⟩] scope pos) 0 it acc env)) := by rfl

theorem codeAny_comp2_in (I : Nat → Shared → Prop)
    (turn : ∀ n s, I n s → wpAny (model prog w) A (pyNext it) (fun r s₁ => match r with
      | none => R (.ok .next) s₁
      | some v => wpAny (model prog w) A (assign t1 env v) (fun _ s₂ => wpAny (model prog w) A (isTrue ct env (eval ct env)) (fun ok s₃ => ok = false ∧ ∃ m, m < n ∧ I m s₃)
          (notedBy (model prog w) A env fun e s' => R (.error e) s') s₂) (notedBy (model prog w) A env fun e s' => R (.error e) s') s₁) (notedBy (model prog w) A env fun e s' => R (.error e) s') s)
    (n : Nat) (h : I n s) (ht : ∀ v, letOwnedTupleGo t1 it v = pure () := by intro _; rfl) :
    codeAny (model prog w) A (.compLoop (.ListComp elt [⟨t0, it0, [], 0⟩, ⟨t1, it1, [ct], 0⟩] scope pos) 1 it acc env) R s := by
  refine codeAny_loop rfl I (fun n s hI => ?_) n h
  show wpAny _ A ((compTurn (.ListComp elt [⟨t0, it0, [], 0⟩, ⟨t1, it1, [ct], 0⟩] scope pos) 1 it acc env).onRaise (fun x => do noteFrame x env; theTreesLotGoes x)) _ _ s
  refine wpAny_noted ?_
  rw [compTurn2_in]
  refine wpAny_bind (wpAny_standAt (wpAny_bind (wpAny_mono (turn n s hI) (fun r s₁ h₁ => ?_) fun _ _ h' => h')))
  cases r with
  | none => exact wpAny_pure h₁
  | some v =>
    refine wpAny_bind (wpAny_of_eq (ht v) ?_)
    refine wpAny_bind (wpAny_mono h₁ (fun _ s₂ h₂ => wpAny_bind (wpAny_tests_one (wpAny_mono h₂ (fun ok s₃ h₃ => ?_) fun _ _ h' => h'))) fun _ _ h' => h')
    obtain ⟨rfl, h₃⟩ := h₃
    exact wpAny_pure ⟨rfl, h₃⟩

theorem codeAny_comp2_out (I : Nat → Shared → Prop)
    (turn : ∀ n s, I n s → wpAny (model prog w) A (pyNext it) (fun r s₁ => match r with
      | none => R (.ok .next) s₁
      | some v => wpAny (model prog w) A (assign t0 env v) (fun _ s₂ => wpAny (model prog w) A (eval it1 env) (fun x s₃ => wpAny (model prog w) A (pyIter x) (fun J s₄ =>
          codeAny (model prog w) A (.compStart (.ListComp elt [⟨t0, it0, [], 0⟩, ⟨t1, it1, [ct], 0⟩] scope pos) 1 J acc env) (fun r s' => match r with
            | .ok _ => ∃ m, m < n ∧ I m s'
            | .error e => cameBackBy (model prog w) A env (notedBy (model prog w) A env fun e s' => R (.error e) s') e s') s₄)
          (notedBy (model prog w) A env fun e s' => R (.error e) s') s₃) (notedBy (model prog w) A env fun e s' => R (.error e) s') s₂) (notedBy (model prog w) A env fun e s' => R (.error e) s') s₁) (notedBy (model prog w) A env fun e s' => R (.error e) s') s)
    (n : Nat) (h : I n s) (ht : ∀ v, letOwnedTupleGo t0 it v = pure () := by intro _; rfl) (hf : ∀ x, foldedSetIterable it1 env x = pure x := by intro _; rfl) :
    codeAny (model prog w) A (.compLoop (.ListComp elt [⟨t0, it0, [], 0⟩, ⟨t1, it1, [ct], 0⟩] scope pos) 0 it acc env) R s := by
  refine codeAny_loop rfl I (fun n s hI => ?_) n h
  show wpAny _ A ((compTurn (.ListComp elt [⟨t0, it0, [], 0⟩, ⟨t1, it1, [ct], 0⟩] scope pos) 0 it acc env).onRaise (fun x => do noteFrame x env; theTreesLotGoes x)) _ _ s
  refine wpAny_noted ?_
  rw [compTurn2_out]
  refine wpAny_bind (wpAny_standAt (wpAny_bind (wpAny_mono (turn n s hI) (fun r s₁ h₁ => ?_) fun _ _ h' => h')))
  cases r with
  | none => exact wpAny_pure h₁
  | some v =>
    refine wpAny_bind (wpAny_of_eq (ht v) ?_)
    refine wpAny_bind (wpAny_mono h₁ (fun _ s₂ h₂ => wpAny_bind (wpAny_tests_nil ?_)) fun _ _ h' => h')
    simp only [if_true]
    refine wpAny_bind (wpAny_mono h₂ (fun x s₃ h₃ => ?_) fun _ _ h' => h')
    refine wpAny_bind (wpAny_standAt (wpAny_bind (wpAny_of_eq (hf x) (wpAny_bind (wpAny_holding (wpAny_mono h₃ (fun J s₄ h₄ => ?_) fun _ _ h' => h'))))))
    refine wpAny_bind (wpAny_runOwn (codeAny_mono h₄ fun r s' hr => ?_))
    cases r with
    | ok f => exact wpAny_pure ⟨rfl, hr⟩
    | error e => exact hr

theorem codeAny_compStart2
    (h0 : codeAny (model prog w) A (.compLoop (.ListComp elt [⟨t0, it0, [], 0⟩, ⟨t1, it1, [ct], 0⟩] scope pos) 1 it acc env) R s)
    (h : wpAny (model prog w) A (pyIter it) (fun it' s' => codeAny (model prog w) A (.compLoop (.ListComp elt [⟨t0, it0, [], 0⟩, ⟨t1, it1, [ct], 0⟩] scope pos) 1 it' acc env) R s')
      (notedBy (model prog w) A env fun x s' => R (.error x) s') s) :
    codeAny (model prog w) A (.compStart (.ListComp elt [⟨t0, it0, [], 0⟩, ⟨t1, it1, [ct], 0⟩] scope pos) 1 it acc env) R s := by
  refine codeAny_of_tree ?_
  show wpAny _ _ ((compStart (.ListComp elt [⟨t0, it0, [], 0⟩, ⟨t1, it1, [ct], 0⟩] scope pos) 1 it acc env).onRaise (fun x => do noteFrame x env; standAt theWindowsPlace)) _ _ s
  refine wpAny_notedAt ?_
  unfold compStart
  show wpAny _ _ (ask >>= _) _ _ s
  refine wpAny_bind (wpAny_askSetting (wpAny_ite ?_))
  split
  · first
      | exact wpAny_bind (wpAny_pure (wpAny_pure (And.intro rfl h0)))
      | exact wpAny_pure (And.intro rfl h0)
  · first
      | exact wpAny_bind (wpAny_rule (wpAny_bind (wpAny_standAt (wpAny_bind (wpAny_mono h (fun it' s' h' => wpAny_pure (And.intro rfl h')) fun _ _ x => x)))))
      | (refine wpAny_bind (wpAny_rule ?_); show wpAny _ _ (standAt it1.pos >>= _) _ _ s; exact wpAny_bind (wpAny_standAt (wpAny_bind (wpAny_mono h (fun it' s' h' => wpAny_pure (And.intro rfl h')) fun _ _ x => x))))
end

section
variable {prog : Program} {w : World} {A : Around} {E : Value → Shared → Prop} {s : Shared} {h₀ : Heap} {L : Addr} {m : PySem.Str → Option Value} {env : Env}

/-- the second iterable: a range from 0 to 8 -/
def RngTwo (prog : Program) (w : World) (A : Around) (h₀ : Heap) (L : Addr) (m : PySem.Str → Option Value) (env : Env) (it1 : Expr) (scope : Scope) (cl : List (PySem.Str × Addr)) (s : Shared) (news : List (Addr × Obj)) : Prop :=
  ∀ I oI C oC D m₂ h tk (Q' : Value → Shared → Prop) (E' : Value → Shared → Prop), LCg.NsObj oC m₂ → Fr h₀ L h m → News h₀ L h ((I, oI) :: (C, oC) :: (D, LCg.lst []) :: news) →
    (∀ r t u v h' tk', IsRange h' r 0 8 1 t u v → Fr h₀ L h' m → News h₀ L h' ((I, oI) :: (C, oC) :: (D, LCg.lst []) :: news) → Q' (.ref r) { s with heap := h', toks := tk' }) →
    wpAny (model prog w) A (eval it1 (compEnvC scope cl C env)) Q' E' { s with heap := h, toks := tk }
/-- a test that does not hold -/
def TurnTwo (prog : Program) (w : World) (A : Around) (h₀ : Heap) (L : Addr) (m : PySem.Str → Option Value) (env : Env) (ct : Expr) (x y : PySem.Str) (scope : Scope) (cl : List (PySem.Str × Addr)) (s : Shared) (news : List (Addr × Obj)) (n : Nat) (P : Nat → Value → Prop) : Prop :=
  ∀ i v (j : Nat) t I oI J oJ C oC D m₂ h tk (E' : Value → Shared → Prop), i < n → P i v → j < 8 → LCg.NsObj oC m₂ → m₂ x = some v → m₂ y = some (.int (0 + (j : Int)) t) → Fr h₀ L h m → News h₀ L h ((J, oJ) :: (I, oI) :: (C, oC) :: (D, LCg.lst []) :: news) →
    wpAny (model prog w) A (isTrue ct (compEnvC scope cl C env) (eval ct (compEnvC scope cl C env))) (fun ok s' => ok = false ∧ ∃ h' tk', s' = { s with heap := h', toks := tk' } ∧ Fr h₀ L h' m ∧ News h₀ L h' ((J, oJ) :: (I, oI) :: (C, oC) :: (D, LCg.lst []) :: news)) E' { s with heap := h, toks := tk }

theorem block_2 {elt iter it1 ct : Expr} {x y : PySem.Str} {px py : Pos} {scope : Scope} {cl : List (PySem.Str × Addr)} {pos : Pos} {s₂ : Shared} {I : Addr} {fp : List Addr} {n : Nat} {P : Nat → Value → Prop} {St : Nat → Heap → Prop} {news : List (Addr × Obj)} {RR : Value → Addr → Result → Shared → Prop}
    (hh : A.handled = none) (W : Walks prog w A I fp [I] n P St) (hIo : ∀ i h, St i h → ∃ o, h.get? I = some o)
    (hSt : ∀ i h h' o, St i h → h.get? I = some o → h'.get? I = some o → (∀ b o, h₀.get? b = some o → h'.get? b = some o) → News h₀ L h' news → St i h')
    (hcell : ∀ y ∈ scope.names, y.2 ≠ .cell) (hkind : scope.kind = .function) (hx : scope.names.lookup x = some .local) (hy : scope.names.lookup y = some .local) (hxy : x ≠ y) (hst : St 0 s₂.heap) (hfp : ∀ b ∈ fp, b < s₂.heap.objs.size)
    (F : Fr h₀ L s₂.heap m) (N : News h₀ L s₂.heap news) (hIL : L ≠ I) (hI₀ : h₀.get? I = none) (off : ∀ p ∈ news, p.1 ≠ I)
    (rng : RngTwo prog w A h₀ L m env it1 scope cl s₂ news) (turn : TurnTwo prog w A h₀ L m env ct x y scope cl s₂ news n P)
    (hRR : ∀ D C h tk m', Fr h₀ L h m → News h₀ L h ((D, LCg.lst []) :: news) → LCg.Off1 D news → h.Ns C m' → h₀.get? C = none → h₀.get? D = none → C ≠ L → D ≠ L → C ≠ D → (∀ p ∈ news, p.1 ≠ C) → RR (.ref D) C (.ok .next) { s₂ with heap := h, toks := tk })
    (hf : ∀ (e : Env) x, foldedSetIterable it1 e x = pure x := by intro _ _; rfl) :
    wpAny (model prog w) A (newList []) (fun acc s₃ => wpAny (model prog w) A (newFunctionEnv scope env.globals cl [] env.qual none .none (some env)) (fun cenv s₄ =>
      codeAny (model prog w) A (.compStart (.ListComp elt [⟨.Name x px, iter, [], 0⟩, ⟨.Name y py, it1, [ct], 0⟩] scope pos) 0 (.ref I) acc { cenv with scope := relabel scope env }) (RR acc cenv.locals) s₄) E s₃) E s₂ := by
  refine wpAny_newObj_type (wpAny_newFunctionEnv hcell (by intro y hy; simp at hy) (fun h₁ hns₁ hsb₁ => ?_) hkind)
  dsimp only at hns₁ hsb₁ ⊢
  generalize hH2 : s₂.heap.push { cls := .type "list", dict := none, data := .seq ([] : List Value).toArray } = H2 at hns₁ hsb₁ ⊢
  have hC : H2.objs.size = s₂.heap.objs.size + 1 := by rw [← hH2, Heap.size_push]
  have hDC : s₂.heap.objs.size ≠ H2.objs.size := by rw [hC]; exact Nat.ne_of_lt (Nat.lt_succ_self _)
  have below : ∀ b, b < s₂.heap.objs.size → b ≠ H2.objs.size ∧ b ≠ s₂.heap.objs.size := fun b hb => ⟨by rw [hC]; exact Nat.ne_of_lt (Nat.lt_succ_of_lt hb), Nat.ne_of_lt hb⟩
  have hCf : H2.objs.size ∉ fp := fun hm => by have := hfp _ hm; rw [hC] at this; exact Nat.lt_irrefl _ (Nat.lt_of_succ_lt this)
  have hIf : I ∈ fp := W.sub I (List.mem_singleton.mpr rfl)
  have hIlt : I < s₂.heap.objs.size := hfp I hIf
  have old : ∀ b o, s₂.heap.get? b = some o → h₁.get? b = some o := fun b o e => hsb₁.extBut b o (below b (Heap.lt_size e)).1 (Heap.get?_push_of_some _ (hH2 ▸ Heap.get?_push_of_some _ e))
  have hacc : h₁.get? s₂.heap.objs.size = some (LCg.lst []) := hsb₁.extBut _ _ hDC (Heap.get?_push_of_some _ (hH2 ▸ Heap.get?_push_size _ rfl))
  have hst₁ : St 0 h₁ := W.frame _ _ _ hst fun b _ o e => old b o e
  have fresh₀ : ∀ a, s₂.heap.objs.size ≤ a → h₀.get? a = none := fun a ha => by
    cases e : h₀.get? a with
    | none => rfl
    | some o' => exact absurd (Heap.lt_size (F.keep a o' e)) (Nat.not_lt.mpr ha)
  have hD₀ : h₀.get? s₂.heap.objs.size = none := fresh₀ _ (Nat.le_refl _)
  have hC₀ : h₀.get? H2.objs.size = none := fresh₀ _ (by rw [hC]; exact Nat.le_succ _)
  have hLlt : L < s₂.heap.objs.size := F.ns.lt
  have hDL : s₂.heap.objs.size ≠ L := Ne.symm (below L hLlt).2
  have hCL : H2.objs.size ≠ L := Ne.symm (below L hLlt).1
  have hCI : I ≠ H2.objs.size := (below I hIlt).1
  have hDI : I ≠ s₂.heap.objs.size := (below I hIlt).2
  have offC : ∀ p ∈ news, p.1 ≠ H2.objs.size := fun p hp => (below _ (Heap.lt_size (N p hp).1)).1
  have offD : ∀ p ∈ news, p.1 ≠ s₂.heap.objs.size := fun p hp => (below _ (Heap.lt_size (N p hp).1)).2
  have N₁ : News h₀ L h₁ ((s₂.heap.objs.size, LCg.lst []) :: news) := fun p hp => by
    rcases List.mem_cons.mp hp with rfl | hp
    · exact ⟨hacc, hDL, hD₀⟩
    · exact ⟨old _ _ (N p hp).1, (N p hp).2⟩
  have hkC : (compEnvC scope cl H2.objs.size env).kindOf x = some .local := lookup_relabel_local hx
  have hkCy : (compEnvC scope cl H2.objs.size env).kindOf y = some .local := lookup_relabel_local hy
  have loop : ∀ s₃ : Shared, s₃ = { s₂ with heap := h₁, toks := s₂.toks + ([] : List (PySem.Str × Value)).length } →
      codeAny (model prog w) A (.compLoop (.ListComp elt [⟨.Name x px, iter, [], 0⟩, ⟨.Name y py, it1, [ct], 0⟩] scope pos) 0 (.ref I) (.ref s₂.heap.objs.size) (compEnvC scope cl H2.objs.size env))
        (RR (.ref s₂.heap.objs.size) H2.objs.size) s₃ := by
    rintro s₃ rfl
    refine codeAny_comp2_out
      (fun k s' => ∃ h' tk i m', s' = { s₂ with heap := h', toks := tk } ∧ i ≤ n ∧ k = n + 1 - i ∧ St i h' ∧ Fr h₀ L h' m ∧ h'.Ns H2.objs.size m' ∧ News h₀ L h' ((s₂.heap.objs.size, LCg.lst []) :: news)) ?_ (n + 1)
      ⟨h₁, _, 0, _, rfl, Nat.zero_le _, rfl, hst₁, F.keeps old, hns₁, N₁⟩ (fun _ => rfl) (hf _)
    rintro k s' ⟨h', tk, i, m', rfl, hi, rfl, hst', F', hn', N'⟩
    by_cases hlt : i < n
    · refine W.item i _ _ _ hlt hst' fun v h₂ tk₂ hPv hst₂ hk₂ => ?_
      refine wpAny_assign_Name (wpAny_storeName_local hkC (hn'.at' fun o e => hk₂ _ o (by simpa using Ne.symm hCI) e) (fun h₃ hn₃ hs₃ => ?_) (by simp [compEnvC, relabel, hkind]))
      have hst₃ : St (i + 1) h₃ := W.frame _ _ _ hst₂ fun b hb o e => hs₃.extBut b o (fun q => hCf (by have q' : b = H2.objs.size := q; rw [← q']; exact hb)) e
      obtain ⟨oI, heI⟩ := hIo _ _ hst₃
      obtain ⟨oC, heC, hoC⟩ := LCg.ns_obj hn₃
      have F₃ : Fr h₀ L h₃ m := (LCg.fr_but F' hk₂ hIL hI₀).change hs₃ hCL hC₀
      have N₂ : News h₀ L h₂ ((s₂.heap.objs.size, LCg.lst []) :: news) := LCg.news_but N' hk₂ fun p hp => by
        rcases List.mem_cons.mp hp with rfl | hp
        · exact Ne.symm hDI
        · exact off p hp
      have N₃ : News h₀ L h₃ ((I, oI) :: (H2.objs.size, oC) :: (s₂.heap.objs.size, LCg.lst []) :: news) := fun p hp => by
        rcases List.mem_cons.mp hp with rfl | hp
        · exact ⟨heI, Ne.symm hIL, hI₀⟩
        · rcases List.mem_cons.mp hp with rfl | hp
          · exact ⟨heC, hCL, hC₀⟩
          · have z := N₂ p hp
            refine ⟨hs₃.extBut _ _ ?_ z.1, z.2⟩
            rcases List.mem_cons.mp hp with rfl | hp
            · exact hDC
            · exact offC p hp
      refine rng I oI H2.objs.size oC s₂.heap.objs.size _ h₃ _ _ _ hoC F₃ N₃ fun r t u v' h₄ tk₄ hr F₄ N₄ => ?_
      refine wpAny_pyIter_range hr (by decide) ?_
      dsimp only
      have hJI : I ≠ h₄.objs.size := Nat.ne_of_lt (Heap.lt_size (N₄ _ (.head _)).1)
      have hJC : H2.objs.size ≠ h₄.objs.size := Nat.ne_of_lt (Heap.lt_size (N₄ _ (.tail _ (.head _))).1)
      have hJD : s₂.heap.objs.size ≠ h₄.objs.size := Nat.ne_of_lt (Heap.lt_size (N₄ _ (.tail _ (.tail _ (.head _)))).1)
      have hJL : L ≠ h₄.objs.size := Nat.ne_of_lt F₄.ns.lt
      have hJ₀ : h₀.get? h₄.objs.size = none := by
        cases e : h₀.get? h₄.objs.size with
        | none => rfl
        | some o' => exact absurd (Heap.lt_size (F₄.keep _ o' e)) (Nat.lt_irrefl _)
      have offJ : ∀ p ∈ news, p.1 ≠ h₄.objs.size := fun p hp => Nat.ne_of_lt (Heap.lt_size (N₄ p (.tail _ (.tail _ (.tail _ hp)))).1)
      have W2 := LCg.range_walks (prog := prog) (w := w) (I := h₄.objs.size) hh 0 8
      have inner : ∀ s₅ : Shared, s₅ = { s₂ with heap := h₄.push { cls := .type "range_iterator", data := .fields #[rawInt 0, rawInt (Builtin.Range.rangeSize 0 8 1), rawInt 1] }, toks := tk₄ } →
          codeAny (model prog w) A (.compLoop (.ListComp elt [⟨.Name x px, iter, [], 0⟩, ⟨.Name y py, it1, [ct], 0⟩] scope pos) 1 (.ref h₄.objs.size) (.ref s₂.heap.objs.size) (compEnvC scope cl H2.objs.size env))
            (fun r s' => match r with
              | .ok _ => ∃ m_1, m_1 < n + 1 - i ∧ ∃ h' tk i m', s' = { s₂ with heap := h', toks := tk } ∧ i ≤ n ∧ m_1 = n + 1 - i ∧ St i h' ∧ Fr h₀ L h' m ∧ h'.Ns H2.objs.size m' ∧ News h₀ L h' ((s₂.heap.objs.size, LCg.lst []) :: news)
              | .error e => cameBackBy (model prog w) A (compEnvC scope cl H2.objs.size env) (notedBy (model prog w) A (compEnvC scope cl H2.objs.size env) fun e s' => RR (.ref s₂.heap.objs.size) H2.objs.size (.error e) s') e s') s₅ := by
        rintro s₅ rfl
        refine codeAny_comp2_in
          (fun k s' => ∃ h' tk j m'', s' = { s₂ with heap := h', toks := tk } ∧ j ≤ 8 ∧ k = 9 - j ∧ IsRangeIter h' h₄.objs.size (0 + ((j : Nat) : Int) * 1) (((8 : Nat) : Int) - ((j : Nat) : Int)) 1 ∧ Fr h₀ L h' m ∧ h'.Ns H2.objs.size m'' ∧ m'' x = some v ∧ News h₀ L h' ((I, oI) :: (s₂.heap.objs.size, LCg.lst []) :: news)) ?_ 9
          ⟨_, _, 0, _, rfl, Nat.zero_le _, rfl, Heap.get?_push_size _ rfl, F₄.push _, (hoC.ns (N₄ _ (.tail _ (.head _))).1).push _, if_pos rfl, fun p hp => ?_⟩
        · rintro k s' ⟨h5, tk5, j, m5, rfl, hj, rfl, hst5, F5, hn5, hm5, N5⟩
          by_cases hjl : j < 8
          · refine W2.item j _ _ _ hjl hst5 fun u6 h6 tk6 hP6 hst6 hk6 => ?_
            obtain ⟨t6, rfl⟩ := hP6
            refine wpAny_assign_Name (wpAny_storeName_local hkCy (hn5.at' fun o e => hk6 _ o (by simpa using hJC) e) (fun h7 hn7 hs7 => ?_) (by simp [compEnvC, relabel, hkind]))
            have heJ : h7.get? h₄.objs.size = some _ := hs7.extBut _ _ (Ne.symm hJC) hst6
            obtain ⟨oC7, heC7, hoC7⟩ := LCg.ns_obj hn7
            have F7 : Fr h₀ L h7 m := (LCg.fr_but F5 hk6 hJL hJ₀).change hs7 hCL hC₀
            have N6 : News h₀ L h6 ((I, oI) :: (s₂.heap.objs.size, LCg.lst []) :: news) := LCg.news_but N5 hk6 fun p hp => by
              rcases List.mem_cons.mp hp with rfl | hp
              · exact hJI
              · rcases List.mem_cons.mp hp with rfl | hp
                · exact hJD
                · exact offJ p hp
            have N7 : News h₀ L h7 ((I, oI) :: (s₂.heap.objs.size, LCg.lst []) :: news) := fun p hp => by
              have z := N6 p hp
              refine ⟨hs7.extBut _ _ ?_ z.1, z.2⟩
              rcases List.mem_cons.mp hp with rfl | hp
              · exact hCI
              · rcases List.mem_cons.mp hp with rfl | hp
                · exact hDC
                · exact offC p hp
            refine wpAny_mono (turn i v j t6 I oI h₄.objs.size { cls := .type "range_iterator", data := .fields #[rawInt (0 + ((j + 1 : Nat) : Int) * 1), rawInt (((8 : Nat) : Int) - ((j + 1 : Nat) : Int)), rawInt 1] } H2.objs.size oC7 s₂.heap.objs.size _ h7 _ _ hlt hPv hjl hoC7 ((if_neg hxy).trans hm5) (if_pos rfl) F7 (fun p hp => ?_)) (fun ok s8 hq => ?_) fun _ _ e => e
            · rcases List.mem_cons.mp hp with rfl | hp
              · exact ⟨heJ, Ne.symm hJL, hJ₀⟩
              · rcases List.mem_cons.mp hp with rfl | hp
                · exact N7 _ (.head _)
                · rcases List.mem_cons.mp hp with rfl | hp
                  · exact ⟨heC7, hCL, hC₀⟩
                  · exact N7 _ (.tail _ hp)
            · obtain ⟨rfl, h8, tk8, rfl, F8, N8⟩ := hq
              refine ⟨rfl, 9 - (j + 1), by omega, h8, tk8, j + 1, _, rfl, hjl, rfl, (N8 _ (.head _)).1, F8, hoC7.ns (N8 _ (.tail _ (.tail _ (.head _)))).1, (if_neg hxy).trans hm5, fun p hp => N8 p ?_⟩
              rcases List.mem_cons.mp hp with rfl | hp
              · exact .tail _ (.head _)
              · exact .tail _ (.tail _ (.tail _ hp))
          · obtain rfl : j = 8 := Nat.le_antisymm hj (Nat.not_lt.mp hjl)
            refine W2.done _ _ _ hst5 fun h6 tk6 hk6 => ?_
            have N6 : News h₀ L h6 ((I, oI) :: (s₂.heap.objs.size, LCg.lst []) :: news) := LCg.news_but N5 hk6 fun p hp => by
              rcases List.mem_cons.mp hp with rfl | hp
              · exact hJI
              · rcases List.mem_cons.mp hp with rfl | hp
                · exact hJD
                · exact offJ p hp
            have F6 := LCg.fr_but F5 hk6 hJL hJ₀
            exact ⟨n + 1 - (i + 1), by omega, h6, tk6, i + 1, _, rfl, hlt, rfl, hSt _ _ _ _ hst₃ heI (N6 _ (.head _)).1 F6.keep (fun p hp => N6 p (.tail _ (.tail _ hp))), F6, hn5.at' fun o e => hk6 _ o (by simpa using hJC) e, fun p hp => N6 p (.tail _ hp)⟩
        · rcases List.mem_cons.mp hp with rfl | hp
          · exact ⟨Heap.get?_push_of_some _ (N₄ _ (.head _)).1, (N₄ _ (.head _)).2⟩
          · exact ⟨Heap.get?_push_of_some _ (N₄ _ (.tail _ (.tail _ hp))).1, (N₄ _ (.tail _ (.tail _ hp))).2⟩
      exact codeAny_compStart2 (inner _ rfl) (W2.self 0 _ _ _ (by exact Heap.get?_push_size _ rfl) (inner _ rfl))
    · obtain rfl : i = n := Nat.le_antisymm hi (Nat.not_lt.mp hlt)
      refine W.done _ _ _ hst' fun h₂ tk₂ hk₂ => ?_
      exact hRR _ _ h₂ tk₂ _ (LCg.fr_but F' hk₂ hIL hI₀) (LCg.news_but N' hk₂ fun p hp => by
        rcases List.mem_cons.mp hp with rfl | hp
        · exact Ne.symm hDI
        · exact off p hp) (off1_of offD) (hn'.at' fun o e => hk₂ _ o (by simpa using Ne.symm hCI) e) hC₀ hD₀ hCL hDL (Ne.symm hDC) offC
  exact codeAny_compStart_list (loop _ rfl) (W.self 0 _ _ _ hst₁ (loop _ rfl))
end

section
variable {prog : Program} {w : World} {A : Around} {E : Value → Shared → Prop} {s : Shared} {h₀ : Heap} {L : Addr} {m : PySem.Str → Option Value} {env : Env}
theorem ListComp_2 {elt iter it1 ct : Expr} {x y : PySem.Str} {px py : Pos} {scope : Scope} {cl : List (PySem.Str × Addr)} {pos : Pos} {ax : Addr} {its : Array Value} {news : List (Addr × Obj)} {Q : Value → Shared → Prop}
    (hh : A.handled = none) (F : Fr h₀ L s.heap m) (N : News h₀ L s.heap news) (S : LCg.SrcAt h₀ ax its news)
    (hit : ∀ (Q' : Value → Shared → Prop) (E' : Value → Shared → Prop), Q' (.ref ax) s → wpAny (model prog w) A (eval iter env) Q' E' s)
    (hclos : closureFor scope env = pure cl) (hcell : ∀ y ∈ scope.names, y.2 ≠ .cell) (hkind : scope.kind = .function) (hnames : ∀ y ∈ scope.names, y.2 = .local → scope.names.lookup y.1 = some .local)
    (hx : scope.names.lookup x = some .local) (hy : scope.names.lookup y = some .local) (hxy : x ≠ y)
    (rng : RngTwo prog w A h₀ L m env it1 scope cl s news) (turn : TurnTwo prog w A h₀ L m env ct x y scope cl s news its.size (fun i v => its[i]? = some v))
    (fin : ∀ D h tk, Fr h₀ L h m → News h₀ L h ((D, LCg.lst []) :: news) → LCg.Off1 D news → Q (.ref D) { s with heap := h, toks := tk })
    (hs : ∀ x, foldedSetIterable iter env x = pure x := by intro _; rfl) (hf : ∀ (e : Env) x, foldedSetIterable it1 e x = pure x := by intro _ _; rfl) :
    wpAny (model prog w) A (eval (.ListComp elt [⟨.Name x px, iter, [], 0⟩, ⟨.Name y py, it1, [ct], 0⟩] scope pos) env) Q E s := by
  rw [eval_ListComp]
  refine wpAny_comprehension_free (use := none) rfl hs hclos hkind hnames (hit _ _ ?_)
  have hl := S.list F.keep N
  have hlt : ax < s.heap.objs.size := by obtain ⟨_, e, _⟩ := hl; exact Heap.lt_size e
  refine wpAny_pyIter_list hl ?_
  have up : ∀ b o, s.heap.get? b = some o → (s.heap.push { cls := .type "list_iterator", data := .fields #[.ref ax, .int 0 0] }).get? b = some o := fun b o e => Heap.get?_push_of_some _ e
  refine block_2 hh (Walks.list hh s.heap.objs.size ax (Nat.ne_of_lt hlt) its) (fun i h st => by obtain ⟨o, e, _⟩ := st.1; exact ⟨o, e⟩) (fun i h h' o st e1 e2 k n' => LCg.list_st i h h' o news st e1 e2 k n' S) hcell hkind hx hy hxy ⟨⟨_, Heap.get?_push_size _ rfl, rfl, rfl⟩, hl.push _⟩ (fun b hb => ?_)
    (F.keeps up) (N.grown up) (Nat.ne_of_lt F.ns.lt) (next_is_new F) (fun p hp => Nat.ne_of_lt (Heap.lt_size (N p hp).1)) rng turn ?_ hf
  · show b < (s.heap.push _).objs.size
    rw [Heap.size_push]
    rcases List.mem_cons.mp hb with rfl | hb
    · exact Nat.lt_succ_self _
    · rw [List.mem_singleton.mp hb]; exact Nat.lt_succ_of_lt hlt
  · intro D C h tk m' F' N' o1 hn hC₀ hD₀ hCL hDL hCD offC
    refine ⟨m', hn, fun h'' hs'' => fin D h'' tk (F'.change hs'' hCL hC₀) (fun p hp => ?_) o1⟩
    refine ⟨hs''.extBut _ _ ?_ (N' p hp).1, (N' p hp).2⟩
    rcases List.mem_cons.mp hp with rfl | hp
    · exact Ne.symm hCD
    · exact offC p hp
end
end
section
theorem fresh_14 : True := by
  w_top off
  trivial

/-! comprehensions over a list of the ledger's, or over range(8), whose test and element change nothing -/
abbrev seg : List Int := [0, 1, 2, 3, 4, 5, 6, 7]
section
variable {prog : Program} {w : World} {A : Around} {h₀ : Heap} {L : Addr} {m : PySem.Str → Option Value} {env : Env} {ct elt : Expr} {x : PySem.Str} {scope : Scope} {cl : List (PySem.Str × Addr)} {s₁ : Shared} {Fin : Shared → List Value → List (Addr × Obj) → Prop} {news : List (Addr × Obj)}

def SameT (h₀ : Heap) (L : Addr) (m : PySem.Str → Option Value) (s₁ : Shared) (nw : List (Addr × Obj)) (s' : Shared) : Prop :=
  ∃ h' tk', s' = { s₁ with heap := h', toks := tk' } ∧ Fr h₀ L h' m ∧ News h₀ L h' nw

theorem srcT_list {ax : Addr} {vs : List Value} {n : Nat} {ns : List Int} (p : Int → Bool) (f : Int → Int) (hh : A.handled = none) (F : Fr h₀ L s₁.heap m) (N : News h₀ L s₁.heap news) (hm : (ax, W.listOf (List.toArray vs) n) ∈ news) (hI : IntsAre vs ns) (h8 : ns.length ≤ 8)
    (turn : ∀ k t I oI C oC D m₂ ys h tk (E' : Value → Shared → Prop), k ∈ ns → LCg.NsObj oC m₂ → m₂ x = some (.int k t) → Fr h₀ L h m → News h₀ L h ((I, oI) :: (C, oC) :: (D, LCg.lst ys) :: news) →
      wpAny (model prog w) A (isTrue ct (compEnvC scope cl C env) (eval ct (compEnvC scope cl C env))) (fun ok s' => Held (ok = p k ∧ SameT h₀ L m s₁ ((I, oI) :: (C, oC) :: (D, LCg.lst ys) :: news) s')) E' { s₁ with heap := h, toks := tk })
    (el : ∀ k t I oI C oC D m₂ ys h tk (E' : Value → Shared → Prop), k ∈ ns → p k = true → LCg.NsObj oC m₂ → m₂ x = some (.int k t) → Fr h₀ L h m → News h₀ L h ((I, oI) :: (C, oC) :: (D, LCg.lst ys) :: news) →
      wpAny (model prog w) A (eval elt (compEnvC scope cl C env)) (fun y s' => Held ((∃ t', y = .int (f k) t') ∧ SameT h₀ L m s₁ ((I, oI) :: (C, oC) :: (D, LCg.lst ys) :: news) s')) E' { s₁ with heap := h, toks := tk })
    (fin : ∀ g ys, IntsAre ys ((ns.filter p).map f) → Fin { s₁ with heap := g } ys news) :
    LCt.CompSrcT prog w A h₀ L m env ct elt x scope cl Fin (.ref ax) s₁ := by
  have hsz : vs.toArray.size ≤ sizeLine := by
    rw [List.size_toArray, hI.length, PySem.sizeLine_eq]
    exact Nat.le_trans h8 (by decide)
  refine LCt.CompSrcT.ledger (k := n) hh F N hm hsz fun g => ?_
  refine restT_filter (ns := ns) p f (fun _ nw => nw = news) (by rw [List.size_toArray]; exact hI.length.symm) ?_ rfl ?_ ?_ ?_
  · intro i v _ hv
    obtain ⟨k, t, rfl, hk⟩ := IntsAre.at hI i v (by simpa using hv)
    exact ⟨k, t, hk, rfl⟩
  · intro i k t I oI C oC D m₂ ys nw h tk E' hk hl hC hx F' N' off ne
    subst hl
    refine wpAny_mono (turn k t I oI C oC D m₂ ys h tk E' (List.mem_of_getElem? hk) hC hx F' N') (fun ok s' hq => ?_) fun _ _ e => e
    obtain ⟨e, h', tk', rfl, F2, N2⟩ := (hq : _ ∧ _)
    exact ⟨e, h', tk', _, rfl, F2, N2, off, .inr ⟨_, hm, rfl, n, rfl⟩, rfl⟩
  · intro i k t I oI C oC D m₂ ys nw h tk E' hk hp hl hC hx F' N' off hS
    subst hl
    refine wpAny_mono (el k t I oI C oC D m₂ ys h tk E' (List.mem_of_getElem? hk) hp hC hx F' N') (fun y s' hq => ?_) fun _ _ e => e
    obtain ⟨e, h', tk', rfl, F2, N2⟩ := (hq : _ ∧ _)
    exact ⟨h', tk', _, rfl, F2, N2, off, hS, e, rfl⟩
  · intro ys nw hy hl
    subst hl
    exact fin g ys hy

theorem srcT_range8 {r : Addr} {t u v : Tok} (p : Int → Bool) (f : Int → Int) (hh : A.handled = none) (F : Fr h₀ L s₁.heap m) (N : News h₀ L s₁.heap news) (hr : IsRange s₁.heap r 0 8 1 t u v)
    (turn : ∀ k t I oI C oC D m₂ ys h tk (E' : Value → Shared → Prop), k ∈ seg → LCg.NsObj oC m₂ → m₂ x = some (.int k t) → Fr h₀ L h m → News h₀ L h ((I, oI) :: (C, oC) :: (D, LCg.lst ys) :: news) →
      wpAny (model prog w) A (isTrue ct (compEnvC scope cl C env) (eval ct (compEnvC scope cl C env))) (fun ok s' => Held (ok = p k ∧ SameT h₀ L m s₁ ((I, oI) :: (C, oC) :: (D, LCg.lst ys) :: news) s')) E' { s₁ with heap := h, toks := tk })
    (el : ∀ k t I oI C oC D m₂ ys h tk (E' : Value → Shared → Prop), k ∈ seg → p k = true → LCg.NsObj oC m₂ → m₂ x = some (.int k t) → Fr h₀ L h m → News h₀ L h ((I, oI) :: (C, oC) :: (D, LCg.lst ys) :: news) →
      wpAny (model prog w) A (eval elt (compEnvC scope cl C env)) (fun y s' => Held ((∃ t', y = .int (f k) t') ∧ SameT h₀ L m s₁ ((I, oI) :: (C, oC) :: (D, LCg.lst ys) :: news) s')) E' { s₁ with heap := h, toks := tk })
    (fin : ∀ g ys, IntsAre ys ((seg.filter p).map f) → Fin { s₁ with heap := g } ys news) :
    LCt.CompSrcT prog w A h₀ L m env ct elt x scope cl Fin (.ref r) s₁ := by
  refine LCt.CompSrcT.range hh F N hr (by decide) (n := 8) (by rfl) (by exact Nat.le_of_ble_eq_true rfl) fun g => ?_
  refine restT_filter (ns := seg) p f (fun _ nw => nw = news) rfl ?_ rfl ?_ ?_ ?_
  · rintro i3 v hi3 ⟨t3, rfl⟩
    have hi3 : i3 < (8 : Nat) := hi3
    rcases (by omega : i3 = 0 ∨ i3 = 1 ∨ i3 = 2 ∨ i3 = 3 ∨ i3 = 4 ∨ i3 = 5 ∨ i3 = 6 ∨ i3 = 7) with rfl | rfl | rfl | rfl | rfl | rfl | rfl | rfl <;> exact ⟨_, _, rfl, rfl⟩
  · intro i k t I oI C oC D m₂ ys nw h tk E' hk hl hC hx F' N' off ne
    subst hl
    refine wpAny_mono (turn k t I oI C oC D m₂ ys h tk E' (List.mem_of_getElem? hk) hC hx F' N') (fun ok s' hq => ?_) fun _ _ e => e
    obtain ⟨e, h', tk', rfl, F2, N2⟩ := (hq : _ ∧ _)
    exact ⟨e, h', tk', _, rfl, F2, N2, off, trivial, rfl⟩
  · intro i k t I oI C oC D m₂ ys nw h tk E' hk hp hl hC hx F' N' off hS
    subst hl
    refine wpAny_mono (el k t I oI C oC D m₂ ys h tk E' (List.mem_of_getElem? hk) hp hC hx F' N') (fun y s' hq => ?_) fun _ _ e => e
    obtain ⟨e, h', tk', rfl, F2, N2⟩ := (hq : _ ∧ _)
    exact ⟨h', tk', _, rfl, F2, N2, off, hS, e, rfl⟩
  · intro ys nw hy hl
    subst hl
    exact fin g ys hy
end
end
section
theorem fresh_15 : True := by
  w_top off
  trivial

/-- the four numbers that the script gives -/
theorem four_of (ns : List Int) : ∃ a b c d : Int, (List.map (fun k' => (if k' < 0 then -k' else k').fmod 8) (List.take 4 (ns ++ (List.replicate 4 [7]).flatten))) = [a, b, c, d] ∧ (0 ≤ a ∧ a < 8) ∧ (0 ≤ b ∧ b < 8) ∧ (0 ≤ c ∧ c < 8) ∧ (0 ≤ d ∧ d < 8) := by
  have key : ∀ k' : Int, 0 ≤ (if k' < 0 then -k' else k').fmod 8 ∧ (if k' < 0 then -k' else k').fmod 8 < 8 := fun k' => ⟨Int.fmod_nonneg_of_pos _ (by decide), Int.fmod_lt_of_pos _ (by decide)⟩
  have e : (List.replicate 4 [(7 : Int)]).flatten = [7, 7, 7, 7] := rfl
  rw [e]
  obtain ⟨x, y, z, t, h⟩ : ∃ x y z t : Int, List.take 4 (ns ++ [7, 7, 7, 7]) = [x, y, z, t] := by
    rcases ns with _ | ⟨n1, _ | ⟨n2, _ | ⟨n3, _ | ⟨n4, r⟩⟩⟩⟩ <;> exact ⟨_, _, _, _, rfl⟩
  rw [h]
  exact ⟨_, _, _, _, rfl, key _, key _, key _, key _⟩

def pick {α : Type} : List Bool → List α → List α
  | true :: bs, x :: xs => x :: pick bs xs
  | false :: bs, _ :: xs => pick bs xs
  | _, _ => []
theorem pick_sub {α : Type} : ∀ (bs : List Bool) (l : List α), ∀ q ∈ pick bs l, q ∈ l
  | [], l, q, h => by cases l <;> exact nomatch h
  | true :: bs, [], q, h => nomatch h
  | false :: bs, [], q, h => nomatch h
  | true :: bs, x :: xs, q, h => by
    rcases List.mem_cons.mp h with rfl | h
    · exact .head _
    · exact .tail _ (pick_sub bs xs q h)
  | false :: bs, x :: xs, q, h => .tail _ (pick_sub bs xs q h)
theorem news_pick {g : Heap} {L : Addr} {h : Heap} {l : List (Addr × Obj)} (N : News g L h l) (bs : List Bool) : News g L h (pick bs l) := fun q hq => N q (pick_sub bs l q hq)

/-- the ledger of the law's body, before the first call of _digits2int has ended -/
abbrev LR (rows r2 l1 c0 LL : Addr) (vs1 vs2 : List Value) (n1 n2 : Nat) (oc0 oT oH oR oO : Obj) (T : List (Addr × Obj)) : List (Addr × Obj) :=
  (rows, W.listOf #[.ref l1, .ref r2] 0) :: (r2, W.listOf (List.toArray vs2) n2) :: (l1, W.listOf (List.toArray vs1) n1) :: (c0, oc0) :: (LL + 1 + 1 + 1 + 1, oT) :: (LL + 1 + 1 + 1, oH) :: (LL + 1 + 1, oR) :: (LL + 1, oO) :: (16, tab16 c0) :: (T ++ [])

theorem ltN {l : List (Addr × Obj)} {d : Addr} (h : ∀ q ∈ l, q.1 < d) : ∀ q ∈ l, @LT.lt Nat _ q.1 d := h
theorem held_in {P : Prop} (h : P) : Held P := h
end
section
theorem fresh_16 : True := by
  w_top off
  trivial

/-- the ledger of the law's body, with both tables grown -/
abbrev LQ (rows r2 l1 c0 c2 LL : Addr) (vs1 vs2 : List Value) (n1 n2 : Nat) (oc0 oc2 oT oH oR oO : Obj) : List (Addr × Obj) :=
  [(rows, W.listOf #[.ref l1, .ref r2] 0), (r2, W.listOf (List.toArray vs2) n2), (l1, W.listOf (List.toArray vs1) n1), (c0, oc0), (LL + 1 + 1 + 1 + 1, oT), (LL + 1 + 1 + 1, oH), (LL + 1 + 1, oR), (LL + 1, oO), (16, tab16 c0), (23, tab23 c2), (c2, oc2)]

/-- two addresses that are not the same (a fact that omega does not take up) -/
def Apart (a b : Nat) : Prop := a ≠ b
theorem Apart.of_lt {a b : Nat} (h : a < b) : Apart a b := Nat.ne_of_lt h
theorem Apart.of_gt {a b : Nat} (h : b < a) : Apart a b := Nat.ne_of_gt h
theorem Apart.symm {a b : Nat} (h : Apart a b) : Apart b a := Ne.symm h
theorem Apart.ne {a b : Nat} (h : Apart a b) : @Ne Nat a b := h

/-- insertion, and the list in order -/
def insA (x : Int) : List Int → List Int
  | [] => [x]
  | y :: r => if x ≤ y then x :: y :: r else y :: insA x r
def srt : List Int → List Int
  | [] => []
  | x :: r => insA x (srt r)
theorem insA_perm (x : Int) : ∀ l, (insA x l).Perm (x :: l)
  | [] => .refl _
  | y :: r => by
    unfold insA
    split
    · exact .refl _
    · exact ((insA_perm x r).cons y).trans (.swap x y r)
theorem srt_perm : ∀ l, (srt l).Perm l
  | [] => .refl _
  | x :: r => (insA_perm x (srt r)).trans ((srt_perm r).cons x)
theorem insA_sorted (x : Int) : ∀ l : List Int, l.Pairwise (· ≤ ·) → (insA x l).Pairwise (· ≤ ·)
  | [], _ => List.pairwise_singleton _ _
  | y :: r, h => by
    have h2 := List.pairwise_cons.mp h
    unfold insA
    split
    · rename_i hxy
      refine List.pairwise_cons.mpr ⟨fun z hz => ?_, h⟩
      rcases List.mem_cons.mp hz with rfl | hz
      · exact hxy
      · exact Int.le_trans hxy (h2.1 z hz)
    · rename_i hxy
      refine List.pairwise_cons.mpr ⟨fun z hz => ?_, insA_sorted x r h2.2⟩
      rcases List.mem_cons.mp ((insA_perm x r).mem_iff.mp hz) with rfl | hz
      · omega
      · exact h2.1 z hz
theorem srt_sorted : ∀ l, (srt l).Pairwise (· ≤ ·)
  | [] => .nil
  | x :: r => insA_sorted x _ (srt_sorted r)
theorem sorted_one : ∀ {l l' : List Int}, l.Perm l' → l.Pairwise (· ≤ ·) → l'.Pairwise (· ≤ ·) → l = l'
  | [], l', p, _, _ => (List.nil_perm.mp p).symm
  | x :: r, [], p, _, _ => absurd p.length_eq (by simp)
  | x :: r, y :: r', p, h, h' => by
    have a := List.pairwise_cons.mp h
    have a' := List.pairwise_cons.mp h'
    have hxy : x = y := by
      have m1 : x ∈ y :: r' := p.mem_iff.mp (.head _)
      have m2 : y ∈ x :: r := p.mem_iff.mpr (.head _)
      rcases List.mem_cons.mp m1 with e | m1
      · exact e
      · rcases List.mem_cons.mp m2 with e | m2
        · exact e.symm
        · have q1 := a'.1 x m1
          have q2 := a.1 y m2
          omega
    subst hxy
    rw [sorted_one (List.Perm.cons_inv p) a.2 a'.2]
section
variable {prog : Program} {w : World} {A : Around} {E : Value → Shared → Prop} {s : Shared} {h₀ : Heap} {L : Addr} {m : PySem.Str → Option Value} {nw : List (Addr × Obj)} {l : Addr} {vs : List Value} {n : Nat} {ns : List Int} {Q : Value → Shared → Prop}
theorem sorted_w (F : Fr h₀ L s.heap m) (N : News h₀ L s.heap nw) (hm : (l, W.listOf (List.toArray vs) n) ∈ nw) (hi : IntsAre vs ns) (h64 : ns.length < 64)
    (h : ∀ D vs' c h', Fr h₀ L h' m → News h₀ L h' ((D, W.listOf (List.toArray vs') c) :: nw) → (∀ q ∈ nw, q.1 < D) → IntsAre vs' (srt ns) → Q (.ref D) { s with heap := h' }) :
    wpAny (model prog w) A (call (.builtin "sorted") [.ref l]) Q E s :=
  kso_sorted F N ⟨_, (N _ hm).1, rfl, n, rfl⟩ hi h64 fun D vs' ns' c h' F' N' lt I _ p o _ => h D vs' c h' F' N' lt (sorted_one (p.trans (srt_perm ns).symm) o (srt_sorted ns) ▸ I)
end

/-- the ledger within a turn over the rows -/
abbrev LT (rr : Addr) (vsr : List Value) (nr : Nat) (I : Addr) (oI : Obj) (rows r2 l1 c0 c2 LL : Addr) (vs1 vs2 : List Value) (n1 n2 : Nat) (oc0 oc2 oT oH oR oO : Obj) : List (Addr × Obj) :=
  (rr, W.listOf (List.toArray vsr) nr) :: (I, oI) :: LQ rows r2 l1 c0 c2 LL vs1 vs2 n1 n2 oc0 oc2 oT oH oR oO
/-- less is a lot of its own within lot -/
def under (lot less : Int) : Bool := less != lot && Builtin.bitAnd less lot == less
/-- no other lot of R lies within lot -/
def leastIn (R : List Int) (lot : Int) : Bool := R.filter (under lot) == []
theorem under_yes {k less : Int} (h1 : ¬ less = k) (h2 : Builtin.bitAnd less k = less) : true = under k less := by
  unfold under
  rw [bne_iff_ne.mpr h1, beq_iff_eq.mpr h2]; rfl
theorem under_no1 {k less : Int} (h1 : less = k) : false = under k less := by
  unfold under
  subst h1
  simp
theorem under_no2 {k less : Int} (h2 : ¬ Builtin.bitAnd less k = less) : false = under k less := by
  unfold under
  rw [beq_eq_false_iff_ne.mpr h2, Bool.and_false]
section
variable {w : World} {one other : List Int} {vs1 vs2 : List Value} {n1 n2 : Nat} {l1 l2 : Addr} {nw : List (Addr × Obj)} {p : Program} {loose : List PySem.Str} {mean : ExcName → Option Value} {mg mb : PySem.Str → Option Value}
  {dp un : Nat} {gd : Option (List Code)} {cn : PySem.Str} {cs : Scope} {a : Addr} {ccd : Value} {cl : List (PySem.Str × Addr)} {outer : List Env} {A₀ : Around} {base h₀ : Heap} {L : Addr} {m : PySem.Str → Option Value} {s : Shared} {Q E : Value → Shared → Prop}
theorem both_w (B : Below A₀ base outer h₀) (F : Fr h₀ L s.heap m) (X : (hd.heap_39 w.params).In h₀) (N : News h₀ L s.heap nw) (Tp : Top p loose mean mg mb h₀) (hck : cs.kind = .function)
    (hm1 : (l1, W.listOf (List.toArray vs1) n1) ∈ nw) (hm2 : (l2, W.listOf (List.toArray vs2) n2) ∈ nw) (h1 : IntsAre vs1 one) (h2 : IntsAre vs2 other) (hl1 : one.length ≤ 8) (hl2 : other.length ≤ 8) (hne : @Ne Nat l1 l2)
    (hdp : dp + 30 < recursionLimit) (hun : un + 150 < cLine)
    (ret : ∀ l vs' n h' tk', Fr h₀ L h' m → News h₀ L h' ((l, W.listOf (List.toArray vs') n) :: nw) → IntsAre vs' (bothF one other) → (∀ q ∈ nw, @LT.lt Nat _ q.1 l) → Q (.ref l) { s with heap := h', toks := tk' }) :
    wpAny (model PR w) (ktrTop dp un gd cn cs L a ccd cl outer) (call (.ref 65) [.ref l1, .ref l2]) Q E s :=
  both_k w one other vs1 vs2 h1 h2 hl1 (Nat.le_trans hl2 (by decide)) n1 n2 l1 l2 nw p loose mean mg mb dp un gd cn cs a ccd cl outer A₀ base h₀ L m s Q E B F X N Tp hck hm1 hm2 hne hdp hun ret
end
theorem bothF_len {one other : List Int} {n : Nat} (h : one.length ≤ n) : (bothF one other).length ≤ n := Nat.le_trans (List.length_filter_le _ _) h
/-- the lots that a row lacks -/
abbrev lack (R : List Int) : List Int := seg.filter (fun k => !(R.any (fun x => x == k)))
theorem lack_len (R : List Int) : (lack R).length ≤ 8 := List.length_filter_le _ seg
/-- the lists of what the rows lack, as they come -/
def ShrJ (L1 L2 : List Int) (base : List (Addr × Obj)) (i : Nat) (ys : List Value) (nw : List (Addr × Obj)) : Prop :=
  match i with
  | 0 => ys = [] ∧ nw = base
  | 1 => ∃ d1 v1 k1, ys = [.ref d1] ∧ nw = (d1, W.listOf (List.toArray v1) k1) :: base ∧ IntsAre v1 L1
  | 2 => ∃ d1 v1 k1 d2 v2 k2, ys = [.ref d1, .ref d2] ∧ nw = (d2, W.listOf (List.toArray v2) k2) :: (d1, W.listOf (List.toArray v1) k1) :: base ∧ IntsAre v1 L1 ∧ IntsAre v2 L2 ∧ Apart d1 d2
  | _ => False
/-- set once the list turned is about to be kept -/
def TurnMark : Prop := True
end
section
theorem fresh_17 : True := by
  w_top off
  trivial

/-! the plain law: over all rows that two numbers give -/
def fam : List (List Int) := [[0, 1, 2, 3, 4, 5, 6, 7], [1, 3, 5, 7], [1, 2, 3, 5, 6, 7], [1, 3, 4, 5, 6, 7], [1, 3, 5, 6, 7], [2, 3, 6, 7], [2, 3, 4, 5, 6, 7], [2, 3, 5, 6, 7], [3, 7], [3, 4, 5, 6, 7], [3, 5, 7], [3, 6, 7], [4, 5, 6, 7], [5, 7], [5, 6, 7], [6, 7], [7]]
theorem fam_all : ∀ x ∈ seg, ∀ y ∈ seg, grownTo [x, y] 8 ∈ fam := by decide +kernel
theorem in_seg {x : Int} (h : 0 ≤ x ∧ x < 8) : x ∈ seg := by
  rcases (by omega : x = 0 ∨ x = 1 ∨ x = 2 ∨ x = 3 ∨ x = 4 ∨ x = 5 ∨ x = 6 ∨ x = 7) with rfl | rfl | rfl | rfl | rfl | rfl | rfl | rfl <;> decide
theorem fam_of {x y : Int} (hx : 0 ≤ x ∧ x < 8) (hy : 0 ≤ y ∧ y < 8) : grownTo [x, y] 8 ∈ fam := fam_all x (in_seg hx) y (in_seg hy)
theorem fam_srt : ∀ R ∈ fam, srt R = R := by decide +kernel
theorem fam_b : ∀ R ∈ fam, ∀ k ∈ R, 0 ≤ k ∧ k < 8 := by decide +kernel
theorem fam_gl : ∀ R ∈ fam, grownTo (R.filter (leastIn R)) 8 = R := by decide +kernel
theorem fam_half : ∀ R ∈ fam, List.filter (fun k => !((List.filter (fun k => decide (4 ≤ k)) R).map (fun k => k - 4)).any (fun x => x == k)) (List.filter (fun k => decide (k < 4)) R) = [] := by decide +kernel
theorem fam_up : ∀ R ∈ fam, ∀ k ∈ R, ∀ j : Nat, j < 8 → Builtin.bitAnd k (0 + (j : Int)) = k → (R.any fun x => x == 0 + (j : Int)) = true := by decide +kernel
theorem fam_dn : ∀ R ∈ fam, ∀ k ∈ srt (List.map (fun k' => 7 - k') R), ∀ j : Nat, j < 8 → Builtin.bitAnd (0 + (j : Int)) k = 0 + (j : Int) → ((srt (List.map (fun k' => 7 - k') R)).any fun x => x == 0 + (j : Int)) = true := by decide +kernel
theorem fam_k1 : ∀ A ∈ fam, ∀ B ∈ fam, ¬ 8 * ((bothF A B).length : Int) < (A.length : Int) * (B.length : Int) := by decide +kernel
theorem fam_k2 : ∀ A ∈ fam, ∀ B ∈ fam, bothF B A = bothF A B := by decide +kernel
theorem fam_k3 : ∀ A ∈ fam, ∀ B ∈ fam, ¬ 8 * ((bothF A (lack B)).length : Int) > (A.length : Int) * ((lack B).length : Int) := by decide +kernel
theorem fam_k4 : ∀ A ∈ fam, ∀ B ∈ fam, ¬ 8 * ((bothF (lack A) (lack B)).length : Int) < ((lack A).length : Int) * ((lack B).length : Int) := by decide +kernel
end
section
theorem fresh_law : True := by
  w_top off
  trivial
local macro_rules | `(tactic| walk_at "call ref") => `(tactic| (k_here; (with_reducible show wpAny _ _ (call (Value.ref 58) _) _ _ _); refine held_out ?_))
local macro_rules | `(tactic| k_room) => `(tactic| ktr_room)
local macro_rules | `(tactic| walk_at "call ref") => `(tactic| (k_here; k_dflt (refine' grown_hit ?tB ?tF ?tX ?tN ?tT ?tck ?tC ?h1 ?h2 ?hcd ?hc ?hll ?hvs ?hlots ?hlen ?hl16 ?hlc ?tdp ?tun ?_; (case tB => k_asm); (case tF => k_asm); (case tX => k_asm); (case tN => k_asm); (case tT => k_asm); (case tck => first | exact rfl | assumption); (case tC => assumption); (case h1 => k_mem); (case h2 => k_mem); (case hcd => assumption); (case hc => assumption); (case hll => k_mem); (case hvs => assumption); (case hlots => assumption); (case hlen => first | assumption | exact Nat.le_of_ble_eq_true rfl); (case hl16 => first | assumption | omega); (case hlc => first | assumption | omega); (case tdp => ktr_room); (case tun => ktr_units); k_whole); intro l' vs' n' h' tk' F' N' I' o1'; (try dsimp only at N'); (try simp only [List.forall_mem_cons] at o1')))
local macro_rules | `(tactic| walk_at "call ref") => `(tactic| (k_here; k_dflt (refine' things_hit ?tlo ?thi ?tB ?tF ?tX ?tN ?tT ?tck ?tC ?h1 ?h2 ?hcd ?hc ?hbig ?tdp ?tun ?_; (case tB => k_asm); (case tF => k_asm); (case tX => k_asm); (case tN => k_asm); (case tT => k_asm); (case tck => first | exact rfl | assumption); (case tC => assumption); (case h1 => k_mem); (case h2 => k_mem); (case hcd => assumption); (case hc => assumption); (case hbig => assumption); (case tlo => assumption); (case thi => assumption); (case tdp => ktr_room); (case tun => ktr_units); k_whole); intro l' vs' n' h' tk' F' N' I' lt'; (try dsimp only at N'); (replace lt' := ltN lt'); (try simp only [List.forall_mem_cons] at lt')))
local macro_rules | `(tactic| walk_at "call ref") => `(tactic| (k_here; (with_reducible show wpAny _ _ (call (Value.ref 28) _) _ _ _); refine held_out ?_))
local macro_rules | `(tactic| k_updF) => `(tactic| first | (refine' TailF.cons ?tb; (case tb => k_updF)) | exact TailF.here)
local macro_rules | `(tactic| walk_at "CompSrcT") => `(tactic| (refine held_out ?_))
local macro_rules | `(tactic| walk_at "exec For Name Name cons nil") => `(tactic| (refine held_out ?_))
local macro_rules | `(tactic| k_all) => `(tactic| first | exact List.forall_mem_nil _ | (refine' List.forall_mem_cons.mpr ⟨?a, ?b⟩; (case a => first | exact Apart.ne (by assumption) | exact Ne.symm (Apart.ne (by assumption)) | k_ne); (case b => k_all)))
local macro_rules | `(tactic| k_updF) => `(tactic| first | (refine' UpdF.head ?a; (case a => k_all)) | (refine' UpdF.tail ?a ?b; (case a => first | exact Apart.ne (by assumption) | exact Ne.symm (Apart.ne (by assumption)) | k_ne); (case b => k_updF)))
local macro_rules | `(tactic| walk_at "call builtin:sorted") => `(tactic| (k_here; (with_reducible show wpAny _ _ (call (Value.builtin "sorted") [Value.ref _]) _ _ _); k_dflt (refine' sorted_w ?F ?N ?m ?I ?b ?_; (case F => k_asm); (case N => k_asm); (case m => k_mem); (case I => assumption); (case b => first | assumption | omega); k_whole); intro D' vs' c' h' F' N' l1 I'; (try k_lt l1)))
local macro_rules | `(tactic| walk_at "call ref") => `(tactic| (k_here; k_dflt (refine' grown_hit ?tB ?tF ?tX ?tN ?tT ?tck ?tC ?h1 ?h2 ?hcd ?hc ?hll ?hvs ?hlots ?hlen ?hl16 ?hlc ?tdp ?tun ?_; (case tB => k_asm); (case tF => k_asm); (case tX => k_asm); (case tN => k_asm); (case tT => k_asm); (case tck => first | exact rfl | assumption); (case tC => assumption); (case h1 => k_mem); (case h2 => k_mem); (case hcd => assumption); (case hc => assumption); (case hll => k_mem); (case hvs => assumption); (case hlots => assumption); (case hlen => first | assumption | exact Nat.le_of_ble_eq_true rfl); (case hl16 => first | assumption | omega); (case hlc => first | assumption | omega); (case tdp => ktr_room); (case tun => ktr_units); k_whole); intro l' vs' n' h' tk' F' N' I' o1'; (try dsimp only at N'); (try simp only [List.forall_mem_cons] at o1'); (try rw [(by assumption : grownTo (List.filter (leastIn _) _) 8 = _)] at I')))
local macro_rules | `(tactic| walk_at "call ref") => `(tactic| (k_here; k_dflt (refine' both_w ?tB ?tF ?tX ?tN ?tT ?tck ?m1 ?m2 ?h1 ?h2 ?hl1 ?hl2 ?hne ?tdp ?tun ?_; (case tB => k_asm); (case tF => k_asm); (case tX => k_asm); (case tN => k_asm); (case tT => k_asm); (case tck => first | exact rfl | assumption); (case m1 => k_mem); (case m2 => k_mem); (case h1 => assumption); (case h2 => assumption); (case hl1 => first | assumption | exact bothF_len (by assumption)); (case hl2 => first | assumption | exact bothF_len (by assumption)); (case hne => first | exact Apart.ne (by assumption) | exact Ne.symm (Apart.ne (by assumption)) | omega); (case tdp => ktr_room); (case tun => ktr_units); k_whole); intro l' vs' n' h' tk' F' N' I' lt'; (try dsimp only at N'); (try simp only [List.forall_mem_cons] at lt')))
local macro_rules | `(tactic| walk_at "call builtin:len") => `(tactic| (k_here; (with_reducible show wpAny _ _ (call (Value.builtin "len") [Value.ref _]) _ _ _); k_dflt (refine' len_w ?N ?m ?I ?b ?_; (case N => k_asm); (case m => first | assumption | k_mem); (case I => assumption); (case b => first | exact Nat.le_trans (by assumption) (by decide : 8 ≤ 1000) | exact Nat.le_trans (bothF_len (by assumption)) (by decide : 8 ≤ 1000)); k_whole); intro t' tk'))
local macro_rules | `(tactic| walk_at "storeName") => `(tactic| ((with_reducible show wpAny _ _ (storeName _ (PySem.Str.ofString "turned") _) _ _ _); (fail_if_success (have : TurnMark := by assumption)); refine held_out ?_))
theorem holds : PySem.Challenge.rw_kl0444_01.Holds := hd (by
  k_go0; (all_goals try k_fold); k_steps
  rename IntsAre _ (List.take 2 _) => I2
  rename IntsAre _ (List.map _ _) => I4
  rename (Fr _ _ _ _) => FA
  rename (List Int) => ns
  obtain ⟨a, b, c, d, e4, ha, hb, hc, hd⟩ := four_of ns
  rw [e4] at I2 I4
  clear e4
  have I2 : IntsAre _ [a, b] := I2
  have hab : ∀ k ∈ [a, b], 0 ≤ k ∧ k < 8 := by simp [ha, hb]
  have hcd : ∀ k ∈ [c, d], 0 ≤ k ∧ k < 8 := by simp [hc, hd]
  unfold Held

  k_here
  refine' grown_first ?tB ?tF ?tX ?tN ?tT ?tck ?tC ?tU ?hll ?hvs ?hlots ?hlen ?hne ?hl16 ?tdp ?tun ?_; (case tB => k_asm); (case tF => k_asm); (case tX => k_asm); (case tN => k_asm); (case tT => k_asm); (case tck => first | exact rfl | assumption); (case tC => assumption); (case tU => k_updF); (case hll => k_mem); (case hvs => assumption); (case hlots => assumption); (case hlen => exact Nat.le_of_ble_eq_true rfl); (case hne => exact List.cons_ne_nil _ _); (case hl16 => omega); (case tdp => ktr_room); (case tun => ktr_units)
  intro c0 oc0 l1 vs1 n1 h1 tk1 F1 N1 I1 hcd0 hc16 hcl hcn hln
  (try dsimp only at N1)
  (try simp only [List.forall_mem_cons] at hcn hln)

  k_steps
  rename_i D2 ws2 hX hI2 hC2 hL2 lt2 r2 vs2 n2 hA tkA IR2 ne2 rows hB lt3 hC hD hE hF oOther FA NA dOther hG tkB t1 u1 v1 hrange FG NG keepG
  replace NG := news_pick NG [true, true, false, true, true, false, false, false, false, false, false, true, true, true, true, true, true]
  simp only [pick] at NG
  clear NA FA keepG
  rename Shared => sS
  rename World => w
  obtain ⟨oT, oH, oR, N0, ⟨vT, dT⟩, ⟨vH, dH⟩, ⟨vR, dR⟩⟩ : ∃ oT oH oR, News _ _ hG (LR rows r2 l1 c0 sS.heap.objs.size vs1 vs2 n1 n2 oc0 oT oH oR oOther [(23, tabObj #[])]) ∧ (∃ v, oT.data = .cell v) ∧ (∃ v, oH.data = .cell v) ∧ (∃ v, oR.data = .cell v) := ⟨_, _, _, NG, ⟨_, by assumption⟩, ⟨_, by assumption⟩, ⟨_, by assumption⟩⟩
  clear NG
  unfold Held
  refine LCt.CompSrcT.range (by rfl) FG N0 hrange (by decide) (n := 8) (by rfl) (by exact Nat.le_of_ble_eq_true rfl) ?_
  intro g0
  have sep0 : Sep [(23, tabObj #[])] (LR rows r2 l1 c0 sS.heap.objs.size vs1 vs2 n1 n2 oc0 oT oH oR oOther []) := by
    intro q hq p hp
    rw [List.mem_singleton.mp hp]
    simp only [List.mem_cons, List.not_mem_nil, List.nil_append, or_false] at hq
    rcases hq with rfl | rfl | rfl | rfl | rfl | rfl | rfl | rfl | rfl <;> simp only [] <;> omega
  refine restT_filter (ns := [0, 1, 2, 3, 4, 5, 6, 7]) (fun _ => false) id (fun i nw => ∃ T, nw = LR rows r2 l1 c0 sS.heap.objs.size vs1 vs2 n1 n2 oc0 oT oH oR oOther T ∧ Md23 T ∧ (i ≠ 0 → Hit23 T) ∧ Sep T (LR rows r2 l1 c0 sS.heap.objs.size vs1 vs2 n1 n2 oc0 oT oH oR oOther [])) rfl ?hP ⟨_, rfl, .inl rfl, fun h => absurd rfl h, sep0⟩ ?turn3 ?el3 ?fin3
  case hP =>
    rintro i3 v hi3 ⟨t3, rfl⟩
    have hi3 : i3 < (8 : Nat) := hi3
    rcases (by omega : i3 = 0 ∨ i3 = 1 ∨ i3 = 2 ∨ i3 = 3 ∨ i3 = 4 ∨ i3 = 5 ∨ i3 = 6 ∨ i3 = 7) with rfl | rfl | rfl | rfl | rfl | rfl | rfl | rfl <;> exact ⟨_, _, rfl, rfl⟩
  case turn3 =>
    intro i3 kk t3 I3 oI3 C3 oC3 D3 m3 ys3 nw h3 tk3 E3 hkk hled3 hC3 hm3 F5 N5 off5 ne5
    obtain ⟨T3, rfl, hmd3, hhit3, hsep3⟩ := hled3
    have hkm := List.mem_of_getElem? hkk
    have hk0 : 0 ≤ kk := by simp only [List.mem_cons, List.not_mem_nil, or_false] at hkm; omega
    have hk8 : kk < 8 := by simp only [List.mem_cons, List.not_mem_nil, or_false] at hkm; omega
    have off6 := off5.mem
    have hbig : ∃ q ∈ (I3, oI3) :: (C3, oC3) :: (D3, LCg.lst ys3) :: LR rows r2 l1 c0 sS.heap.objs.size vs1 vs2 n1 n2 oc0 oT oH oR oOther T3, @LT.lt Nat _ 16 q.1 ∧ @Ne Nat q.1 c0 := ⟨(l1, _), .tail _ (.tail _ (.tail _ (.tail _ (.tail _ (.head _))))), by show @LT.lt Nat _ 16 l1; omega, Ne.symm hcl⟩
    dsimp only [LR] at N5
    refine wpAny_held ?_
    k_steps
    rename_i l5 vs5 n5 hA5 tk5 F6 N6 I6 lt6
    have sep6 : Sep T3 ((l5, W.listOf vs5.toArray n5) :: (I3, oI3) :: (C3, oC3) :: (D3, LCg.lst ys3) :: LR rows r2 l1 c0 sS.heap.objs.size vs1 vs2 n1 n2 oc0 oT oH oR oOther []) := by
      have f : ∀ p ∈ T3, p.1 ≠ I3 ∧ p.1 ≠ C3 ∧ p.1 ≠ D3 := fun p hp => off6 p (by simp [hp])
      refine Sep.cons (fun p hp => ?_) (Sep.cons (fun p hp => (f p hp).1) (Sep.cons (fun p hp => (f p hp).2.1) (Sep.cons (fun p hp => (f p hp).2.2) hsep3)))
      have z := lt6.2.2.2.2.2.2.2.2.2.2.2.2 p (List.mem_append_left _ hp)
      exact Nat.ne_of_lt z
    unfold Held
    k_here
    refine' digits_w hk0 hk8 ?tB ?tF ?tX ?tN ?tT ?tck ?tC ?tU hmd3 ?tsep ?tl I6 ?h23 ?tdp ?tun ?_; (case tB => k_asm); (case tF => k_asm); (case tX => k_asm); (case tN => k_asm); (case tT => k_asm); (case tck => first | exact rfl | assumption); (case tC => assumption); (case tU => k_updF); (case tsep => exact sep6); (case tl => exact .head _); (case h23 => omega); (case tdp => ktr_room); (case tun => ktr_units)
    intro T4 r4 h4 tk4 F7 N7 hit4 sep7
    (try dsimp only at N7)
    k_steps
    unfold Held
    refine ⟨by simp, _, _, LR rows r2 l1 c0 sS.heap.objs.size vs1 vs2 n1 n2 oc0 oT oH oR oOther T4, rfl, ?f, cb_drop N7 ?n, ?o, trivial, T4, rfl, .inr hit4, fun _ => hit4, ?s⟩
    case f => assumption
    case n => kcf_all
    case o =>
      refine LCg.Off3.of fun p hp => ?_
      have g4 : ∀ p ∈ T4, p.1 ≠ I3 ∧ p.1 ≠ C3 ∧ p.1 ≠ D3 := fun p hp => ⟨sep7 _ (.tail _ (.head _)) p hp, sep7 _ (.tail _ (.tail _ (.head _))) p hp, sep7 _ (.tail _ (.tail _ (.tail _ (.head _)))) p hp⟩
      dsimp only [LR] at hp off6
      simp only [List.mem_cons, List.append_nil] at hp off6
      rcases hp with h | h | h | h | h | h | h | h | h | h
      all_goals first | exact g4 p h | exact off6 p (by simp [h])
    case s => exact fun q hq p hp => sep7 q (.tail _ (.tail _ (.tail _ (.tail _ hq)))) p hp
  case el3 =>
    intro i3 kk t3 I3 oI3 C3 oC3 D3 m3 ys3 nw h3 tk3 E3 hkk hp3
    exact absurd hp3 Bool.false_ne_true
  case fin3 =>
    intro ys3 nw hI3 hled3
    obtain ⟨T3, rfl, hmd3, hhit3, hsep3⟩ := hled3
    obtain ⟨c2, oc2, rfl, hcd2, hc23⟩ := hhit3 (by decide)
    have hsep4 : ∀ q ∈ LR rows r2 l1 c0 sS.heap.objs.size vs1 vs2 n1 n2 oc0 oT oH oR oOther [], @Ne Nat c2 q.1 := fun q hq => hsep3 q hq _ (.tail _ (.head _))
    simp only [List.forall_mem_cons] at hsep4
    replace hI3 : IntsAre ys3 [] := hI3
    cases hI3
    unfold LCg.FinE
    intro D3 h3 tk3 F5 N5 off5
    simp only [LCg.Off1, List.cons_append, List.nil_append] at off5 N5
    dsimp only [LR] at N5 off5 hsep4
    simp only [List.cons_append, List.nil_append, List.append_nil] at N5 off5 hsep4
    clear N0 FG hrange sep0
    k_steps
    rename Fr _ _ _ _ => F6
    rename News _ _ _ _ => N6
    replace N6 := news_pick N6 [false, false, true, true, true, true, true, true, true, true, true, true, true]
    simp only [pick] at N6
    have hRcd : grownTo (List.drop 2 [a, b, c, d]) 8 = grownTo [c, d] 8 := rfl
    rw [hRcd] at IR2
    clear hRcd
    have aR4 : Apart rows (sS.heap.objs.size + 1 + 1 + 1 + 1) := .of_gt lt3.2.2.2.2.2.2.2.2.2.2.1
    have aR3 : Apart rows (sS.heap.objs.size + 1 + 1 + 1) := .of_gt lt3.2.2.2.2.2.2.2.2.2.2.2.1
    have aR2 : Apart rows (sS.heap.objs.size + 1 + 1) := .of_gt lt3.2.2.2.2.2.2.2.2.2.2.2.2.1
    have aR1 : Apart rows (sS.heap.objs.size + 1) := .of_gt lt3.2.2.2.2.2.2.2.2.2.2.2.2.2.1
    have aS4 : Apart r2 (sS.heap.objs.size + 1 + 1 + 1 + 1) := .of_gt ne2.2.2.2.2.2.2.2.2.2.1
    have aS3 : Apart r2 (sS.heap.objs.size + 1 + 1 + 1) := .of_gt ne2.2.2.2.2.2.2.2.2.2.2.1
    have aS2 : Apart r2 (sS.heap.objs.size + 1 + 1) := .of_gt ne2.2.2.2.2.2.2.2.2.2.2.2.1
    have aS1 : Apart r2 (sS.heap.objs.size + 1) := .of_gt ne2.2.2.2.2.2.2.2.2.2.2.2.2.1
    have aO4 : Apart l1 (sS.heap.objs.size + 1 + 1 + 1 + 1) := .of_gt hln.2.2.2.2.2.2.1
    have aO3 : Apart l1 (sS.heap.objs.size + 1 + 1 + 1) := .of_gt hln.2.2.2.2.2.2.2.1
    have aO2 : Apart l1 (sS.heap.objs.size + 1 + 1) := .of_gt hln.2.2.2.2.2.2.2.2.1
    have aO1 : Apart l1 (sS.heap.objs.size + 1) := .of_gt hln.2.2.2.2.2.2.2.2.2.1
    have aC4 : Apart c0 (sS.heap.objs.size + 1 + 1 + 1 + 1) := Ne.symm hcn.2.2.2.2.2.2.1
    have aC3 : Apart c0 (sS.heap.objs.size + 1 + 1 + 1) := Ne.symm hcn.2.2.2.2.2.2.2.1
    have aC2 : Apart c0 (sS.heap.objs.size + 1 + 1) := Ne.symm hcn.2.2.2.2.2.2.2.2.1
    have aC1 : Apart c0 (sS.heap.objs.size + 1) := Ne.symm hcn.2.2.2.2.2.2.2.2.2.1
    have aD4 : Apart c2 (sS.heap.objs.size + 1 + 1 + 1 + 1) := hsep4.2.2.2.2.1
    have aD3 : Apart c2 (sS.heap.objs.size + 1 + 1 + 1) := hsep4.2.2.2.2.2.1
    have aD2 : Apart c2 (sS.heap.objs.size + 1 + 1) := hsep4.2.2.2.2.2.2.1
    have aD1 : Apart c2 (sS.heap.objs.size + 1) := hsep4.2.2.2.2.2.2.2.1
    have aCO : Apart c0 l1 := hcl
    have aCS : Apart c0 r2 := .of_lt ne2.2.2.1
    have aDO : Apart c2 l1 := hsep4.2.2.1
    have aDS : Apart c2 r2 := hsep4.2.1
    have lOR : @LT.lt Nat _ l1 rows := lt3.2.2.1
    have lSR : @LT.lt Nat _ r2 rows := lt3.1
    have lOS : @LT.lt Nat _ l1 r2 := ne2.2.1
    have l16O : @LT.lt Nat _ 16 l1 := hln.2.2.2.2.2.2.2.2.2.2.1
    have l23O : @LT.lt Nat _ 23 l1 := hln.2.2.2.2.2.2.2.2.2.2.2.1
    have aC16 : Apart c0 16 := hc16
    clear hcn hln lt2 ne2 lt3 hsep4 hsep3 hmd3 hhit3 hcl
    unfold Held
    refine for_list (ax := rows) (its := #[.ref l1, .ref r2]) (fun i m₁ nw => m₁ (PySem.Str.ofString "one") = some (.ref l1) ∧ m₁ (PySem.Str.ofString "rows") = some (.ref rows) ∧ ∃ oH oR vH vR, oH.data = .cell vH ∧ oR.data = .cell vR ∧ nw = LQ rows r2 l1 c0 c2 sS.heap.objs.size vs1 vs2 n1 n2 oc0 oc2 oT oH oR oOther) rfl rfl F6 N6 (.inr ⟨_, .head _, rfl, 0, rfl⟩) ?hit ⟨rfl, rfl, _, _, _, _, dH, dR, rfl⟩ ?turn ?done
    case hit => intro Q' E'' hq; walk1; exact hq
    case turn =>
      intro i v m₁ nw I oI h tk E' hi hv hj hS F1 N1 off1
      obtain ⟨hm1, hm2, oH, oR, vH, vR, dH, dR, rfl⟩ := hj
      obtain ⟨rr, vsr, nr, x, y, rfl, hmem, hIr, hx, hy, aM4, aM3, aM2, aM1, aMC, aMD, lMR, l23M⟩ : ∃ rr vsr nr x y, v = .ref rr ∧ (rr, W.listOf (List.toArray vsr) nr) ∈ LQ rows r2 l1 c0 c2 sS.heap.objs.size vs1 vs2 n1 n2 oc0 oc2 oT oH oR oOther ∧ IntsAre vsr (grownTo [x, y] 8) ∧ (0 ≤ x ∧ x < 8) ∧ (0 ≤ y ∧ y < 8) ∧ Apart rr (sS.heap.objs.size + 1 + 1 + 1 + 1) ∧ Apart rr (sS.heap.objs.size + 1 + 1 + 1) ∧ Apart rr (sS.heap.objs.size + 1 + 1) ∧ Apart rr (sS.heap.objs.size + 1) ∧ Apart c0 rr ∧ Apart c2 rr ∧ @LT.lt Nat _ rr rows ∧ @LT.lt Nat _ 23 rr := by
        have hi : i < (2 : Nat) := hi
        rcases (Nat.le_one_iff_eq_zero_or_eq_one).mp (Nat.le_of_lt_succ hi) with rfl | rfl
        · obtain rfl : Value.ref l1 = v := Option.some.inj hv
          exact ⟨l1, vs1, n1, a, b, rfl, by simp, I1, ha, hb, aO4, aO3, aO2, aO1, aCO, aDO, lOR, l23O⟩
        · obtain rfl : Value.ref r2 = v := Option.some.inj hv
          exact ⟨r2, vs2, n2, c, d, rfl, by simp, IR2, hc, hd, aS4, aS3, aS2, aS1, aCS, aDS, lSR, Nat.lt_trans l23O lOS⟩
      have aI4 : Apart (sS.heap.objs.size + 1 + 1 + 1 + 1) I := off1.2.2.2.2.1
      have aI3 : Apart (sS.heap.objs.size + 1 + 1 + 1) I := off1.2.2.2.2.2.1
      have aI2 : Apart (sS.heap.objs.size + 1 + 1) I := off1.2.2.2.2.2.2.1
      have aI1 : Apart (sS.heap.objs.size + 1) I := off1.2.2.2.2.2.2.2.1
      rw [fr_shape hm1 hm2] at F1
      have Nr : News (ghostOf sS.heap [(20, 16), (27, 23)]) sS.heap.objs.size h ((rr, W.listOf (List.toArray vsr) nr) :: (I, oI) :: LQ rows r2 l1 c0 c2 sS.heap.objs.size vs1 vs2 n1 n2 oc0 oc2 oT oH oR oOther) := fun q hq => by
        rcases List.mem_cons.mp hq with rfl | hq
        · exact N1 _ (.tail _ hmem)
        · exact N1 _ hq
      clear N1
      obtain ⟨R, hR⟩ : ∃ R, R = grownTo [x, y] 8 := ⟨_, rfl⟩
      rw [← hR] at hIr
      have hR8 : R.length ≤ 8 := hR ▸ grownTo_len _ 8
      have hR64 : R.length < 64 := Nat.lt_of_le_of_lt hR8 (by decide)
      dsimp only [LQ] at Nr
      refine wpAny_assign_Name ?_
      have hfam : R ∈ fam := by rw [hR]; exact fam_of hx hy
      have hsrt : srt R = R := fam_srt R hfam
      have hRb : ∀ k ∈ R, 0 ≤ k ∧ k < 8 := fam_b R hfam
      have hgl : grownTo (R.filter (leastIn R)) 8 = R := fam_gl R hfam
      have hhalf : List.filter (fun k => !((List.filter (fun k => decide (4 ≤ k)) R).map (fun k => k - 4)).any (fun x => x == k)) (List.filter (fun k => decide (k < 4)) R) = [] := fam_half R hfam
      have hup : ∀ k ∈ R, ∀ j : Nat, j < 8 → Builtin.bitAnd k (0 + (j : Int)) = k → (R.any fun x => x == 0 + (j : Int)) = true := fam_up R hfam
      k_steps
      all_goals (try exact absurd hsrt.symm (by assumption))
      · rename Fr _ _ _ _ => F6
        rename News _ _ _ _ => N6
        rename_i oRow _ _ dRow D6 vs6 c6 h6 I6 lt6 e6
        refine ListComp_2 (ax := rr) (its := vsr.toArray) rfl F6 N6 (.inr ⟨_, by k_mem, rfl, nr, rfl⟩) ?hit2 (by with_unfolding_all rfl) (by decide) (by rfl) (by decide) (by rfl) (by rfl) (by decide) ?rng ?turn2 ?fin2
        case hit2 => intro Q' E'' hq; walk1; exact hq
        case rng =>
          intro I2 oI2 C2 oC2 D2 m2 h2 tk2 Q2 E2 hC2 F2 N2 k2
          k_steps
          exact k2 _ _ _ _ _ _ (by assumption) (by assumption) (by assumption)
        case turn2 =>
          intro i2 v2 j2 t2 I2 oI2 J2 oJ2 C2 oC2 D2 m2 h2 tk2 E2 hi2 hv2 hj2 hC2 hx2 hy2 F2 N2
          obtain ⟨k, t, rfl, hk⟩ := IntsAre.at hIr i2 v2 (by simpa using hv2)
          refine wpAny_held ?_
          k_steps
          all_goals (unfold Held; first | exact ⟨rfl, _, _, rfl, by assumption, by assumption⟩ | exact absurd (hup k (List.mem_of_getElem? hk) j2 hj2 (by assumption)) (by rw [(by assumption : List.any R _ = false)]; exact Bool.false_ne_true))
        case fin2 =>
          intro D7 h7 tk7 F7 N7 off7
          simp only [LCg.Off1] at off7
          clear e6 I6 F6 N6 lt6 off7
          k_steps
          rename Fr _ _ _ _ => F8
          rename News _ _ _ _ => N8
          replace N8 := news_pick N8 [false, false, false, true, true, true, true, true, true, true, true, true, true, true, true, true]
          simp only [pick] at N8
          have hszR : vsr.toArray.size ≤ sizeLine := by
            rw [List.size_toArray, hIr.length, PySem.sizeLine_eq]
            exact Nat.le_trans hR8 (by decide)
          refine Assign_ListComp_C (ax := rr) (its := vsr.toArray) (fun i2 ys nw => IntsAre ys ((R.take i2).filter (leastIn R)) ∧ nw = LT rr vsr nr I oI rows r2 l1 c0 c2 sS.heap.objs.size vs1 vs2 n1 n2 oc0 oc2 oT oH oRow oOther)
            rfl rfl F8 N8 (.inr ⟨_, .head _, rfl, nr, rfl⟩) hszR (by with_unfolding_all rfl) ?hit3 (by with_unfolding_all rfl) (fun _ => rfl) (fun _ => rfl) rfl (by decide) (by rfl) ⟨.nil, rfl⟩ (by rfl) (by rfl) ?turn3 ?fin3
          case hit3 => intro Q' E'' hq; walk1; exact hq
          case turn3 =>
            refine turnC_filter hIr (leastIn R) (fun _ nw => nw = LT rr vsr nr I oI rows r2 l1 c0 c2 sS.heap.objs.size vs1 vs2 n1 n2 oc0 oc2 oT oH oRow oOther) rfl (by rfl) (by decide) ?_
            intro i3 k t3 X9 oX I3 oI3 C3 oC3 D3 m3 ys nw h3 tk3 E3 hk3 hled hS3 hC3 hX3 F3 N3 off3 ne3
            subst hled
            refine wpAny_viaF F3 (fun mm ok s' => Held (ok = leastIn R k ∧ ∃ h' tk', s' = { heap := h', gens := sS.gens, drawn := sS.drawn, toks := tk', os := sS.os } ∧ Fr (ghostOf sS.heap [(20, 16), (27, 23)]) sS.heap.objs.size h' mm ∧ News (ghostOf sS.heap [(20, 16), (27, 23)]) sS.heap.objs.size h' ((X9, oX) :: (I3, oI3) :: (C3, oC3) :: (D3, LCg.lst ys) :: LT rr vsr nr I oI rows r2 l1 c0 c2 sS.heap.objs.size vs1 vs2 n1 n2 oc0 oc2 oT oH oRow oOther))) ?c2 (fun ok s' hq => ?_)
            case c2 =>
              dsimp only [LT, LQ] at N3
              clear N8 F8
              k_steps
              refine held_in ?_
              refine LCt.CompSrcT.ledger (by rfl) F3 N3 (.tail _ (.tail _ (.tail _ (.tail _ (.head _))))) hszR ?_
              intro g6
              refine restT_filter (ns := R) (under k) id (fun _ nw => nw = (X9, oX) :: (I3, oI3) :: (C3, oC3) :: (D3, LCg.lst ys) :: LT rr vsr nr I oI rows r2 l1 c0 c2 sS.heap.objs.size vs1 vs2 n1 n2 oc0 oc2 oT oH oRow oOther) (by rw [List.size_toArray]; exact hIr.length.symm) ?hP rfl ?turn4 ?el4 ?fin4
              case hP =>
                intro i4 v4 _ hv4
                obtain ⟨k4, t4, rfl, hk4⟩ := IntsAre.at hIr i4 v4 (by simpa using hv4)
                exact ⟨k4, t4, hk4, rfl⟩
              case turn4 =>
                intro i4 less t4 I4 oI4 C4 oC4 D4 m4 ys4 nw h4 tk4 E4 hk4 hled4 hC4 hm4 F4 N4 off4 ne4
                subst hled4
                dsimp only [LT, LQ] at N4
                refine wpAny_held ?_
                k_steps
                all_goals (refine held_in ?_; refine ⟨?_, h4, _, _, rfl, F4, N4, off4, .inr ⟨_, .tail _ (.tail _ (.tail _ (.tail _ (.head _)))), rfl, nr, rfl⟩, rfl⟩)
                all_goals first | exact under_yes (by assumption) (by assumption) | exact under_no1 (by assumption) | exact under_no2 (by assumption)
              case el4 =>
                intro i4 less t4 I4 oI4 C4 oC4 D4 m4 ys4 nw h4 tk4 E4 hk4 hp4 hled4 hC4 hm4 F4 N4 off4 hS4
                subst hled4
                dsimp only [LT, LQ] at N4
                refine wpAny_held ?_
                k_steps
                refine held_in ?_
                exact LCg.CompEnd.intro (by assumption) (by assumption) _ (fun _ h => h) off4 hS4 ⟨⟨_, rfl⟩, rfl⟩
              case fin4 =>
                intro ys4 nw hI4 hled4
                subst hled4
                unfold LCg.FinE
                intro D4 h4 tk4 F6 N6 off6
                dsimp only [LT, LQ] at N6
                k_steps
                rename News _ _ _ _ => N7
                refine held_in ?_
                refine ⟨?_, _, _, rfl, by assumption, cb_drop N7 (by kcf_all)⟩
                unfold leastIn; simp only [List.map_id]; exact dec_nil _
            obtain ⟨rfl, h5, tk5, rfl, F5, N5⟩ := (hq : _ ∧ _)
            exact ⟨rfl, h5, tk5, _, rfl, F5, N5, off3, .inr ⟨_, .head _, rfl, nr, rfl⟩, rfl⟩
          case fin3 =>
            intro D8 ys8 nw h8 tk8 hj8 F9 N9 off9 hge8
            obtain ⟨I8, rfl⟩ := hj8
            rw [List.size_toArray, hIr.length, List.take_length] at I8
            replace N9 : News (ghostOf sS.heap [(20, 16), (27, 23)]) sS.heap.objs.size h8 ((D8, W.listOf ys8.toArray ys8.length) :: LT rr vsr nr I oI rows r2 l1 c0 c2 sS.heap.objs.size vs1 vs2 n1 n2 oc0 oc2 oT oH oRow oOther) := N9
            have h16D8 : @LT.lt Nat _ 16 D8 := Nat.lt_of_lt_of_le (Nat.lt_trans (Nat.lt_trans (by decide) l23M) (Heap.lt_size (N8 _ (.head _)).1)) hge8
            have aC0D8 : @Ne Nat c0 D8 := off9.2.2.2.2.2.1
            have hl8b : ∀ k ∈ R.filter (leastIn R), 0 ≤ k ∧ k < 8 := fun k hk => hRb k (List.mem_filter.mp hk).1
            have hl8n : (R.filter (leastIn R)).length ≤ 8 := Nat.le_trans (List.length_filter_le _ _) hR8
            dsimp only [LT, LQ] at N9
            clear N8 F8 off9
            k_steps
            rename Fr _ _ _ _ => F10
            rename News _ _ _ _ => N10
            replace N10 := news_pick N10 [false, false, true, true, true, true, true, true, true, true, true, true, true, true, true]
            simp only [pick] at N10
            clear F9 N9
            refine held_in ?_
            refine srcT_list (ns := R) (fun k => decide (k < 4)) id rfl F10 N10 (.head _) hIr hR8 ?t1 ?e1 ?f1
            case t1 =>
              intro k4 t4 I4 oI4 C4 oC4 D4 m4 ys4 h4 tk4 E4 hk4 hC4 hm4 F4 N4
              k_steps
              all_goals (refine held_in ⟨?_, _, _, rfl, by assumption, by assumption⟩)
              all_goals first | exact (decide_eq_true (by assumption)).symm | exact (decide_eq_false (by omega)).symm | rfl
            case e1 =>
              intro k4 t4 I4 oI4 C4 oC4 D4 m4 ys4 h4 tk4 E4 hk4 hp4 hC4 hm4 F4 N4
              k_steps
              refine held_in ⟨⟨_, rfl⟩, _, _, rfl, by assumption, by assumption⟩
            case f1 =>
              intro g4 ys4 hI4
              rw [List.map_id] at hI4
              unfold LCg.FinE
              intro D4 h4 tk4 F4 N4 off4
              have a43 : Apart (sS.heap.objs.size + 1 + 1 + 1) D4 := off4.2.2.2.2.2.2.2.1
              clear off4 F10 N10
              replace N4 : News (ghostOf sS.heap [(20, 16), (27, 23)]) sS.heap.objs.size h4 ((D4, W.listOf ys4.toArray ys4.length) :: LT rr vsr nr I oI rows r2 l1 c0 c2 sS.heap.objs.size vs1 vs2 n1 n2 oc0 oc2 oT oH oRow oOther) := N4
              dsimp only [LT, LQ] at N4
              k_steps
              refine held_in ?_
              rename Fr _ _ _ _ => F11
              rename News _ _ _ _ => N11
              refine srcT_list (ns := R) (fun k => decide (4 ≤ k)) (fun k => k - 4) rfl F11 N11 (.tail _ (.head _)) hIr hR8 ?t2 ?e2 ?f2
              case t2 =>
                intro k5 t5 I5 oI5 C5 oC5 D5 m5 ys5 h5 tk5 E5 hk5 hC5 hm5 F5 N5
                k_steps
                all_goals (refine held_in ⟨?_, _, _, rfl, by assumption, by assumption⟩)
                all_goals first | exact (decide_eq_true (by assumption)).symm | exact (decide_eq_false (by omega)).symm | rfl
              case e2 =>
                intro k5 t5 I5 oI5 C5 oC5 D5 m5 ys5 h5 tk5 E5 hk5 hp5 hC5 hm5 F5 N5
                k_steps
                refine held_in ⟨⟨_, rfl⟩, _, _, rfl, by assumption, by assumption⟩
              case f2 =>
                intro g5 ys5 hI5
                unfold LCg.FinE
                intro D5 h5 tk5 F5 N5 off5
                have a53 : Apart (sS.heap.objs.size + 1 + 1 + 1) D5 := off5.2.2.2.2.2.2.2.2.1
                have lo4 : (List.filter (fun k => decide (k < 4)) R).length ≤ 8 := Nat.le_trans (List.length_filter_le _ _) hR8
                clear off5 F11 N11
                replace N5 : News (ghostOf sS.heap [(20, 16), (27, 23)]) sS.heap.objs.size h5 ((D5, W.listOf ys5.toArray ys5.length) :: (D4, W.listOf ys4.toArray ys4.length) :: LT rr vsr nr I oI rows r2 l1 c0 c2 sS.heap.objs.size vs1 vs2 n1 n2 oc0 oc2 oT oH oRow oOther) := N5
                dsimp only [LT, LQ] at N5
                k_steps
                refine held_in ?_
                rename Fr _ _ _ _ => F12
                rename News _ _ _ _ => N12
                refine srcT_list (ns := List.filter (fun k => decide (k < 4)) R) (fun k => !((List.filter (fun k => decide (4 ≤ k)) R).map (fun k => k - 4)).any (fun x => x == k)) id rfl F12 N12 (.tail _ (.tail _ (.head _))) hI4 lo4 ?t3 ?e3 ?f3
                case t3 =>
                  intro k6 t6 I6 oI6 C6 oC6 D6 m6 ys6 h6 tk6 E6 hk6 hC6 hm6 F6 N6
                  k_steps
                  all_goals (refine held_in ⟨?_, _, _, rfl, by assumption, by assumption⟩)
                  all_goals first | rfl | (rw [(by assumption : List.any _ _ = _)]; rfl)
                case e3 =>
                  intro k6 t6 I6 oI6 C6 oC6 D6 m6 ys6 h6 tk6 E6 hk6 hp6 hC6 hm6 F6 N6
                  k_steps
                  refine held_in ⟨⟨_, rfl⟩, _, _, rfl, by assumption, by assumption⟩
                case f3 =>
                  intro g6 ys6 hI6
                  rw [List.map_id, hhalf] at hI6
                  cases hI6
                  unfold LCg.FinE
                  intro D6 h6 tk6 F6 N6 off6
                  clear off6 F12
                  k_steps
                  rename Fr _ _ _ _ => F13
                  rename News _ _ _ _ => N13
                  replace N13 := news_pick N13 [false, false, false, false, false, false, true, true, true, true, true, true, true, true, true, true, true, true]
                  simp only [pick] at N13
                  exact ⟨_, _, _, _, rfl, F13, N13, off1, .inr ⟨_, .head _, rfl, 0, rfl⟩, rfl, rfl, _, _, _, _, by assumption, dRow, rfl⟩
    case done =>
      intro h tk m₁ nw hj hS F1 N1
      obtain ⟨hm1, hm2, oH, oR, vH, vR, dH, dR, rfl⟩ := hj
      rw [fr_shape hm1 hm2] at F1
      obtain ⟨RA, hRA⟩ : ∃ R, R = grownTo [a, b] 8 := ⟨_, rfl⟩
      obtain ⟨RB, hRB⟩ : ∃ R, R = grownTo [c, d] 8 := ⟨_, rfl⟩
      rw [← hRA] at I1
      rw [← hRB] at IR2
      have hA8 : RA.length ≤ 8 := hRA ▸ grownTo_len _ 8
      have hB8 : RB.length ≤ 8 := hRB ▸ grownTo_len _ 8
      have hfA : RA ∈ fam := by rw [hRA]; exact fam_of ha hb
      have hfB : RB ∈ fam := by rw [hRB]; exact fam_of hc hd
      have hk1 : ¬ 8 * ((bothF RA RB).length : Int) < (RA.length : Int) * (RB.length : Int) := fam_k1 RA hfA RB hfB
      have hk2 : bothF RB RA = bothF RA RB := fam_k2 RA hfA RB hfB
      have hk3 : ¬ 8 * ((bothF RA (lack RB)).length : Int) > (RA.length : Int) * ((lack RB).length : Int) := fam_k3 RA hfA RB hfB
      have aOS : Apart l1 r2 := .of_lt lOS
      clear N6 F6
      dsimp only [LQ] at F1 N1
      k_steps
      rename Fr _ _ _ _ => F2
      rename News _ _ _ _ => N2
      rename IsRange _ _ _ _ _ _ _ _ => hr2
      replace N2 := news_pick N2 [false, false, false, true, true, true, true, true, true, true, true, true, true, true]
      simp only [pick] at N2
      refine held_in ?_
      refine srcT_range8 (fun k => !(RB.any (fun x => x == k))) id rfl F2 N2 hr2 ?t1 ?e1 ?f1
      case t1 =>
        intro k4 t4 I4 oI4 C4 oC4 D4 m4 ys4 h4 tk4 E4 hk4 hC4 hm4 F4 N4
        k_steps
        all_goals (refine held_in ⟨?_, _, _, rfl, by assumption, by assumption⟩)
        all_goals first | rfl | (rw [(by assumption : List.any _ _ = _)]; rfl)
      case e1 =>
        intro k4 t4 I4 oI4 C4 oC4 D4 m4 ys4 h4 tk4 E4 hk4 hp4 hC4 hm4 F4 N4
        k_steps
        refine held_in ⟨⟨_, rfl⟩, _, _, rfl, by assumption, by assumption⟩
      case f1 =>
        intro g4 ys4 hI4
        rw [List.map_id] at hI4
        replace hI4 : IntsAre ys4 (lack RB) := hI4
        unfold LCg.FinA
        intro D4 h4 tk4 F4 N4 off4
        have aOD : Apart l1 D4 := off4.2.2.1
        have hL8 := lack_len RB
        clear off4 F2 N2 hr2
        replace N4 : News (ghostOf sS.heap [(20, 16), (27, 23)]) sS.heap.objs.size h4 ((D4, W.listOf ys4.toArray ys4.length) :: LQ rows r2 l1 c0 c2 sS.heap.objs.size vs1 vs2 n1 n2 oc0 oc2 oT oH oR oOther) := N4
        dsimp only [LQ] at N4
        k_steps
        rename Fr _ _ _ _ => F5
        rename News _ _ _ _ => N5
        replace N5 := news_pick N5 [false, false, true, true, true, true, true, true, true, true, true, true, true]
        simp only [pick] at N5
        clear N4 F4 N1 F1
        refine Assign_ListComp_C (ax := rows) (its := #[.ref l1, .ref r2]) (ShrJ (lack RA) (lack RB) (LQ rows r2 l1 c0 c2 sS.heap.objs.size vs1 vs2 n1 n2 oc0 oc2 oT oH oR oOther))
          rfl rfl F5 N5 (.inr ⟨_, .head _, rfl, 0, rfl⟩) (by exact Nat.le_of_ble_eq_true rfl) (by with_unfolding_all rfl) ?hit5 (by with_unfolding_all rfl) (fun _ => rfl) (fun _ => rfl) rfl (by decide) (by rfl) ⟨rfl, rfl⟩ (by rfl) (by rfl) ?turn5 ?fin5
        case hit5 => intro Q' E'' hq; walk1; exact hq
        case turn5 =>
          intro i v X oX oI I C oC D m₂ ys nw h tk E' hi hv hj hS hC hX F6 N6 off6 ne6
          refine wpAny_tests_nil ?_
          simp only [if_true]
          have hi : i < (2 : Nat) := hi
          rcases (Nat.le_one_iff_eq_zero_or_eq_one).mp (Nat.le_of_lt_succ hi) with rfl | rfl
          · obtain rfl : Value.ref l1 = v := Option.some.inj hv
            obtain ⟨rfl, rfl⟩ := hj
            have hoff := off6.mem
            dsimp only [LQ] at N6
            refine wpAny_viaF F6 (fun mm y s' => Held (∃ (D4 : Addr) (v4 : List Value) (k4 : Nat) (h' : Heap) (tk' : Nat), y = .ref D4 ∧ s' = { heap := h', gens := sS.gens, drawn := sS.drawn, toks := tk', os := sS.os } ∧ Fr (ghostOf sS.heap [(20, 16), (27, 23)]) sS.heap.objs.size h' mm ∧ News (ghostOf sS.heap [(20, 16), (27, 23)]) sS.heap.objs.size h' ((D4, W.listOf (List.toArray v4) k4) :: (X, oX) :: (I, oI) :: (C, oC) :: (D, LCg.lst []) :: LQ rows r2 l1 c0 c2 sS.heap.objs.size vs1 vs2 n1 n2 oc0 oc2 oT oH oR oOther) ∧ IntsAre v4 (lack RA) ∧ LCg.Off1 D4 ((X, oX) :: (I, oI) :: (C, oC) :: (D, LCg.lst []) :: LQ rows r2 l1 c0 c2 sS.heap.objs.size vs1 vs2 n1 n2 oc0 oc2 oT oH oR oOther))) ?c5 (fun y s' hq => ?_)
            case c5 =>
              clear F5 N5
              k_steps
              rename Fr _ _ _ _ => F7
              rename News _ _ _ _ => N7
              rename IsRange _ _ _ _ _ _ _ _ => hr7
              refine held_in ?_
              refine srcT_range8 (fun k => !(RA.any (fun x => x == k))) id rfl F7 N7 hr7 ?t1 ?e1 ?f1
              case t1 =>
                intro k4 t4 I4 oI4 C4 oC4 D4 m4 ys4 h4 tk4 E4 hk4 hC4 hm4 F4 N4
                k_steps
                all_goals (refine held_in ⟨?_, _, _, rfl, by assumption, by assumption⟩)
                all_goals first | rfl | (rw [(by assumption : List.any _ _ = _)]; rfl)
              case e1 =>
                intro k4 t4 I4 oI4 C4 oC4 D4 m4 ys4 h4 tk4 E4 hk4 hp4 hC4 hm4 F4 N4
                k_steps
                refine held_in ⟨⟨_, rfl⟩, _, _, rfl, by assumption, by assumption⟩
              case f1 =>
                intro g4 ys4 hI4
                rw [List.map_id] at hI4
                unfold LCg.FinE
                intro D4 h4 tk4 F4 N4 off4
                exact held_in ⟨D4, ys4, _, h4, tk4, rfl, rfl, F4, N4, hI4, off4⟩
            obtain ⟨D4, v4, k4, h4, tk4, rfl, rfl, F4, N4, hI4, off4⟩ := (hq : ∃ (D4 : Addr), _)
            refine ⟨h4, tk4, (D4, W.listOf (List.toArray v4) k4) :: LQ rows r2 l1 c0 c2 sS.heap.objs.size vs1 vs2 n1 n2 oc0 oc2 oT oH oR oOther, rfl, F4, fun q hq => N4 q ?_, ⟨⟨Ne.symm off4.1, Ne.symm off4.2.1, Ne.symm off4.2.2.1, Ne.symm off4.2.2.2.1⟩, off6⟩, .inr ⟨_, .tail _ (.head _), rfl, 0, rfl⟩, ?_⟩
            · simp only [List.mem_cons] at hq ⊢
              rcases hq with h | h | h | h | h | h
              · simp only [h, true_or, or_true]
              · simp only [h, true_or, or_true]
              · simp only [h, true_or, or_true]
              · simp only [h, true_or, or_true]
              · simp only [h, true_or, or_true]
              · exact .inr (.inr (.inr (.inr (.inr h))))
            · exact ⟨D4, v4, k4, rfl, rfl, hI4⟩
          · obtain rfl : Value.ref r2 = v := Option.some.inj hv
            obtain ⟨d1, v1, k1, rfl, rfl, hv1⟩ := hj
            have hoff := off6.mem
            dsimp only [LQ] at N6
            refine wpAny_viaF F6 (fun mm y s' => Held (∃ (D4 : Addr) (v4 : List Value) (k4 : Nat) (h' : Heap) (tk' : Nat), y = .ref D4 ∧ s' = { heap := h', gens := sS.gens, drawn := sS.drawn, toks := tk', os := sS.os } ∧ Fr (ghostOf sS.heap [(20, 16), (27, 23)]) sS.heap.objs.size h' mm ∧ News (ghostOf sS.heap [(20, 16), (27, 23)]) sS.heap.objs.size h' ((D4, W.listOf (List.toArray v4) k4) :: (X, oX) :: (I, oI) :: (C, oC) :: (D, LCg.lst [.ref d1]) :: (d1, W.listOf (List.toArray v1) k1) :: LQ rows r2 l1 c0 c2 sS.heap.objs.size vs1 vs2 n1 n2 oc0 oc2 oT oH oR oOther) ∧ IntsAre v4 (lack RB) ∧ LCg.Off1 D4 ((X, oX) :: (I, oI) :: (C, oC) :: (D, LCg.lst [.ref d1]) :: (d1, W.listOf (List.toArray v1) k1) :: LQ rows r2 l1 c0 c2 sS.heap.objs.size vs1 vs2 n1 n2 oc0 oc2 oT oH oR oOther))) ?c5 (fun y s' hq => ?_)
            case c5 =>
              clear F5 N5
              k_steps
              rename Fr _ _ _ _ => F7
              rename News _ _ _ _ => N7
              rename IsRange _ _ _ _ _ _ _ _ => hr7
              refine held_in ?_
              refine srcT_range8 (fun k => !(RB.any (fun x => x == k))) id rfl F7 N7 hr7 ?t1 ?e1 ?f1
              case t1 =>
                intro k4 t4 I4 oI4 C4 oC4 D4 m4 ys4 h4 tk4 E4 hk4 hC4 hm4 F4 N4
                k_steps
                all_goals (refine held_in ⟨?_, _, _, rfl, by assumption, by assumption⟩)
                all_goals first | rfl | (rw [(by assumption : List.any _ _ = _)]; rfl)
              case e1 =>
                intro k4 t4 I4 oI4 C4 oC4 D4 m4 ys4 h4 tk4 E4 hk4 hp4 hC4 hm4 F4 N4
                k_steps
                refine held_in ⟨⟨_, rfl⟩, _, _, rfl, by assumption, by assumption⟩
              case f1 =>
                intro g4 ys4 hI4
                rw [List.map_id] at hI4
                unfold LCg.FinE
                intro D4 h4 tk4 F4 N4 off4
                exact held_in ⟨D4, ys4, _, h4, tk4, rfl, rfl, F4, N4, hI4, off4⟩
            obtain ⟨D4, v4, k4, h4, tk4, rfl, rfl, F4, N4, hI4, off4⟩ := (hq : ∃ (D4 : Addr), _)
            refine ⟨h4, tk4, (D4, W.listOf (List.toArray v4) k4) :: (d1, W.listOf (List.toArray v1) k1) :: LQ rows r2 l1 c0 c2 sS.heap.objs.size vs1 vs2 n1 n2 oc0 oc2 oT oH oR oOther, rfl, F4, fun q hq => N4 q ?_, ⟨⟨Ne.symm off4.1, Ne.symm off4.2.1, Ne.symm off4.2.2.1, Ne.symm off4.2.2.2.1⟩, off6⟩, .inr ⟨_, .tail _ (.tail _ (.head _)), rfl, 0, rfl⟩, ?_⟩
            · simp only [List.mem_cons] at hq ⊢
              rcases hq with h | h | h | h | h | h
              · simp only [h, true_or, or_true]
              · simp only [h, true_or, or_true]
              · simp only [h, true_or, or_true]
              · simp only [h, true_or, or_true]
              · simp only [h, true_or, or_true]
              · exact .inr (.inr (.inr (.inr (.inr h))))
            · exact ⟨d1, v1, k1, D4, v4, k4, rfl, rfl, hv1, hI4, off4.2.2.2.2.1⟩
        case fin5 =>
          intro D ys nw h tk hj F6 N6 off6 _
          obtain ⟨d1, v1, k1, d2, v2, k2, rfl, rfl, hv1, hv2, hd⟩ := (hj : ShrJ _ _ _ 2 _ _)
          have hk4 : ¬ 8 * ((bothF (lack RA) (lack RB)).length : Int) < ((lack RA).length : Int) * ((lack RB).length : Int) := fam_k4 RA hfA RB hfB
          have hdn : ∀ k ∈ srt (List.map (fun k' => 7 - k') RA), ∀ j : Nat, j < 8 → Builtin.bitAnd (0 + (j : Int)) k = 0 + (j : Int) → ((srt (List.map (fun k' => 7 - k') RA)).any fun x => x == 0 + (j : Int)) = true := fam_dn RA hfA
          have hLA := lack_len RA
          have hLB := lack_len RB
          have hA64 : (List.map (fun k' => 7 - k') RA).length < 64 := by rw [List.length_map]; exact Nat.lt_of_le_of_lt hA8 (by decide)
          replace N6 : News (ghostOf sS.heap [(20, 16), (27, 23)]) sS.heap.objs.size h ((D, W.listOf #[.ref d1, .ref d2] 2) :: (d2, W.listOf (List.toArray v2) k2) :: (d1, W.listOf (List.toArray v1) k1) :: LQ rows r2 l1 c0 c2 sS.heap.objs.size vs1 vs2 n1 n2 oc0 oc2 oT oH oR oOther) := N6
          have aT1 : Apart (sS.heap.objs.size + 1 + 1 + 1 + 1) D := off6.2.2.2.2.2.2.1
          clear off6
          dsimp only [LQ] at N6
          k_steps
          rename_i D7 vs7 c7 h7 F7 N7 I7 lt7
          have hmark : TurnMark := trivial
          have aT7 : Apart (sS.heap.objs.size + 1 + 1 + 1 + 1) D7 := .of_lt lt7.2.2.2.2.2.2.2.2.2.1
          replace N7 := news_pick N7 [true, false, false, false, false, false, true, true, true, true, true, true, true, true, true, true, true]
          simp only [pick] at N7
          clear lt7
          refine held_in ?_
          k_steps
          rename Fr _ _ _ _ => F8
          rename News _ _ _ _ => N8
          refine ListComp_2 (ax := D7) (its := vs7.toArray) rfl F8 N8 (.inr ⟨_, .head _, rfl, c7, rfl⟩) ?hit8 (by with_unfolding_all rfl) (by decide) (by rfl) (by decide) (by rfl) (by rfl) (by decide) ?rng8 ?turn8 ?fin8
          case hit8 => intro Q' E'' hq; walk1; exact hq
          case rng8 =>
            intro I2 oI2 C2 oC2 D2 m2 h2 tk2 Q2 E2 hC2 F2 N2 k2
            k_steps
            exact k2 _ _ _ _ _ _ (by assumption) (by assumption) (by assumption)
          case turn8 =>
            intro i2 v2 j2 t2 I2 oI2 J2 oJ2 C2 oC2 D2 m2 h2 tk2 E2 hi2 hv2 hj2 hC2 hx2 hy2 F2 N2
            obtain ⟨k, t, rfl, hk⟩ := IntsAre.at I7 i2 v2 (by simpa using hv2)
            refine wpAny_held ?_
            k_steps
            all_goals (refine held_in ?_; first | exact ⟨rfl, _, _, rfl, by assumption, by assumption⟩ | exact absurd (hdn k (List.mem_of_getElem? hk) j2 hj2 (by assumption)) (by rw [(by assumption : List.any _ _ = _)]; exact Bool.false_ne_true))
          case fin8 =>
            intro D9 h9 tk9 F9 N9 off9
            clear off9
            k_steps)
end
end Mine

theorem PySem.Challenge.cw_kl0444_01_holds : PySem.Challenge.rw_kl0444_01.Holds := by
  exact Mine.holds

