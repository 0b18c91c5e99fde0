import PyProof.Rows.All
import Wide.All
import OpenK.AllK
import Wide.FinOn
import PySem.Challenge.RW_bj5013_01
set_option Elab.async false
set_option maxRecDepth 100000
set_option maxHeartbeats 0
set_option linter.unusedVariables false

section -- HdK
open PySem PySem.W PyProof.Rows
namespace Mine
open_top hd for PySem.Challenge.rw_bj5013_01

end Mine
end -- HdK

section -- B0
open PySem PySem.W PySem.W.X PySem.W.XRun PyProof.Rows
namespace Mine
abbrev prog := PySem.Challenge.pw_bj5013_01
abbrev Ext (h h' : Heap) : Prop := ∀ b o, h.get? b = some o → h'.get? b = some o
abbrev AX : Around := ⟨none, 600, none, none, 5000⟩
structure Fit (A : Around) : Prop where
  handled : A.handled = none
  depth : A.depth ≤ 600
  units : A.units ≤ 5000
theorem Fit.any {α : Type} {M : Model} {A : Around} {t : Sem α} {Q : α → Shared → Prop} {E : Value → Shared → Prop} {s : Shared} (f : Fit A) (h : wpAny M AX t Q E s) : wpAny M A t Q E s :=
  fun Γ p hΓ => h Γ p ⟨hΓ.1.trans f.handled, Nat.le_trans hΓ.2.1 f.depth, (fun _ e => nomatch e), (fun _ e => nomatch e), Nat.le_trans hΓ.2.2.2.2 f.units⟩
/-- a call that only adds to the heap -/
structure Pure (s s' : Shared) : Prop where
  ext : Ext s.heap s'.heap
  gens : s'.gens = s.gens
  drawn : s'.drawn = s.drawn
  os : s'.os = s.os
theorem Pure.eq {s s' : Shared} (p : Pure s s') : s' = { s with heap := s'.heap, toks := s'.toks } := by
  obtain ⟨h, g, d, t, os⟩ := s
  obtain ⟨h', g', d', t', os'⟩ := s'
  obtain ⟨_, rfl, rfl, rfl⟩ := p
  rfl
theorem Pure.of_mem {h h' : Heap} {g d t t' os news} (D : Mem h h' [] news) : Pure ⟨h, g, d, t, os⟩ ⟨h', g, d, t', os⟩ := ⟨fun b o e => D.old b o e (by rw [show away [] b = true from rfl, Bool.or_true]), rfl, rfl, rfl⟩
/-- what a contract by running says, in the shape in which it is used -/
theorem Fit.pure {A : Around} {M : Model} {t : Sem Value} {r : Value} {s : Shared} {Q : Value → Shared → Prop} {E : Value → Shared → Prop} (f : Fit A)
    (c : wpAny M AX t (fun v s' => v = r ∧ Pure s s') (fun _ _ => False) s) (h : ∀ h' tk, Ext s.heap h' → Q r { s with heap := h', toks := tk }) : wpAny M A t Q E s :=
  f.any (wpAny_mono c (fun v s' ⟨e, p⟩ => by rw [e, p.eq]; exact h _ _ p.ext) fun _ _ x => x.elim)
abbrev tagObj (dx : Addr) (c : Int) (t1 : Tok) (v : PySem.Str) (t2 : Tok) : Obj := ⟨.ref 114, some dx, .plain, #[some (.int c t1), some (.str v t2)]⟩
theorem dec_bool {p : Prop} [Decidable p] {b : Bool} (h : p ↔ b = true) : Value.bool b = Value.bool (decide p) := by
  by_cases q : p
  · rw [h.mp q, decide_eq_true q]
  · have : b = false := by
      cases b with
      | false => rfl
      | true => exact absurd (h.mpr rfl) q
    rw [this, decide_eq_false q]
theorem fill : PySem.Challenge.rw_bj5013_01 = PySem.Challenge.rw_bj5013_01 ∧ hd.heap_39 = hd.heap_39 → True := by
  k_fill
  intro _
  trivial
end Mine
end -- B0

section -- P1
open PySem PySem.W PyProof.Rows
namespace Mine
theorem numT_ex (c : Int) : ∃ x, x = PySem.Str.ofString (toString c) := ⟨_, rfl⟩
/-- the text of a number, shut to the walk -/
noncomputable def numT (c : Int) : PySem.Str := Classical.choose (numT_ex c)
theorem numT_def (c : Int) : numT c = PySem.Str.ofString (toString c) := Classical.choose_spec (numT_ex c)
theorem code_cases {P : Int → Prop} (h : ∀ i : Fin 1121, P ((i.val : Int) - 10)) {c : Int} (lo : -10 ≤ c) (hi : c ≤ 1110) : P c := by
  have := h ⟨(c + 10).toNat, by omega⟩
  have e : (((c + 10).toNat : Nat) : Int) - 10 = c := by omega
  rw [e] at this
  exact this
theorem numT_len_all : ∀ i : Fin 1121, (1 ≤ (PySem.Str.ofString (toString ((i.val : Int) - 10))).length ∧ (PySem.Str.ofString (toString ((i.val : Int) - 10))).length ≤ 4) := by decide +kernel
theorem numT_len {c : Int} (lo : -10 ≤ c) (hi : c ≤ 1110) : 1 ≤ (numT c).length ∧ (numT c).length ≤ 4 := by
  rw [numT_def]
  exact code_cases (P := fun c => 1 ≤ (PySem.Str.ofString (toString c)).length ∧ (PySem.Str.ofString (toString c)).length ≤ 4) numT_len_all lo hi
theorem small_log {c : Int} (lo : -10 ≤ c) (hi : c ≤ 1110) : c.natAbs.log2 < 1920 := by
  have h1 : c.natAbs < 2 ^ 1920 := Nat.lt_of_lt_of_le (show c.natAbs < 2 ^ 11 by omega) (Nat.pow_le_pow_right (by decide) (by decide))
  by_cases z : c.natAbs = 0
  · rw [z]; decide
  · exact (Nat.log2_lt z).mpr h1
section
variable {w : World} {A : Around} {E : Value → Shared → Prop} {s : Shared} {D L : Addr} {h₀ : Heap} {m : PySem.Str → Option Value} {news : List (Addr × Obj)} {Q : Value → Shared → Prop}
theorem str_code {c : Int} {t : Tok} (lo : -10 ≤ c) (hi : c ≤ 1110) (h : ∀ t' tk, Q (.str (numT c) t') { s with toks := tk }) : wpAny (model prog w) A (PySem.call (.type "str") [.int c t]) Q E s := by
  refine PySem.P.str_of_int (small_log lo hi) ?_
  have := h s.toks (s.toks + 1)
  rw [numT_def] at this
  exact this
theorem tuple_same {its : Array Value} {n : Nat} (N : News h₀ L s.heap news) (hm : (D, ({ cls := .type "tuple", data := .seq its n } : Obj)) ∈ news) (h : Q (.ref D) s) : wpAny (model prog w) A (PySem.call (.type "tuple") [.ref D]) Q E s :=
  call_tuple_same (⟨_, N.get hm, rfl, _, rfl⟩) h
theorem str_tup {c : Int} {v : PySem.Str} {t t2 : Tok} {n : Nat} (hg : A.guards = some []) (hu : A.units + 8 < cLine) (F : Fr h₀ L s.heap m) (N : News h₀ L s.heap news) (hm : (D, ({ cls := .type "tuple", data := .seq [.int c t, .str v t2].toArray n } : Obj)) ∈ news) (lo : -10 ≤ c) (hi : c ≤ 1110)
   (vl : v.length ≤ 20) (vrep : reprText v = PySem.Str.ofString "'" ++ v ++ PySem.Str.ofString "'")
   (h : ∀ t' tk h', Fr h₀ L h' m → News h₀ L h' news → Q (.str (PySem.Str.ofString "(" ++ numT c ++ PySem.Str.ofString ", '" ++ v ++ PySem.Str.ofString "')") t') { s with heap := h', toks := tk }) : wpAny (model prog w) A (PySem.call (.type "str") [.ref D]) Q E s := by
  have e : (PyData.tuple [.int c, .str v]).shown = PySem.Str.ofString "(" ++ numT c ++ PySem.Str.ofString ", '" ++ v ++ PySem.Str.ofString "')" := by
    show tupleText [toString c, reprText v] = _
    have e1 : PySem.Str.ofString ", '" = PySem.Str.ofString ", " ++ PySem.Str.ofString "'" := by decide +kernel
    have e2 : PySem.Str.ofString "')" = PySem.Str.ofString "'" ++ PySem.Str.ofString ")" := by decide +kernel
    rw [vrep, numT_def, e1, e2]
    unfold tupleText
    simp only [PySem.Str.join, List.length_cons, List.length_nil]
    simp only [PySem.Str.append_assoc]
    rfl
  refine str_of_reads (d := .tuple [.int c, .str v]) (reads_tuple_at (N.get hm) rfl rfl (ReadsAll.cons (Reads.int _ _) (ReadsAll.cons (Reads.str _ _) ReadsAll.nil))) ?_ (PyData.noDict_hsm rfl) hg ?_ (fun _ _ e => e) (fun h' u tk hk => ?_) ?_
  · simp [PyData.showable, PyData.showableAll, small_log lo hi]
  · simp only [PyData.depth, PyData.depthAll]; omega
  · rw [e]; exact h _ _ _ (F.keptAll hk) (N.grown hk)
  · rw [e]
    have := numT_len lo hi
    have l1 : (PySem.Str.ofString "(").length = 1 := by decide +kernel
    have l2 : (PySem.Str.ofString ", '").length = 3 := by decide +kernel
    have l3 : (PySem.Str.ofString "')").length = 2 := by decide +kernel
    simp only [PySem.Str.length_append, l1, l2, l3, PySem.sizeLine_eq]
    omega
end
end Mine
end -- P1

section -- P2
open PySem PySem.W PyProof.Rows
namespace Mine
noncomputable abbrev wrT (c : Int) (v : PySem.Str) : PySem.Str := Txt.mul (PySem.Str.ofString " ") (3 - ↑(numT c).length) ++ numT c ++ PySem.Str.ofString "\n" ++ v ++ PySem.Str.ofString "\n"
abbrev c3 : Builtin.Str.Percent := { width := some 3, type := 100 }
abbrev digs (c : Int) : List Nat := (PySem.Str.ofString (toString ((c.natAbs : Nat) : Int))).cps.toList
abbrev pad3 (x : PySem.Str) : PySem.Str := Txt.mul (PySem.Str.ofString " ") (3 - (x.length : Int)) ++ x
theorem field_all : ∀ i : Fin 1121, (match Builtin.Str.percentField c3 true (Builtin.Str.percentInt c3 (decide ((i.val : Int) - 10 < 0)) (digs ((i.val : Int) - 10))) with
    | none => (⟨(Builtin.Str.percentInt c3 (decide ((i.val : Int) - 10 < 0)) (digs ((i.val : Int) - 10))).toArray⟩ : PySem.Str)
    | some laid => ⟨laid.toArray⟩) = pad3 (PySem.Str.ofString (toString ((i.val : Int) - 10))) ∧ (pad3 (PySem.Str.ofString (toString ((i.val : Int) - 10)))).length ≤ 8 := by decide +kernel
theorem field_is {c : Int} (lo : -10 ≤ c) (hi : c ≤ 1110) : (match Builtin.Str.percentField c3 true (Builtin.Str.percentInt c3 (decide (c < 0)) (digs c)) with
    | none => (⟨(Builtin.Str.percentInt c3 (decide (c < 0)) (digs c)).toArray⟩ : PySem.Str)
    | some laid => ⟨laid.toArray⟩) = pad3 (numT c) ∧ (pad3 (numT c)).length ≤ 8 := by
  rw [numT_def]
  exact code_cases (P := fun c => (match Builtin.Str.percentField c3 true (Builtin.Str.percentInt c3 (decide (c < 0)) (digs c)) with
    | none => (⟨(Builtin.Str.percentInt c3 (decide (c < 0)) (digs c)).toArray⟩ : PySem.Str)
    | some laid => ⟨laid.toArray⟩) = pad3 (PySem.Str.ofString (toString c)) ∧ (pad3 (PySem.Str.ofString (toString c))).length ≤ 8) field_all lo hi
theorem field_none {c : Int} (lo : -10 ≤ c) (hi : c ≤ 1110) (h : Builtin.Str.percentField c3 true (Builtin.Str.percentInt c3 (decide (c < 0)) (digs c)) = none) :
    (⟨(Builtin.Str.percentInt c3 (decide (c < 0)) (digs c)).toArray⟩ : PySem.Str) = pad3 (numT c) := by
  have := (field_is lo hi).1
  rw [h] at this
  exact this
theorem field_some {c : Int} (lo : -10 ≤ c) (hi : c ≤ 1110) {l : List Nat} (h : Builtin.Str.percentField c3 true (Builtin.Str.percentInt c3 (decide (c < 0)) (digs c)) = some l) :
    (⟨l.toArray⟩ : PySem.Str) = pad3 (numT c) := by
  have := (field_is lo hi).1
  rw [h] at this
  exact this
local macro_rules | `(tactic| kpt_hd) => `(tactic| with_reducible assumption)
local macro_rules | `(tactic| kpt_len) => `(tactic| with_reducible assumption)
section
variable {w : World} {A : Around} {E : Value → Shared → Prop} {s : Shared} {D L : Addr} {h₀ : Heap} {m : PySem.Str → Option Value} {news : List (Addr × Obj)} {Q : Value → Shared → Prop}
theorem isoQ {α : Type} {M : Model} {A : Around} {t : Sem α} {Q : α → Shared → Prop} {E : Value → Shared → Prop} {s : Shared} (h : ∀ Q', Q' = Q → wpAny M A t Q' E s) : wpAny M A t Q E s := h Q rfl
theorem goodAt {w : Builtin.Str.Writer} {T : PySem.Str} {N K : Nat} (g : KPc.Good w T N) (hN : N ≤ K) : KPc.Good w T K := KPc.good_mono g hN
theorem fmt_meets {c : Int} {v : PySem.Str} {t t1 t2 : Tok} {b : Addr} (lo : -10 ≤ c) (hi : c ≤ 1110) (vl : v.length ≤ 20) :
    Meets (Builtin.«str.__mod__» ⟨[.str ⟨#[37, 51, 100, 10, 37, 115, 10]⟩ t, .ref b], []⟩) (fun _ R s => IsTup s.heap b [Value.int c t1, .str v t2].toArray ∧ ∀ t' k, R (.ok (.ret (.str (wrT c v) t'))) { s with toks := k }) := by
  have hlog := small_log lo hi
  have hpl := (field_is lo hi).2
  apply KPt.meets_tup
  intro _ _ _ _ _ _ kptH _
  obtain ⟨kptO, kptG, kptC, kptN, kptD⟩ := kptH
  rw [KPt.entry_is_r]
  unfold Builtin.Str.percentFormat
  refine wpAny_bind (wpAny_isInstance (T := "tuple") ⟨kptO, kptG, kptC⟩ KPt.sub_tt ?_)
  refine wpAny_bind (KPt.asStr_ref kptG kptD ?_)
  refine wpAny_bind (KPt.fills_ref ⟨kptO, kptG, kptC⟩ ?_)
  intro _
  kpc_if
  refine wpAny_bind (wpAny_seqItems kptG kptD ?_)
  refine wpAny_bind (wpAny_pure ?_)
  refine wpAny_bind ?_
  rw [KPc.range_list]
  refine KPc.start ?_
  intro _ _
  refine KPc.turn ?_; kpc_check; (repeat kpc_if)
  refine wpAny_bind ?_; refine wpAny_holding ?_; (repeat kpc_if); kpt_conv; refine wpAny_pure ?_
  refine isoQ ?_
  intro Q9 hQ9
  dsimp only
  split
  · rename_i hF
    have hF' := field_none lo hi hF
    refine wpAny_pure ?_
    subst hQ9
    refine KPc.after_add0 (by kpc_g) hF' (by kpc_obj) ?_
    intro w9 g9
    have g10 := goodAt (K := 8) g9 (by omega)
    clear g9 hF hF'
    kpt_turns
  · rename_i hF
    have hF' := field_some lo hi hF
    refine wpAny_pure ?_
    subst hQ9
    refine KPc.after_add0 (by kpc_g) hF' (by kpc_obj) ?_
    intro w9 g9
    have g10 := goodAt (K := 8) g9 (by omega)
    clear g9 hF hF'
    kpt_turns
theorem fmt_tup {c : Int} {v : PySem.Str} {t t1 t2 : Tok} {n : Nat} (N : News h₀ L s.heap news) (hm : (D, ({ cls := .type "tuple", data := .seq [.int c t1, .str v t2].toArray n } : Obj)) ∈ news) (lo : -10 ≤ c) (hi : c ≤ 1110) (vl : v.length ≤ 20)
   (h : ∀ t' tk, Q (.str (wrT c v) t') { s with toks := tk }) : wpAny (model prog w) A (binaryOp .Mod (.str (PySem.Str.ofString "%3d\n%s\n") t) (.ref D)) Q E s :=
  KPt.mod_tuple N hm (by decide +kernel) (fmt_meets lo hi vl) h
end
end Mine
end -- P2

section -- G0
open PySem PySem.W PyProof.Rows PySem.Calls
namespace Mine
/-- room for some calls more -/
structure Room (A : Around) (d u : Nat) : Prop where
  handled : A.handled = none
  depth : A.depth + d ≤ 600
  units : A.units + u ≤ 5000
theorem Room.fit {A : Around} {d u : Nat} (r : Room A d u) : Fit A := ⟨r.handled, by have := r.depth; omega, by have := r.units; omega⟩
theorem Room.in1 {A : Around} {d u : Nat} (r : Room A d (u + 1)) : Room A.in1 d u := ⟨r.handled, r.depth, by have := r.units; show A.units + 1 + u ≤ 5000; omega⟩
theorem Room.deeper {A : Around} {d u : Nat} {env : Env} (r : Room A (d + 1) (u + 3)) : Room (A.deeper env) d u := ⟨r.handled, by have := r.depth; show A.depth + 1 + d ≤ 600; omega, by have := r.units; show A.units + 3 + u ≤ 5000; omega⟩
theorem Room.less {A : Around} {d u d' u' : Nat} (r : Room A d u) (h1 : d' ≤ d) (h2 : u' ≤ u) : Room A d' u' := ⟨r.handled, by have := r.depth; omega, by have := r.units; omega⟩
theorem Room.deep {A : Around} {d u : Nat} (r : Room A d u) : A.depth < recursionLimit := by
  have := r.depth
  show A.depth < 1000
  omega
/-- a function of the text is called, whatever stands around -/
theorem call_fn {prog : Program} {w : World} {A : Around} {s : Shared} {K : Frag} {R : Result → Shared → Prop} {name qual : PySem.Str} {params : Arguments} {body : List Stmt} {scope : Scope} {dV kV doc pm cdv ct oc : Value} {an od : Option Addr} {osl : Array (Option Value)} {f : Addr} {args : Args} {binds : List (PySem.Str × Value)}
    (X : K.In s.heap) (hlim : s.heap.NoLimit) (hroom : A.depth < recursionLimit)
    (ho : K.lookup f = some ⟨oc, od, .func (fnOf name qual params body scope dV kV doc pm an cdv ct), osl⟩) (hcd : codeIn K cdv qual = true)
    (hbind : BindsTo s (fnOf name qual params body scope dV kV doc pm an cdv ct) args binds) (hloc : ∀ y ∈ binds, scope.names.lookup y.1 = some .local)
    (h : ∀ h₁, Fr s.heap s.heap.objs.size h₁ (fun y => binds.reverse.lookup y) →
      wpAny (model prog w) (A.deeper (envOf qual scope s.heap.objs.size f cdv)) (execs body (envOf qual scope s.heap.objs.size f cdv))
        (fun fl s' => R (.ok (.ret (match fl with | .ret v => v | _ => .none))) s')
        (fun e s' => wpAny (model prog w) (A.deeper (envOf qual scope s.heap.objs.size f cdv)) (leaving (envOf qual scope s.heap.objs.size f cdv) e) (fun _ s'' => R (.error e) s'') (fun e' s'' => R (.error e') s'') s')
        { s with heap := h₁, toks := s.toks + binds.length })
    (hco : scope.isCoroutine = false := by rfl) (hgen : scope.isGenerator = false := by rfl) (hk : scope.kind = .function := by rfl)
    (hcell : ∀ x ∈ scope.names, x.2 ≠ .cell := by decide) : codeAny (model prog w) A (.call (.ref f) args) R s := by
  refine codeAny_call_def (fd := fnOf name qual params body scope dV kV doc pm an cdv ct) (body := body) (binds := binds) hroom (X _ _ ho) rfl hlim (codeRec_of X hcd) rfl hbind hcell hloc (fun h₁ hns hk₁ => ?_) hco hgen hk
  exact h h₁ ⟨hns, hk₁, Nat.le_refl _⟩
section
variable {w : World} {A : Around} {E : Value → Shared → Prop} {s : Shared} {x dx L : Addr} {h₀ : Heap} {m : PySem.Str → Option Value} {c : Int} {v : PySem.Str} {t1 t2 : Tok}
theorem tag_inst {h : Heap} (ho : h.get? x = some (tagObj dx c t1 v t2)) (hdx : h.get? dx = some (dictOf [] 0)) : W.InstAt h x (tagObj dx c t1 v t2) 114 (some (dictOf [] 0)) := ⟨ho, rfl, rfl, hdx⟩
theorem slot_code {e : Bool} {Q : Value → Shared → Prop} (F : Fr h₀ L s.heap m) (X : (hd.heap_39 w.params).In h₀) (ho : s.heap.get? x = some (tagObj dx c t1 v t2)) (hdx : s.heap.get? dx = some (dictOf [] 0))
    (h : Q (.int c t1) { s with toks := s.toks + 1 }) : wpAny (model prog w) A (getAttr (.ref x) "_code" e) Q E s := by
  refine' get_slot (v := .int c t1) F X (tag_inst ho hdx) ?k4 ?k5 ?k6 ?k7 ?k8 ?k9 ?k10 ?k11 h
  case k4 => k_is
  case k5 => k_is
  case k6 => k_is
  case k7 => k_is
  case k8 => k_is
  case k9 => k_is
  case k10 => rfl
  case k11 => rfl
theorem slot_value {e : Bool} {Q : Value → Shared → Prop} (F : Fr h₀ L s.heap m) (X : (hd.heap_39 w.params).In h₀) (ho : s.heap.get? x = some (tagObj dx c t1 v t2)) (hdx : s.heap.get? dx = some (dictOf [] 0))
    (h : Q (.str v t2) { s with toks := s.toks + 1 }) : wpAny (model prog w) A (getAttr (.ref x) "_value" e) Q E s := by
  refine' get_slot (v := .str v t2) F X (tag_inst ho hdx) ?k4 ?k5 ?k6 ?k7 ?k8 ?k9 ?k10 ?k11 h
  case k4 => k_is
  case k5 => k_is
  case k6 => k_is
  case k7 => k_is
  case k8 => k_is
  case k9 => k_is
  case k10 => rfl
  case k11 => rfl
theorem code59 {R : Result → Shared → Prop} (r : Room A 1 3) (X : (hd.heap_39 w.params).In s.heap) (hl : s.heap.NoLimit) (ho : s.heap.get? x = some (tagObj dx c t1 v t2)) (hdx : s.heap.get? dx = some (dictOf [] 0))
    (h : ∀ h' tk, Ext s.heap h' → R (.ok (.ret (.int c t1))) { s with heap := h', toks := tk }) : codeAny (model prog w) A (.call (.ref 59) ⟨[.ref x], []⟩) R s := by
  refine' call_fn X hl r.deep ?k1 ?k2 ?k3 ?k4 ?_ ?c2 ?c3 ?c4 ?c5
  case k1 => k_is
  case k2 => k_is
  case k3 => exact BindsTo.of_eq rfl
  case k4 => exact locs rfl
  case c5 => decide
  case c2 => exact rfl
  case c3 => exact rfl
  case c4 => exact rfl
  intro h₁ F
  refine wpAny_execs_cons (wpAny_Return_some (Attribute_name (ld F rfl ?_)))
  refine slot_code F X (F.keep _ _ ho) (F.keep _ _ hdx) ?_
  exact h _ _ F.keep
theorem code67 {R : Result → Shared → Prop} (r : Room A 1 3) (X : (hd.heap_39 w.params).In s.heap) (hl : s.heap.NoLimit) (ho : s.heap.get? x = some (tagObj dx c t1 v t2)) (hdx : s.heap.get? dx = some (dictOf [] 0))
    (h : ∀ h' tk, Ext s.heap h' → R (.ok (.ret (.str v t2))) { s with heap := h', toks := tk }) : codeAny (model prog w) A (.call (.ref 67) ⟨[.ref x], []⟩) R s := by
  refine' call_fn X hl r.deep ?k1 ?k2 ?k3 ?k4 ?_ ?c2 ?c3 ?c4 ?c5
  case k1 => k_is
  case k2 => k_is
  case k3 => exact BindsTo.of_eq rfl
  case k4 => exact locs rfl
  case c5 => decide
  case c2 => exact rfl
  case c3 => exact rfl
  case c4 => exact rfl
  intro h₁ F
  refine wpAny_execs_cons (wpAny_Return_some (Attribute_name (ld F rfl ?_)))
  refine slot_value F X (F.keep _ _ ho) (F.keep _ _ hdx) ?_
  exact h _ _ F.keep
/-- a property of a class with slots alone -/
theorem get_propS {K : Frag} {C : Addr} {ox : Obj} {name : PySem.Str} {expr : Bool} {p fget : Addr} {rest : List Value} {od : Obj} {Q : Value → Shared → Prop} (F : Fr h₀ L s.heap m) (X₀ : K.In h₀) (I : W.InstAt s.heap x ox C (some od)) (hg : plainGet K C name = true) (hc : isClsIn K C = true)
    (ha : findIn K (.ref C) name = some (some (.ref p))) (hn : specialIn K (.ref p) "__get__" = some (some (.builtin "property.__get__"))) (ht : takesIn K (.ref p) = some true) (hp : recIn K p "property" = some (.ref fget :: rest))
    (h : codeAny (model prog w) A.in1 (.call (.ref fget) ⟨[.ref x], []⟩) (fun r s' => match r with | .ok (.ret v) => wpAny (model prog w) A (handedOut v) Q E s' | .ok _ => False | .error e => wpAny (model prog w) A (noteIf true (.ref x) (.str name s.toks) e) (fun _ s'' => E e s'') E s') { s with toks := s.toks + 1 }) :
    wpAny (model prog w) A (getAttr (.ref x) name expr) Q E s :=
  get_bind (X₀.keeps F.keep) I (plainGet_of hg).1 (findObj_data hc ha hn ht) (plainGet_of hg).2 (wpAny_call (prop_get (s := { s with toks := s.toks + 1 }) (X₀.keeps F.keep) hp h))
theorem prop_code {e : Bool} {Q : Value → Shared → Prop} (r : Room A 1 4) (F : Fr h₀ L s.heap m) (X : (hd.heap_39 w.params).In h₀) (hl : h₀.NoLimit) (ho : s.heap.get? x = some (tagObj dx c t1 v t2)) (hdx : s.heap.get? dx = some (dictOf [] 0))
    (h : ∀ h' tk, Ext s.heap h' → Q (.int c t1) { s with heap := h', toks := tk }) : wpAny (model prog w) A (getAttr (.ref x) "code" e) Q E s := by
  refine' get_propS F X (tag_inst ho hdx) ?k4 ?k5 ?k6 ?k7 ?k8 ?k9 (code59 (A := A.in1) r.in1 (X.keeps F.keep) (hl.keeps F.keep) ho hdx fun h' tk e => handed_on rfl (h h' tk e))
  case k4 => k_is
  case k5 => k_is
  case k6 => k_is
  case k7 => k_is
  case k8 => k_is
  case k9 => k_is
theorem prop_value {e : Bool} {Q : Value → Shared → Prop} (r : Room A 1 4) (F : Fr h₀ L s.heap m) (X : (hd.heap_39 w.params).In h₀) (hl : h₀.NoLimit) (ho : s.heap.get? x = some (tagObj dx c t1 v t2)) (hdx : s.heap.get? dx = some (dictOf [] 0))
    (h : ∀ h' tk, Ext s.heap h' → Q (.str v t2) { s with heap := h', toks := tk }) : wpAny (model prog w) A (getAttr (.ref x) "value" e) Q E s := by
  refine' get_propS F X (tag_inst ho hdx) ?k4 ?k5 ?k6 ?k7 ?k8 ?k9 (code67 (A := A.in1) r.in1 (X.keeps F.keep) (hl.keeps F.keep) ho hdx fun h' tk e => handed_on rfl (h h' tk e))
  case k4 => k_is
  case k5 => k_is
  case k6 => k_is
  case k7 => k_is
  case k8 => k_is
  case k9 => k_is
end
end Mine
end -- G0

section -- G1
open PySem PySem.W PyProof.Rows PySem.Calls
namespace Mine
theorem Room.over {A : Around} {d u : Nat} {body : List Stmt} {env : Env} (r : Room A (d + 1) (u + 3)) : Room (A.over (.func body env) []) d u := ⟨r.handled, by have := r.depth; show A.depth + 0 + 1 + d ≤ 600; omega, by have := r.units; show A.units + 0 + 3 + u ≤ 5000; omega⟩
/-- since a resumption: the heap has only grown -/
def Since (s₀ s : Shared) : Prop := ∃ h' tk, s = { s₀ with heap := h', toks := tk } ∧ Ext s₀.heap h'
theorem Since.refl (s : Shared) : Since s s := ⟨s.heap, s.toks, rfl, fun _ _ e => e⟩
theorem Since.step {s₀ s : Shared} (x : Since s₀ s) {h' : Heap} {tk : Nat} (k : Ext s.heap h') : Since s₀ { s with heap := h', toks := tk } := by
  obtain ⟨h₁, tk₁, rfl, k₁⟩ := x
  exact ⟨h', tk, rfl, fun b o e => k b o (k₁ b o e)⟩
section
variable {prog : Program} {w : World} {A : Around} {E : Value → Shared → Prop} {s : Shared}
/-- one draw from a generator that stands ready -/
theorem next_gen {a : Addr} {g n : Nat} {gs : GenState} {P : Nat → Shared → Shared → Prop} {Y : Protocol} {Q : Option Value → Shared → Prop} (hh : A.handled = none)
    (hl : s.heap.NoLimit) (hroom : A.depth < recursionLimit) (hg : s.heap.IsGen a g) (hgs : s.gens[g]? = some gs)
    (hgo : gs.Goes (model prog w) A.in1 (fun n s₀ r s₁ => (r = .ok .next ∨ r = .ok (.ret .none)) ∧ P n s₀ s₁) Y n (.send .none) (s.setGen g .running))
    (hY : ∀ v s₁ gs', gs'.bare = true → Y (n - 1) (s.setGen g .running) v s₁ (fun r' s'' => match n with
        | 0 => False
        | m + 1 => gs'.Goes (model prog w) A.in1 (fun n s₀ r s₁ => (r = .ok .next ∨ r = .ok (.ret .none)) ∧ P n s₀ s₁) Y m r' s'') → Q (some v) (s₁.setGen g gs'))
    (hP : ∀ s₁, P n (s.setGen g .running) s₁ → ∀ h', Ext s₁.heap h' → Q none { s₁.setGen g .finished with heap := h' }) :
    wpAny (model prog w) A (pyNext (.ref a)) Q E s := by
  unfold pyNext
  refine wpAny_bind (wpAny_attempt (wpAny_callSpecial?_slot (name := PySem.Str.ofString "__next__") hg.typeIs slot_gen_next
    (wpAny_call_entry slot_gen_next hg.typeIs entry_gen_next ?_ (args_gen_next _))))
  show wpAny _ A.in1 (Builtin.Generator.genWake (.ref a) (.send .none)) _ _ s
  unfold Builtin.Generator.genWake
  refine wpAny_bind (wpAny_holding (wpAny_genNumber hg (wpAny_bind (wpAny_genState hgs ?_))))
  have wake : ∀ {α : Type} {k : GenResult → Sem α} {Q' : α → Shared → Prop} {E' : Value → Shared → Prop}
      (hR : ∀ s₁, P n (s.setGen g .running) s₁ → wpAny (model prog w) A.in1 (k (.returned .none)) Q' E' (s₁.setGen g .finished))
      (hS : ∀ v s₁ gs', gs'.bare = true → Y (n - 1) (s.setGen g .running) v s₁ (fun r' s'' => match n with
        | 0 => False
        | m + 1 => gs'.Goes (model prog w) A.in1 (fun n s₀ r s₁ => (r = .ok .next ∨ r = .ok (.ret .none)) ∧ P n s₀ s₁) Y m r' s'') → wpAny (model prog w) A.in1 (k (.yielded v)) Q' E' (s₁.setGen g gs')),
      wpAny (model prog w) A.in1 (.resume g (.send .none) [] k) Q' E' s := by
    intro α k Q' E' hR hS
    refine wpAny_resumeQ hgs hgo (fun x s₁ hx => ?_) hS
    obtain ⟨hx, hp⟩ := hx
    rcases hx with rfl | rfl
    · exact hR s₁ hp
    · exact hR s₁ hp
  cases gs with
  | running => exact hgo.elim
  | finished => exact hgo.elim
  | _ =>
    refine wpAny_bind (wpAny_roomToWake hl hroom ?_)
    show wpAny _ A.in1 (.resume g (.send .none) [] _) _ _ s
    refine wake (fun s₁ hp => ?_) (fun v s₁ gs' hb hv => ?_)
    · show wpAny _ A.in1 (newExc (.type "StopIteration") [] >>= _) _ _ _
      refine wpAny_bind ?_
      simp only [newExc, newTuple]
      refine wpAny_bind (wpAny_newObj_type ?_ (by size_fits))
      refine wpAny_bind (m := firstArgMember _ _) (wpAny_of_eq (a := Value.none) (by first | rfl | (simp only [firstArgMember]; rfl)) ?_)
      refine wpAny_newObj_type ?_ (by size_fits)
      simp only [raiseNew]
      refine wpAny_bind (wpAny_bind (wpAny_handled ?_))
      first | rw [show A.in1.handled = none from hh] | rw [hh]
      refine wpAny_throw ?_
      refine wpAny_bind (wpAny_isInstance (T := "StopIteration") (b := true) ⟨_, Heap.get?_push_size _ rfl, rfl⟩ isSubtype_stop ?_)
      exact wpAny_pure (hP s₁ hp _ fun b o hb => Heap.get?_push_of_some _ (Heap.get?_push_of_some _ hb))
    · exact wpAny_pure ⟨v, rfl, wpAny_pure (hY v s₁ gs' hb hv)⟩
/-- a generator function of the text is called: the generator -/
theorem call_genfn {K : Frag} {R : Result → Shared → Prop} {name qual : PySem.Str} {params : Arguments} {body : List Stmt} {scope : Scope} {dV kV doc pm cdv ct oc : Value} {an od : Option Addr} {osl : Array (Option Value)} {f : Addr} {args : Args} {binds : List (PySem.Str × Value)}
    (X : K.In s.heap) (hlim : s.heap.NoLimit) (hroom : A.depth < recursionLimit)
    (ho : K.lookup f = some ⟨oc, od, .func (fnOf name qual params body scope dV kV doc pm an cdv ct), osl⟩) (hcd : codeIn K cdv qual = true)
    (hbind : BindsTo s (fnOf name qual params body scope dV kV doc pm an cdv ct) args binds) (hloc : ∀ y ∈ binds, scope.names.lookup y.1 = some .local)
    (h : ∀ h₁ tk, Fr s.heap s.heap.objs.size h₁ (fun y => binds.reverse.lookup y) → h₁.IsGen (s.heap.objs.size + 1) s.gens.size →
      R (.ok (.ret (.ref (s.heap.objs.size + 1)))) { s with gens := s.gens.push (.fresh (.func body (envOf qual scope s.heap.objs.size f cdv))), heap := h₁, toks := tk })
    (hco : scope.isCoroutine = false := by rfl) (hgen : scope.isGenerator = true := by rfl) (hk : scope.kind = .function := by rfl)
    (hcell : ∀ x ∈ scope.names, x.2 ≠ .cell := by decide) : codeAny (model prog w) A (.call (.ref f) args) R s := by
  refine codeAny_call_generator (fd := fnOf name qual params body scope dV kV doc pm an cdv ct) hroom (X _ _ ho) rfl hco hgen rfl (codeRec_of X hcd) (hbind _ _ _ _ ?_)
  refine wpAny_newFunctionEnv hcell hloc (fun h₀ hns₀ hsb₀ => ⟨hlim.fresh _ hsb₀, ?_⟩) hk
  have hsz : h₀.objs.size = s.heap.objs.size + 1 := by rw [hsb₀.1, Heap.size_push]
  have keep : Ext s.heap h₀ := fun b o e => hsb₀.extBut b o (Nat.ne_of_lt (Heap.lt_size e)) (Heap.get?_push_of_some _ e)
  have := h (h₀.push { cls := .type "generator", data := .fields #[.int s.gens.size 0, .str name (s.toks + binds.length), .str qual (s.toks + binds.length + 1)] }) (s.toks + binds.length + 1 + 1)
    ⟨hns₀.push _, fun b o e => Heap.get?_push_of_some _ (keep b o e), Nat.le_refl _⟩
    ⟨_, _, _, by rw [← hsz]; exact Heap.get?_push_size _ rfl, rfl, rfl, rfl⟩
  rw [← hsz] at this
  exact this
end
section
variable {w : World} {A : Around} {E : Value → Shared → Prop} {s : Shared} {x dx L C a : Addr} {g : Nat} {h₀ hr : Heap} {m : PySem.Str → Option Value} {c : Int} {v : PySem.Str} {t1 t2 : Tok}
def itemY (c : Int) (t1 : Tok) (v : PySem.Str) (t2 : Tok) : Nat → Value
  | 0 => .int c t1
  | _ => .str v t2
def tagProto (hr : Heap) (C : Addr) (mm : PySem.Str → Option Value) (c : Int) (t1 : Tok) (v : PySem.Str) (t2 : Tok) : Protocol := fun n s₀ y s kap =>
  n < 2 ∧ y = itemY c t1 v t2 (1 - n) ∧ Since s₀ s ∧ Fr hr C s.heap mm ∧ ∀ s'' : Shared, Fr hr C s''.heap mm → kap (.send .none) s''
abbrev endsP (hr : Heap) (C : Addr) (mm : PySem.Str → Option Value) : Nat → Shared → Shared → Prop := fun n s₀ s₁ => n = 0 ∧ Since s₀ s₁ ∧ Fr hr C s₁.heap mm
def TagAt (w : World) (A : Around) (a : Addr) (g : Nat) (hr : Heap) (C : Addr) (mm : PySem.Str → Option Value) (c : Int) (t1 : Tok) (v : PySem.Str) (t2 : Tok) (j : Nat) (s : Shared) : Prop :=
  s.heap.IsGen a g ∧ Fr hr C s.heap mm ∧ ∃ gs, s.gens[g]? = some gs ∧ ∀ s'' : Shared, Fr hr C s''.heap mm →
    gs.Goes (model prog w) A.in1 (fun n s₀ r s₁ => (r = .ok .next ∨ r = .ok (.ret .none)) ∧ endsP hr C mm n s₀ s₁) (tagProto hr C mm c t1 v t2) (2 - j) (.send .none) s''
theorem TagAt.walks (r : Room A 0 0) (hl : hr.NoLimit) (mm : PySem.Str → Option Value) : WalksS prog w A a (a :: C :: List.range hr.objs.size) [] (GenOnlyQ g) 2 (fun j y => y = itemY c t1 v t2 j) (TagAt w A a g hr C mm c t1 v t2) where
  sub := fun b hb => nomatch hb
  grefl := fun _ => .inl rfl
  gtrans := fun _ _ _ x y => x.trans y
  frame := fun j s h' tk st _ hk =>
    ⟨let ⟨o, nm, qn, ho, r⟩ := st.1; ⟨o, nm, qn, hk a (List.mem_cons_self ..) o ho, r⟩,
     ⟨st.2.1.ns.at' fun o e => hk C (by simp) o e, fun b o e => hk b (List.mem_cons_of_mem _ (List.mem_cons_of_mem _ (List.mem_range.mpr (Heap.lt_size e)))) o (st.2.1.keep b o e), st.2.1.above⟩,
     let ⟨gs, hgs, hgo⟩ := st.2.2; ⟨gs, hgs, hgo⟩⟩
  item := fun j s Q E hj st hQ => by
    obtain ⟨hg, F, gs, hgs, hgo⟩ := st
    obtain ⟨m, hm⟩ : ∃ m, 2 - j = m + 1 := ⟨2 - j - 1, by omega⟩
    rw [hm] at hgo
    refine wpAny_with_toks (Nat.le_refl s.toks) ?_
    refine next_gen (P := endsP hr C mm) r.handled (hl.keeps F.keep) r.deep hg hgs (hgo (s.setGen g .running) F) (fun v s₁ gs' hb hv => ?_) (fun s₁ hp h' hk => ?_)
    · obtain ⟨hn, hy, ⟨h₁, tk₁, rfl, hk₁⟩, F₁, hkap⟩ := hv
      intro htk
      have ej : 1 - (m + 1 - 1) = j := by omega
      rw [ej] at hy
      refine hQ v _ hy ⟨hg.keeps hk₁, F₁, gs', setGen_self (gs := .running) (setGen_self hgs), fun s'' F'' => ?_⟩ ⟨fun b o _ e => hk₁ b o e, GenOnlyQ.of ((GenOnly.setGen s g .running).trans (GenOnly.setGen _ g gs')) (setGen_self (gs := .running) (setGen_self hgs)) hb, rfl, rfl, htk⟩
      have e : 2 - (j + 1) = m := by omega
      rw [e]
      exact hkap s'' F''
    · exact absurd hp.1 (Nat.succ_ne_zero m)
  done := fun s Q E st hQ => by
    obtain ⟨hg, F, gs, hgs, hgo⟩ := st
    rw [Nat.sub_self] at hgo
    refine wpAny_with_toks (Nat.le_refl s.toks) ?_
    refine next_gen (P := endsP hr C mm) r.handled (hl.keeps F.keep) r.deep hg hgs (hgo (s.setGen g .running) F) (fun v s₁ gs' hb hv => ?_) (fun s₁ hp h' hk => ?_)
    · obtain ⟨_, _, _, _, hkap⟩ := hv
      exact False.elim (hkap (s.setGen g .running) F)
    · obtain ⟨_, ⟨h₁, tk₁, rfl, hk₁⟩, _⟩ := hp
      intro htk
      exact hQ _ ⟨fun b o _ e => hk b o (hk₁ b o e), GenOnlyQ.of ((GenOnly.setGen s g .running).trans (GenOnly.setGen _ g .finished)) (setGen_self (gs := .running) (setGen_self hgs)) rfl, rfl, rfl, htk⟩
  self := fun _ _ _ _ st hQ => wpAny_pyIter_gen st.1 hQ
end
end Mine
end -- G1

section -- G2
open PySem PySem.W PyProof.Rows PySem.Calls
namespace Mine
section
variable {w : World} {A : Around} {E : Value → Shared → Prop} {s : Shared} {x dx L C a f : Addr} {g : Nat} {h₀ hr : Heap} {m mm : PySem.Str → Option Value} {c : Int} {v : PySem.Str} {t1 t2 : Tok}
abbrev tagEnv (q : PySem.Str) (mr : List (PySem.Str × Const)) (C f : Addr) (cd : Value) : Env := envOf q { kind := .function, names := [("self", .local)], isGenerator := true, isCoroutine := false, more := mr } C f cd
theorem fresh_tag {q : PySem.Str} {mr : List (PySem.Str × Const)} {cd : Value} {p1 p2 p3 p4 p5 p6 p7 p8 : Pos} (r : Room A 3 9) (X : (hd.heap_39 w.params).In hr) (hl : hr.NoLimit) (hx : hr.get? x = some (tagObj dx c t1 v t2)) (hdx : hr.get? dx = some (dictOf [] 0))
    (hm : mm "self" = some (.ref x)) (F : Fr hr C s.heap mm) :
    Seg (model prog w) A (fun n s₀ r s₁ => (r = .ok .next ∨ r = .ok (.ret .none)) ∧ endsP hr C mm n s₀ s₁) (tagProto hr C mm c t1 v t2) 2 s
      (.func [.Expr (.Yield (some (.Attribute (.Name "self" p1) "_code" p2)) p3) p4, .Expr (.Yield (some (.Attribute (.Name "self" p5) "value" p6)) p7) p8] (tagEnv q mr C f cd))
      ((model prog w).den (.func [.Expr (.Yield (some (.Attribute (.Name "self" p1) "_code" p2)) p3) p4, .Expr (.Yield (some (.Attribute (.Name "self" p5) "value" p6)) p7) p8] (tagEnv q mr C f cd))) [] s := by
  refine seg_func (seg_execs_cons (seg_Expr_Yield rfl rfl rfl ?_))
  refine Attribute_name (ld F hm ?_)
  refine slot_code F X (F.keep _ _ hx) (F.keep _ _ hdx) ?_
  intro kap hkap
  refine ⟨by omega, rfl, (Since.refl s).step fun _ _ e => e, F, fun s'' F'' => hkap .none s'' ?_⟩
  refine seg_execs_cons (seg_Expr_Yield rfl rfl rfl ?_)
  refine Attribute_name (ld F'' hm ?_)
  refine prop_value (r.over.less (by omega) (by omega)) F'' X hl (F''.keep _ _ hx) (F''.keep _ _ hdx) fun h' tk e => ?_
  intro kap hkap
  refine ⟨by omega, rfl, (Since.refl s'').step e, F''.keeps e, fun s3 F3 => hkap .none s3 ?_⟩
  exact seg_execs_nil (seg_end (.ok (.ret .none)) ⟨.inr rfl, rfl, Since.refl s3, F3⟩)
/-- walking a tag: its generator stands ready -/
theorem iter_tag {Q : Value → Shared → Prop} (r : Room A 1 4) (F : Fr h₀ L s.heap m) (X₀ : (hd.heap_39 w.params).In h₀) (kr : Ext hr s.heap) (kz : hr.objs.size ≤ s.heap.objs.size) (X : (hd.heap_39 w.params).In hr) (hl : hr.NoLimit) (ho : hr.get? x = some (tagObj dx c t1 v t2)) (hdx : hr.get? dx = some (dictOf [] 0))
    (h : ∀ h' tk gs mm, gs.bare = true → Ext s.heap h' → Fr hr s.heap.objs.size h' mm → h'.IsGen (s.heap.objs.size + 1) s.gens.size →
      (∀ A', Room A' 3 10 → TagAt w A' (s.heap.objs.size + 1) s.gens.size hr s.heap.objs.size mm c t1 v t2 0 { s with gens := s.gens.push gs, heap := h', toks := tk }) →
      Q (.ref (s.heap.objs.size + 1)) { s with gens := s.gens.push gs, heap := h', toks := tk }) : wpAny (model prog w) A (pyIter (.ref x)) Q E s := by
  refine' owit_iter F X₀ (tag_inst (kr _ _ ho) (kr _ _ hdx)) (f := 82) ?k1 ?k2 (wpAny_call ?_)
  case k1 => k_is
  case k2 => k_is
  refine' call_genfn (X.keeps kr) (hl.keeps kr) r.deep ?k1 ?k2 ?k3 ?k4 ?_ ?c2 ?c3 ?c4 ?c5
  case k1 => k_is
  case k2 => k_is
  case k3 => exact BindsTo.of_eq rfl
  case k4 => exact locs rfl
  case c5 => decide
  case c2 => exact rfl
  case c3 => exact rfl
  case c4 => exact rfl
  intro h₁ tk F₁ hg
  have F₂ : Fr hr s.heap.objs.size h₁ _ := ⟨F₁.ns, fun b o e => F₁.keep b o (kr b o e), kz⟩
  unfold OwitIt
  refine wpAny_specialOf hg.typeIs slot_gen_next.lookup (h h₁ tk _ _ ?_ F₁.keep F₂ hg ?_)
  · exact rfl
  · intro A' r'
    exact ⟨hg, F₂, _, Array.getElem?_push_size .., fun s'' F'' => ⟨rfl, fresh_tag (A := A'.in1) r'.in1 X hl ho hdx rfl F''⟩⟩
end
end Mine
end -- G2

section -- G3
open PySem PySem.W PyProof.Rows PySem.Calls
namespace Mine
theorem Room.in2 {A : Around} {d u : Nat} (r : Room A d (u + 2)) : Room A.in1.in1 d u := (Room.in1 (u := u + 1) r).in1
theorem Room.of_in {A : Around} {d u d' u' : Nat} (r : Room A d u) (h1 : d' ≤ d) (h2 : u' + 1 ≤ u) : Room A.in1 d' u' := (r.less (d' := d') (u' := u' + 1) h1 h2).in1
theorem items_two {c : Int} {v : PySem.Str} {t1 t2 : Tok} {acc : Array Value} (h : ItemsOf (fun j y => y = itemY c t1 v t2 j) acc 2) : acc = #[.int c t1, .str v t2] := by
  obtain ⟨hs, hi⟩ := h
  apply Array.ext_getElem?
  intro i
  by_cases h0 : i = 0
  · subst h0
    have e : acc[0]? = some acc[0] := Array.getElem?_eq_getElem (by omega)
    have q := hi 0 _ e
    rw [e, q]
    rfl
  · by_cases h1 : i = 1
    · subst h1
      have e : acc[1]? = some acc[1] := Array.getElem?_eq_getElem (by omega)
      have q := hi 1 _ e
      rw [e, q]
      rfl
    · rw [Array.getElem?_eq_none (by omega), Array.getElem?_eq_none (by simp; omega)]
section
variable {w : World} {A : Around} {E : Value → Shared → Prop} {s : Shared} {x dx L C a f S : Addr} {g : Nat} {h₀ hr : Heap} {m mm : PySem.Str → Option Value} {c : Int} {v : PySem.Str} {t1 t2 : Tok} {R : Result → Shared → Prop} {res : Value}
/-- a tag poured into a list that is still empty -/
theorem extend_tag (r : Room A 4 16) (F : Fr h₀ L s.heap m) (X₀ : (hd.heap_39 w.params).In h₀) (kr : Ext hr s.heap) (X : (hd.heap_39 w.params).In hr) (hl : hr.NoLimit) (ho : hr.get? x = some (tagObj dx c t1 v t2)) (hdx : hr.get? dx = some (dictOf [] 0))
    (hS : s.heap.get? hr.objs.size = some { cls := .type "list", data := .seq #[] S })
    (h : ∀ h' tk gs n, (∀ b o, b ≠ hr.objs.size → s.heap.get? b = some o → h'.get? b = some o) → h'.get? hr.objs.size = some { cls := .type "list", data := .seq #[.int c t1, .str v t2] n } → (AllBare s.gens → AllBare gs) →
      R (.ok (.ret res)) { s with heap := h', toks := tk, gens := gs }) :
    wpAny (model prog w) A.in1 (Builtin.List.listExtendWith (.ref hr.objs.size) (.ref x) res)
      (fun fin s' => match fin with | .done f => R (.ok f) s' | .again c' => c'.quiet = true ∧ codeAny (model prog w) A c' R s') (fun e s' => R (.error e) s') s := by
  have hSlt : hr.objs.size < s.heap.objs.size := Heap.lt_size hS
  have hxlt : x < hr.objs.size := Heap.lt_size ho
  have I := tag_inst (kr _ _ ho) (kr _ _ hdx)
  have Xs := X.keeps kr
  unfold Builtin.List.listExtendWith
  refine wpAny_bind (I.type.here ?_)
  have h1 : Builtin.List.listSameRef (.ref hr.objs.size) (.ref x) = false := by
    have : hr.objs.size ≠ x := Nat.ne_of_gt hxlt
    simp [Builtin.List.listSameRef, this]
  have h2 : (Value.ref 114 == Value.type "list") = false := by decide
  have h3 : (Value.ref 114 == Value.type "tuple") = false := by decide
  simp only [h1, h2, h3, Bool.or_false, Bool.false_eq_true, if_false]
  refine wpAny_bind (iter_tag (r.of_in (by omega) (by omega)) F X₀ kr (by omega) X hl ho hdx fun h₁ tk₁ gs mm hb k₁ F₁ hg hT => ?_)
  refine wpAny_bind (wpAny_holding ?_)
  have I₁ := tag_inst (k₁ _ _ (kr _ _ ho)) (k₁ _ _ (kr _ _ hdx))
  have X₁ := Xs.keeps k₁
  unfold Builtin.List.listLengthHint
  refine wpAny_bind (wpAny_bind (I₁.type.here ((looks_findIn X₁ (r := none) (by k_is)).here ?_)))
  show wpAny _ A.in1 (specialOf (Value.ref x) (PySem.Str.ofString "__length_hint__") >>= _) _ _ _
  refine wpAny_bind (wpAny_bind (I₁.type.here ((looks_findIn X₁ (r := none) (by k_is)).here ?_)))
  refine wpAny_pure ?_
  show wpAny _ A.in1 (rule "list.extend.makes-room" >>= fun _ => Builtin.List.listTouch (.ref hr.objs.size) >>= fun _ =>
    again (.builtin "list.extend.loop" ⟨[.ref hr.objs.size, .ref (s.heap.objs.size + 1), res], []⟩)) _ _ _
  refine wpAny_bind (wpAny_rule ?_)
  refine wpAny_bind ?_
  have hS₁ := k₁ _ _ hS
  show wpAny _ A.in1 (updateSeq hr.objs.size (·.push .none) >>= fun _ => updateSeq hr.objs.size (·.pop)) _ _ _
  refine wpAny_bind (wpAny_updateSeq hS₁ rfl ?_)
  have hS₂ := Heap.get?_update_self (Obj.mapSeq (·.push Value.none)) hS₁ rfl
  refine wpAny_updateSeq (hz := by seq_fits) hS₂ rfl ?_
  have hS₃ := Heap.get?_update_self (Obj.mapSeq (·.pop)) hS₂ rfl
  have oth : ∀ b o, b ≠ hr.objs.size → h₁.get? b = some o → ((h₁.update hr.objs.size (Obj.mapSeq (·.push Value.none))).update hr.objs.size (Obj.mapSeq (·.pop))).get? b = some o :=
    fun b o hb e => (Heap.get?_update_other _ _ (Ne.symm hb)).trans ((Heap.get?_update_other _ _ (Ne.symm hb)).trans e)
  have W := TagAt.walks (w := w) (A := A.in1) (a := s.heap.objs.size + 1) (g := s.gens.size) (C := s.heap.objs.size) (c := c) (t1 := t1) (v := v) (t2 := t2) (r.of_in (by omega) (by omega)) hl mm
  have hSf : hr.objs.size ∉ (s.heap.objs.size + 1) :: s.heap.objs.size :: List.range hr.objs.size := by
    intro hm
    rcases List.mem_cons.mp hm with e | hm
    · omega
    · rcases List.mem_cons.mp hm with e | hm
      · omega
      · exact Nat.lt_irrefl _ (List.mem_range.mp hm)
  refine wpAny_pure ⟨plainId_quiet PySem.F.plain_extend_loop _, codeAny_extend_loopS W (by size_fits) _ hSf _ 2 0 _ _ _ rfl (Nat.zero_le _)
    (W.frame 0 ({ s with heap := h₁, gens := s.gens.push gs, toks := tk₁ } : Shared) _ tk₁ (hT A.in1 (r.of_in (by omega) (by omega))) (Nat.le_refl _) fun b hb o e => oth b o (fun q => hSf (q ▸ hb)) e) hS₃ (ItemsOf.nil _) fun s' acc' c' hm hS' hacc => ?_⟩
  rw [items_two hacc] at hS'
  obtain ⟨h', gs', d', tk', os'⟩ := s'
  obtain rfl : d' = s.drawn := hm.drawn
  obtain rfl : os' = s.os := hm.os
  exact h h' tk' gs' c' (fun b o hb e => hm.heap b o (by simpa using hb) (oth b o hb (k₁ b o e))) hS' (fun G => (G.push hb).moved hm.gens)
end
end Mine
end -- G3

section -- G4
open PySem PySem.W PyProof.Rows PySem.Calls
namespace Mine
section
variable {w : World} {A : Around} {E : Value → Shared → Prop} {s : Shared} {x dx L C a f S : Addr} {g : Nat} {h₀ hr : Heap} {m mm : PySem.Str → Option Value} {c : Int} {v : PySem.Str} {t1 t2 : Tok} {R : Result → Shared → Prop} {res : Value}
theorem collect_tag {Q : List Value → Shared → Prop} (r : Room A 4 20) (F : Fr h₀ L s.heap m) (X₀ : (hd.heap_39 w.params).In h₀) (hl : h₀.NoLimit) (ho : s.heap.get? x = some (tagObj dx c t1 v t2)) (hdx : s.heap.get? dx = some (dictOf [] 0))
    (h : ∀ h' tk gs, Ext s.heap h' → (AllBare s.gens → AllBare gs) → Q [.int c t1, .str v t2] { s with heap := h', toks := tk, gens := gs }) : wpAny (model prog w) A (collect (.ref x)) Q E s := by
  have hxlt : x < s.heap.objs.size := Heap.lt_size ho
  unfold collect
  let RR : Result → Shared → Prop := fun r s' => ∃ h' tk gs n, r = .ok (.ret (.ref s.heap.objs.size)) ∧ s' = { s with heap := h', toks := tk, gens := gs } ∧ Ext s.heap h' ∧ h'.get? s.heap.objs.size = some { cls := .type "list", data := .seq #[.int c t1, .str v t2] n } ∧ (AllBare s.gens → AllBare gs)
  refine wpAny_bind (wpAny_runValue (codeAny_mono (R := RR) (codeAny_builtin PySem.F.entry_proto_collect ?_) ?_))
  rotate_left
  · rintro r s' ⟨h', tk, gs, n, rfl, rfl, k, hS', G⟩
    show wpAny _ A (load s.heap.objs.size >>= _) _ _ _
    refine wpAny_bind (wpAny_load hS' ?_)
    exact wpAny_pure (h h' tk gs k G)
  rw [Around.under_plainId PySem.F.plain_proto_collect _]
  show wpAny _ A.in1 (newList [] >>= fun l => again (.builtin "list.__iadd__" ⟨[l, .ref x], []⟩)) _ _ s
  refine wpAny_bind (wpAny_newObj_type ?_)
  refine wpAny_pure ⟨plainId_quiet PySem.F.plain_list_iadd _, codeAny_builtin PySem.F.entry_list_iadd ?_⟩
  rw [Around.under_plainId PySem.F.plain_list_iadd _]
  show wpAny _ A.in1 (Builtin.List.listExtendWith (.ref s.heap.objs.size) (.ref x) (.ref s.heap.objs.size)) _ _ _
  have hS : (s.heap.push { cls := .type "list", data := .seq ([] : List Value).toArray }).get? s.heap.objs.size = some { cls := .type "list", data := .seq #[] } := Heap.get?_push_size _ rfl
  have up : Ext s.heap (s.heap.push { cls := .type "list", data := .seq ([] : List Value).toArray }) := fun b o e => Heap.get?_push_of_some _ e
  refine extend_tag (R := RR) (s := { s with heap := s.heap.push { cls := .type "list", data := .seq ([] : List Value).toArray } }) (hr := s.heap) (S := 0) (r.less (by omega) (by omega)) (F.keeps up) X₀ up (X₀.keeps F.keep) (hl.keeps F.keep) ho hdx hS fun h' tk gs n k hS' G => ?_
  exact ⟨h', tk, gs, n, rfl, rfl, (fun b o e => k b o (Nat.ne_of_lt (Heap.lt_size e)) (Heap.get?_push_of_some _ e)), hS', G⟩
theorem list_tag {Q : Value → Shared → Prop} (r : Room A 4 20) (F : Fr h₀ L s.heap m) (X₀ : (hd.heap_39 w.params).In h₀) (hl : h₀.NoLimit) (ho : s.heap.get? x = some (tagObj dx c t1 v t2)) (hdx : s.heap.get? dx = some (dictOf [] 0))
    (h : ∀ h' tk gs n, Ext s.heap h' → h'.get? s.heap.objs.size = some { cls := .type "list", data := .seq #[.int c t1, .str v t2] n } → (AllBare s.gens → AllBare gs) → Q (.ref s.heap.objs.size) { s with heap := h', toks := tk, gens := gs }) :
    wpAny (model prog w) A (PySem.call (.type "list") [.ref x]) Q E s := by
  refine callType_codes (Q₁ := fun obj s₁ => obj = .ref s.heap.objs.size ∧ s₁ = { s with heap := s.heap.push { cls := .type "list", data := .seq #[] } }) PySem.F.called_list (PySem.F.typeCall_list_1 _) PySem.F.entry_list_init
    (code_list_new _ ⟨rfl, rfl⟩) fun obj s₁ h₁ => ?_
  obtain ⟨rfl, rfl⟩ := h₁
  have hS : (s.heap.push { cls := .type "list", data := .seq #[] }).get? s.heap.objs.size = some { cls := .type "list", data := .seq #[] } := Heap.get?_push_size _ rfl
  refine ⟨⟨_, hS, rfl⟩, PySem.F.args_list_init_2 _ _, ?_⟩
  show wpAny _ A.in1.in1 (do let old ← Builtin.List.listItems (.ref s.heap.objs.size); Builtin.List.listUpdate (.ref s.heap.objs.size) (fun _ => #[]); letGo old.toList.reverse; Builtin.List.listExtendWith (.ref s.heap.objs.size) (.ref x) .none) _ _ _
  refine wpAny_bind ?_
  unfold Builtin.List.listItems
  refine wpAny_bind (wpAny_seqItems hS rfl (wpAny_pure ?_))
  show wpAny _ A.in1.in1 (updateSeq s.heap.objs.size (fun _ => #[]) >>= fun _ => letGo (#[] : Array Value).toList.reverse >>= fun _ => Builtin.List.listExtendWith (.ref s.heap.objs.size) (.ref x) .none) _ _ _
  refine wpAny_bind (wpAny_updateSeq hS rfl ?_)
  have hS₂ := Heap.get?_update_self (Obj.mapSeq (fun _ => (#[] : Array Value))) hS rfl
  have oth : ∀ b o, s.heap.get? b = some o → ((s.heap.push { cls := .type "list", data := .seq #[] }).update s.heap.objs.size (Obj.mapSeq (fun _ => (#[] : Array Value)))).get? b = some o :=
    fun b o e => (Heap.get?_update_other _ _ (Ne.symm (Nat.ne_of_lt (Heap.lt_size e)))).trans (Heap.get?_push_of_some _ e)
  refine wpAny_bind (wpAny_letGo ?_)
  refine extend_tag (A := A.in1) (S := _) (r.of_in (by omega) (by omega)) (F.keeps oth) X₀ oth (X₀.keeps F.keep) (hl.keeps F.keep) ho hdx hS₂ fun h' tk gs n k hS' G => ?_
  exact ⟨rfl, h h' tk gs n (fun b o e => k b o (Nat.ne_of_lt (Heap.lt_size e)) (oth b o e)) hS' G⟩
theorem tuple_tag {Q : Value → Shared → Prop} (r : Room A 4 26) (F : Fr h₀ L s.heap m) (X₀ : (hd.heap_39 w.params).In h₀) (hl : h₀.NoLimit) (ho : s.heap.get? x = some (tagObj dx c t1 v t2)) (hdx : s.heap.get? dx = some (dictOf [] 0))
    (h : ∀ h' tk gs T, Ext s.heap h' → h'.get? T = some { cls := .type "tuple", data := .seq #[.int c t1, .str v t2] } → (∀ b o, s.heap.get? b = some o → b < T) → (AllBare s.gens → AllBare gs) → Q (.ref T) { s with heap := h', toks := tk, gens := gs }) :
    wpAny (model prog w) A (PySem.call (.type "tuple") [.ref x]) Q E s := by
  refine callType_codes (Q₁ := fun obj s₁ => s₁.TypeIs obj "tuple" ∧ Q obj s₁) PySem.F.called_tuple (PySem.F.typeCall_tuple_1 _) PySem.F.entry_object_init ?_ fun obj s₁ h₁ => ⟨h₁.1, PySem.F.args_object_init_2 obj _, object_init_meets PySem.F.called_tuple.init.lookup PySem.F.called_tuple.made (by decide) prog w A.in1 _ s₁ ⟨h₁.1, rfl, h₁.2⟩⟩
  refine codeAny_of_tree ?_
  show wpAny _ A.in1.in1 (do checkBuiltinCall "tuple.__new__" ⟨[.type "tuple", .ref x], []⟩; again (.builtin "tuple.__new__" ⟨[.type "tuple", .ref x], []⟩)) _ _ s
  refine wpAny_bind (wpAny_of_eq (PySem.F.newCall_tuple_1 _) (wpAny_pure ⟨plainId_quiet PySem.F.plain_tuple_new _, codeAny_builtin PySem.F.entry_tuple_new ?_⟩))
  rw [Around.under_plainId PySem.F.plain_tuple_new _]
  have hsub := sub_tuple_self
  have hinit := init_tuple_lookup
  have hmh := madeHere_tuple
  have I := tag_inst ho hdx
  have r' : Room A.in1.in1 4 20 := (r.of_in (d' := 4) (u' := 22) (by omega) (by omega)).of_in (by omega) (by omega)
  wp_walk using I.type.here, collect_tag r' F X₀ hl ho hdx
  intro h' tk gs k G
  refine wpAny_bind (wpAny_pure ?_)
  show wpAny _ _ (Builtin.Tuple.tupleExact #[.int c t1, .str v t2] >>= fun v => ret v) _ _ _
  unfold Builtin.Tuple.tupleExact
  refine wpAny_bind (wpAny_newObj_type ?_ (by size_fits))
  refine wpAny_pure ⟨⟨_, Heap.get?_push_size _ rfl, rfl⟩, ?_⟩
  exact h _ _ _ _ (fun b o e => Heap.get?_push_of_some _ (k b o e)) (Heap.get?_push_size _ rfl) (fun b o e => Heap.lt_size (k b o e)) G
end
end Mine
end -- G4

section -- G5
open PySem PySem.W PyProof.Rows PySem.Calls
namespace Mine
section
variable {w : World} {A : Around} {E : Value → Shared → Prop} {s : Shared} {x dx L C a f S : Addr} {g : Nat} {h₀ hr : Heap} {m mm : PySem.Str → Option Value} {c : Int} {v : PySem.Str} {t1 t2 : Tok} {R : Result → Shared → Prop} {res : Value}
theorem items_tag {Q : List Value → Shared → Prop} (r : Room A 4 20) (F : Fr h₀ L s.heap m) (X₀ : (hd.heap_39 w.params).In h₀) (hl : h₀.NoLimit) (ho : s.heap.get? x = some (tagObj dx c t1 v t2)) (hdx : s.heap.get? dx = some (dictOf [] 0))
    (h : ∀ h' tk gs, Ext s.heap h' → (AllBare s.gens → AllBare gs) → Q [.int c t1, .str v t2] { s with heap := h', toks := tk, gens := gs }) : wpAny (model prog w) A (unpackItems (.ref x) 2 none) Q E s := by
  have I := tag_inst ho hdx
  have X := X₀.keeps F.keep
  unfold unpackItems
  refine wpAny_bind ?_
  unfold notIterableAtAll
  refine wpAny_bind (wpAny_bind (I.type.here ((looks_findIn X (r := some (.ref 82)) (by k_is)).here ?_)))
  refine wpAny_pure ?_
  simp only [Bool.false_eq_true, if_false]
  refine wpAny_bind (wpAny_holding (iter_tag (r.less (by omega) (by omega)) F X₀ (fun _ _ e => e) (Nat.le_refl _) X (hl.keeps F.keep) ho hdx fun h₁ tk₁ gs mm hb k₁ F₁ hg hT => ?_))
  have W := TagAt.walks (w := w) (A := A) (a := s.heap.objs.size + 1) (g := s.gens.size) (C := s.heap.objs.size) (c := c) (t1 := t1) (v := v) (t2 := t2) (r.less (by omega) (by omega)) (hl.keeps F.keep) mm
  refine wpAny_bind (wpAny_holding ?_)
  show wpAny _ _ (pyNext (.ref (s.heap.objs.size + 1)) >>= _) _ _ _
  refine wpAny_bind (W.item 0 _ _ _ (by omega) (hT A (r.less (by omega) (by omega))) fun y s₁ hy hst₁ m₁ => ?_)
  subst hy
  refine wpAny_bind (wpAny_holding ?_)
  show wpAny _ _ (pyNext (.ref (s.heap.objs.size + 1)) >>= _) _ _ _
  refine wpAny_bind (W.item 1 _ _ _ (by omega) hst₁ fun y s₂ hy hst₂ m₂ => ?_)
  subst hy
  refine wpAny_bind (wpAny_holding (wpAny_pure (wpAny_pure (wpAny_pure ?_))))
  rw [if_neg (by show ¬ (2 < 2); decide)]
  refine wpAny_bind (wpAny_holding (W.done _ _ _ hst₂ fun s₃ m₃ => ?_))
  simp only [Option.isSome_none, Bool.false_eq_true, if_false]
  refine wpAny_pure ?_
  obtain ⟨h', gs', d', tk', os'⟩ := s₃
  obtain rfl : d' = s.drawn := (m₃.drawn.trans m₂.drawn).trans m₁.drawn
  obtain rfl : os' = s.os := (m₃.os.trans m₂.os).trans m₁.os
  refine h h' tk' gs' (fun b o e => m₃.heap b o (fun q => nomatch q) (m₂.heap b o (fun q => nomatch q) (m₁.heap b o (fun q => nomatch q) (k₁ b o e)))) (fun G => ?_)
  exact (((G.push hb).moved m₁.gens).moved m₂.gens).moved m₃.gens
theorem unpack_tag {Q : Unit → Shared → Prop} {elts : List PySem.Expr} {k : Nat} {pos : Pos} {env : Env} (r : Room A 4 20) (F : Fr h₀ L s.heap m) (X₀ : (hd.heap_39 w.params).In h₀) (hl : h₀.NoLimit) (ho : s.heap.get? x = some (tagObj dx c t1 v t2)) (hdx : s.heap.get? dx = some (dictOf [] 0))
    (hn : (assignEach elts env).length = 2) (hstar : (assignEach elts env).findIdx? (·.1) = none)
    (h : ∀ h' tk gs, Ext s.heap h' → (AllBare s.gens → AllBare gs) → wpAny (model prog w) A (assignInOrder ((assignEach elts env).map (·.2)) [.int c t1, .str v t2]) Q E { s with heap := h', toks := tk, gens := gs }) :
    wpAny (model prog w) A (assign (.Tuple elts k pos) env (.ref x)) Q E s := by
  rw [assign_Tuple]
  refine wpAny_bind (wpAny_standAt ?_)
  unfold unpack
  rw [hn, hstar]
  exact wpAny_bind (wpAny_holding (items_tag r F X₀ hl ho hdx h))
end
end Mine
end -- G5

section -- H0
open PySem PySem.W PyProof.Rows PySem.Calls
open PySem.W.X (SegX wake_any SegX.mono)
namespace Mine
section
variable {M : Model} {A : Around} {c : Code} {fs : List Frame} {s : Shared} {P : End → Shared → Prop}
theorem sx_wrap {α : Type} {m : Sem α} {K : α → Sem PySem.Fin} {H : Value → Sem PySem.Fin} {gd : Bool → Bool} {lv : List Value → List Value}
    (h : wpAny M (A.over c fs) m (fun a s' => SegX M A c (K a) fs s' P) (fun x s' => SegX M A c (H x) fs s' P) s) : SegX M A c (m.wrap K H gd lv) fs s P := by
  rintro Γ p rfl hΓ
  obtain ⟨e, s', hr, hq⟩ := runs_wrap_of_wp (Φ := fun e s' => e.quiet = true ∧ P e s') K H gd lv m (h (Γ.over fs) p (hΓ.over fs)) (fun a p' s' h' => h' Γ p' rfl hΓ) (fun x p' s' h' => h' Γ p' rfl hΓ)
  exact ⟨e, s', hr, hq⟩
theorem sx_bw {α β : Type} {m : Sem α} {K : α → Sem β} {K' : β → Sem PySem.Fin} {H' : Value → Sem PySem.Fin} {gd : Bool → Bool} {lv : List Value → List Value}
    (h : wpAny M (A.over c fs) m (fun a s' => SegX M A c ((K a).wrap K' H' gd lv) fs s' P) (fun x s' => SegX M A c (H' x) fs s' P) s) : SegX M A c ((m >>= K).wrap K' H' gd lv) fs s P := by
  rw [Sem.bind_eq_wrap', Sem.wrap_wrap]; exact sx_wrap h
theorem sx_at {p' : Pos} {k : Unit → Sem PySem.Fin} (h : SegX M A c (k ()) fs s P) : SegX M A c (.at p' k) fs s P :=
  sx_wrap (m := standAt p') (K := k) (H := .raise) (gd := id) (lv := id) (wpAny_standAt h)
theorem sx_point {l : List Value} {k : Unit → Sem PySem.Fin} (h : SegX M A c (k ()) fs s P) : SegX M A c (.point l k) fs s P :=
  sx_wrap (m := point) (K := k) (H := .raise) (gd := id) (lv := fun _ => l) (wpAny_point h)
theorem sx_call {c' : Code} {h : Option Value} {g : Bool} {l : List Value} {k : Result → Sem PySem.Fin} (hc : ∀ p, SegX M A c' (M.den c') (.ret k h g l c p [] :: fs) s P) : SegX M A c (.call c' h g l k) fs s P := by
  rintro Γ p rfl hΓ
  obtain ⟨e, s', hr, hq⟩ := hc p (Γ.goto c') p rfl (hΓ.goto c')
  exact ⟨e, s', runs_call_seg hr, hq⟩
theorem sx_leaf {c₁ : Code} {p₁ : Pos} {kp : List Value} {h : Option Value} {g : Bool} {l : List Value} {k : Result → Sem PySem.Fin} (r : Result) (hk : SegX M A c₁ (k r) fs s P) : SegX M A c (leafOf r) (.ret k h g l c₁ p₁ kp :: fs) s P := by
  rintro Γ p rfl hΓ
  obtain ⟨e, s', hr, hq⟩ := hk (Γ.goto c₁) p₁ rfl (hΓ.goto c₁)
  exact ⟨e, s', Runs.pop r hr, hq⟩
theorem sx_again {c' : Code} (hq : c'.quiet = true) (hc : SegX M A c' (M.den c') fs s P) : SegX M A c (.pure (.again c')) fs s P := by
  rintro Γ p rfl hΓ
  obtain ⟨e, s', hr, hq'⟩ := hc (Γ.goto c') p rfl (hΓ.goto c')
  exact ⟨e, s', Runs.head (c₁ := c') (fun _ _ x => .again hq x) hr, hq'⟩
theorem sx_end (r : Result) (h : P (.ret r) s) : SegX M A c (leafOf r) [] s P := by
  rintro Γ p rfl _
  exact ⟨.ret r, s, Runs.leaf r, rfl, h⟩
theorem sx_yield {v : Value} {l : List Value} {k : Resume → Sem PySem.Fin} (hfs : splitAtGen fs = none) (hfg : fs.any Frame.guarded = false) (h : ∀ p, P (.susp v false l k c p fs) s) : SegX M A c (.yield v false l k) fs s P := by
  rintro Γ p rfl _
  exact ⟨_, s, Runs.yield' fs hfs, by simp [End.quiet, hfg], h p⟩
end
/-- what a generator hands on: an item and its state then, or its end -/
def endP (Qy : Value → GenState → Shared → Prop) (Qr : Shared → Prop) : End → Shared → Prop := fun e s₁ => match e with
  | .susp v g l k c p fs => Qy v (End.susp v g l k c p fs).genState s₁
  | .ret r => (r = .ok .next ∨ r = .ok (.ret .none)) ∧ Qr s₁
/-- woken, the state runs to such an end -/
def Go (M : Model) (A : Around) (gs : GenState) (s : Shared) (P : End → Shared → Prop) : Prop := match gs with
  | .fresh c => SegX M A c (M.den c) [] s P
  | .suspended k _ c _ fs _ => SegX M A c (k (.send .none)) fs s P
  | _ => False
section
variable {prog : Program} {w : World} {A : Around} {E : Value → Shared → Prop} {s : Shared}
theorem next_x {a : Addr} {g : Nat} {gs : GenState} {Q : Option Value → Shared → Prop} (hh : A.handled = none)
    (hl : s.heap.NoLimit) (hroom : A.depth < recursionLimit) (hg : s.heap.IsGen a g) (hgs : s.gens[g]? = some gs)
    (hgo : Go (model prog w) A.in1 gs (s.setGen g .running) (endP (fun v gs' s₁ => Q (some v) (s₁.setGen g gs')) (fun s₁ => ∀ h', Ext s₁.heap h' → Q none { s₁.setGen g .finished with heap := h' }))) :
    wpAny (model prog w) A (pyNext (.ref a)) Q E s := by
  unfold pyNext
  refine wpAny_bind (wpAny_attempt (wpAny_callSpecial?_slot (name := PySem.Str.ofString "__next__") hg.typeIs slot_gen_next
    (wpAny_call_entry slot_gen_next hg.typeIs entry_gen_next ?_ (args_gen_next _))))
  show wpAny _ A.in1 (Builtin.Generator.genWake (.ref a) (.send .none)) _ _ s
  unfold Builtin.Generator.genWake
  refine wpAny_bind (wpAny_holding (wpAny_genNumber hg (wpAny_bind (wpAny_genState hgs ?_))))
  have wake : ∀ {α : Type} {k : GenResult → Sem α} {Q' : α → Shared → Prop} {E' : Value → Shared → Prop}
      (hR : ∀ s₁ : Shared, (∀ h', Ext s₁.heap h' → Q none { s₁.setGen g .finished with heap := h' }) → wpAny (model prog w) A.in1 (k (.returned .none)) Q' E' (s₁.setGen g .finished))
      (hS : ∀ v (s₁ : Shared) gs', Q (some v) (s₁.setGen g gs') → wpAny (model prog w) A.in1 (k (.yielded v)) Q' E' (s₁.setGen g gs')),
      wpAny (model prog w) A.in1 (.resume g (.send .none) [] k) Q' E' s := by
    intro α k Q' E' hR hS
    have fin : ∀ e s₁, endP (fun v gs' s₁ => Q (some v) (s₁.setGen g gs')) (fun s₁ => ∀ h', Ext s₁.heap h' → Q none { s₁.setGen g .finished with heap := h' }) e s₁ →
        ∀ Γ p, Γ.In A.in1 → Sem.wp (model prog w) Γ (k e.result) (fun a _ s' => Q' a s') (fun e _ s' => E' e s') p (s₁.setGen g e.genState) := by
      intro e s₁ he Γ p hΓ
      cases e with
      | ret r =>
        obtain ⟨hr, hq⟩ := he
        rcases hr with rfl | rfl
        · exact hR s₁ hq Γ p hΓ
        · exact hR s₁ hq Γ p hΓ
      | susp v g₀ l₀ k₀ c₀ p₀ fs₀ => exact hS v s₁ _ he Γ p hΓ
    intro Γ p hΓ
    cases gs with
    | fresh c₀ => exact wake_any α prog w hgs (.inl ⟨rfl, rfl, rfl, rfl⟩) (fun Γ => Γ.In A.in1) (fun _ h => h) (SegX.mono hgo fun e s₁ he Γ p hC => fin e s₁ he Γ p hC) Γ p hΓ
    | suspended k₀ l₀ c₀ p₀ fs₀ cl => exact wake_any α prog w hgs (.inr ⟨k₀, l₀, p₀, cl, rfl, rfl⟩) (fun Γ => Γ.In A.in1) (fun _ h => h) (SegX.mono hgo fun e s₁ he Γ p hC => fin e s₁ he Γ p hC) Γ p hΓ
    | running => exact hgo.elim
    | finished => exact hgo.elim
  cases gs with
  | running => exact hgo.elim
  | finished => exact hgo.elim
  | _ =>
    refine wpAny_bind (wpAny_roomToWake hl hroom ?_)
    show wpAny _ A.in1 (.resume g (.send .none) [] _) _ _ s
    refine wake (fun s₁ hp => ?_) (fun v s₁ gs' hv => ?_)
    · show wpAny _ A.in1 (newExc (.type "StopIteration") [] >>= _) _ _ _
      refine wpAny_bind ?_
      simp only [newExc, newTuple]
      refine wpAny_bind (wpAny_newObj_type ?_ (by size_fits))
      refine wpAny_bind (m := firstArgMember _ _) (wpAny_of_eq (a := Value.none) (by first | rfl | (simp only [firstArgMember]; rfl)) ?_)
      refine wpAny_newObj_type ?_ (by size_fits)
      simp only [raiseNew]
      refine wpAny_bind (wpAny_bind (wpAny_handled ?_))
      first | rw [show A.in1.handled = none from hh] | rw [hh]
      refine wpAny_throw ?_
      refine wpAny_bind (wpAny_isInstance (T := "StopIteration") (b := true) ⟨_, Heap.get?_push_size _ rfl, rfl⟩ isSubtype_stop ?_)
      exact wpAny_pure (hp _ fun b o hb => Heap.get?_push_of_some _ (Heap.get?_push_of_some _ hb))
    · exact wpAny_pure ⟨v, rfl, wpAny_pure hv⟩
variable {c : Code} {fs : List Frame} {P : End → Shared → Prop} {env : Env} {K : Flow → Sem PySem.Fin} {H : Value → Sem PySem.Fin} {gd : Bool → Bool} {lv : List Value → List Value} {Qy : Value → GenState → Shared → Prop} {Qr : Shared → Prop} {M : Model}
theorem sx_func {body : List Stmt}
    (h : SegX (model prog w) A (.func body env) ((execs body env).wrap (fun f => .pure (.done (.ret (match f with | .ret v => v | _ => .none))))
      (fun e => (leaving env e).wrap (fun _ => .raise e) .raise id id) id id) fs s P) :
    SegX (model prog w) A (.func body env) ((model prog w).den (.func body env)) fs s P := by
  show SegX _ A _ (.point [] fun _ => ((execs body env).onRaise (leaving env)) >>= _) fs s P
  refine sx_point ?_
  rw [Sem.onRaise_eq_wrap, Sem.bind_eq_wrap', Sem.wrap_wrap]
  rw [Sem.wrap_congr (execs body env) _ _ (K' := fun f => .pure (.done (.ret (match f with | .ret v => v | _ => .none))))
    (H' := fun e => (leaving env e).wrap (fun _ => .raise e) .raise id id) (fun f => by cases f <;> rfl)
    (fun e => by rw [Sem.bind_eq_wrap, Sem.wrap_wrap]; rfl)]
  exact h
theorem sx_execs_nil (h : SegX M A c (K .next) fs s P) : SegX M A c ((execs [] env).wrap K H gd lv) fs s P := h
theorem sx_execs_cons {st : Stmt} {rest : List Stmt}
    (h : SegX M A c ((exec st env).wrap (fun f => match f with | .next => (execs rest env).wrap K H gd lv | f => K f) H gd lv) fs s P) :
    SegX M A c ((execs (st :: rest) env).wrap K H gd lv) fs s P := by rw [execs_cons_wrap]; exact h
theorem sx_yields {v : Value} {K : Value → Sem PySem.Fin} (hfs : splitAtGen fs = none) (hgd : gd false = false) (hfg : fs.any Frame.guarded = false)
    (h : ∀ gs', gs'.bare = true → (∀ A' s'' Qy' Qr', SegX M A' c (K .none) fs s'' (endP Qy' Qr') → Go M A' gs' s'' (endP Qy' Qr')) → Qy v gs' s) :
    SegX M A c ((yieldValue v).wrap K H gd lv) fs s (endP Qy Qr) := by
  show SegX M A c (.yield v (gd false) _ _) fs s (endP Qy Qr)
  rw [hgd]
  refine sx_yield hfs hfg fun p => ?_
  refine h _ ?_ fun A' s'' Qy' Qr' hx => ?_
  · show (!(false || fs.any Frame.guarded)) = true
    rw [hfg]; rfl
  · exact hx
theorem sx_Expr_Yield {e : PySem.Expr} {ypos pos : Pos} (hfs : splitAtGen fs = none) (hgd : gd false = false) (hfg : fs.any Frame.guarded = false)
    (h : wpAny M (A.over c fs) (eval e env) (fun v s' => ∀ gs', gs'.bare = true → (∀ A' s'' Qy' Qr', SegX M A' c (K .next) fs s'' (endP Qy' Qr') → Go M A' gs' s'' (endP Qy' Qr')) → Qy v gs' s')
      (fun x s' => SegX M A c (H x) fs s' (endP Qy Qr)) s) (hco : env.scope.isCoroutine = false := by rfl) (hi : interactive env = false := by rfl) :
    SegX M A c ((exec (.Expr (.Yield (some e) ypos) pos) env).wrap K H gd lv) fs s (endP Qy Qr) := by
  rw [exec_Expr env _ pos hi rfl]
  show SegX M A c (.at pos fun _ => ((eval e env >>= fun v => (standAt ypos >>= fun _ => yieldOut env v)) >>= fun x =>
    dropValue (.Yield (some e) ypos) pos x).wrap K H gd lv) fs s (endP Qy Qr)
  have hy : ∀ v, yieldOut env v = yieldValue v := fun v => by simp only [yieldOut, hco, Bool.false_eq_true, if_false]
  simp only [hy]
  refine sx_at ?_
  rw [Sem.bind_eq_wrap', Sem.bind_eq_wrap', Sem.wrap_wrap, Sem.wrap_wrap]
  refine sx_wrap (wpAny_mono h (fun v s' h' => ?_) fun _ _ x => x)
  refine sx_at ?_
  exact sx_yields hfs hgd hfg h'
end
end Mine
end -- H0

section -- X3
open PySem PySem.W PySem.W.X PySem.W.XRun PyProof.Rows
namespace Mine
structure NewTag (s : Shared) (c : Int) (t1 : Tok) (v : PySem.Str) (t2 : Tok) (r : Value) (s' : Shared) : Prop where
  at_ : ∃ y d, r = .ref y ∧ s'.heap.get? y = some (tagObj d c t1 v t2) ∧ s'.heap.get? d = some (dictOf [] 0) ∧ s.heap.get? y = none ∧ s.heap.get? d = none
  pure : Pure s s'
theorem NewTag.of_mem {h h' : Heap} {g d t t' os} {y dd : Addr} {c : Int} {t1 t2 : Tok} {v : PySem.Str} {fr : Addr × Obj} (D : Mem h h' [] [fr, (y, tagObj dd c t1 v t2), (dd, dictOf [] 0)]) : NewTag ⟨h, g, d, t, os⟩ c t1 v t2 (.ref y) ⟨h', g, d, t', os⟩ :=
  ⟨⟨y, dd, rfl, (D.nw _ (.tail _ (.head _))).1, (D.nw _ (.tail _ (.tail _ (.head _)))).1, (D.nw _ (.tail _ (.head _))).2, (D.nw _ (.tail _ (.tail _ (.head _)))).2⟩, Pure.of_mem D⟩
local macro_rules | `(tactic| x_close) => `(tactic| (exact NewTag.of_mem (by assumption)))
section
variable (w : World) (h : Heap) (g : Array GenState) (d : Drawn) (tk : Nat) (os : OsState) (K : (hd.heap_39 w.params).In h) (a dx : Addr) (c : Int) (n : Nat) (v : PySem.Str) (t1 t2 : Tok)
include K
theorem c114 :
   wpAny (model prog w) AX (call (.ref 114) [.int c t1, .str v t2]) (fun r s' => NewTag ⟨h, g, d, tk, os⟩ c t1 v t2 r s') (fun _ _ => False) ⟨h, g, d, tk, os⟩ := by
  x_run
end
end Mine
end -- X3

section -- I0
open PySem PySem.W PyProof.Rows PySem.Calls
open PySem.W.X (SegX wake_any SegX.mono)
namespace Mine
theorem Fit.tag {A : Around} {w : World} {s : Shared} {c : Int} {v : PySem.Str} {t1 t2 : Tok} {Q : Value → Shared → Prop} {E : Value → Shared → Prop} (f : Fit A) (X : (hd.heap_39 w.params).In s.heap)
    (h : ∀ y d h' tk, Ext s.heap h' → h'.get? y = some (tagObj d c t1 v t2) → h'.get? d = some (dictOf [] 0) → s.heap.get? y = none → s.heap.get? d = none → Q (.ref y) { s with heap := h', toks := tk }) :
    wpAny (model prog w) A (PySem.call (.ref 114) [.int c t1, .str v t2]) Q E s :=
  f.any (wpAny_mono (c114 w s.heap s.gens s.drawn s.toks s.os X c v t1 t2) (fun r s' n => by
    obtain ⟨⟨y, d, rfl, h1, h2, h3, h4⟩, p⟩ := n
    rw [p.eq]
    exact h y d _ _ p.ext h1 h2 h3 h4) fun _ _ x => x.elim)
section
variable {prog : Program} {w : World} {A : Around} {E : Value → Shared → Prop} {s : Shared} {c : Code} {fs : List Frame} {P : End → Shared → Prop} {env : Env} {K : Flow → Sem PySem.Fin} {H : Value → Sem PySem.Fin} {gd : Bool → Bool} {lv : List Value → List Value} {Qy : Value → GenState → Shared → Prop} {Qr : Shared → Prop} {M : Model}
def ownK (K : Flow → Sem PySem.Fin) (H : Value → Sem PySem.Fin) (gd : Bool → Bool) (lv : List Value → List Value) (env : Env) : Result → Sem PySem.Fin := fun r =>
  ((match r with | .ok f => (.pure f : Sem Flow) | .error e => .raise e).onRaise fun (x : Value) => do
    if (← field x 1) == Value.none then unsupported "frame.own-activation:exception-without-traceback"
    setFlight x env.frame).wrap K H gd lv
theorem sx_For {target iter : PySem.Expr} {body : List Stmt} {pos : Pos} (hs : ∀ x, foldedSetIterable iter env x = pure x)
    (h : wpAny M (A.over c fs) (eval iter env) (fun x s₁ => wpAny M (A.over c fs) (pyIter x) (fun it s₂ => ∀ p, SegX M A (.forLoop target it body [] env) (M.den (.forLoop target it body [] env)) (.ret (ownK K H gd lv env) none (gd false) (lv []) c p [] :: fs) s₂ P)
      (fun x s' => SegX M A c (H x) fs s' P) s₁) (fun x s' => SegX M A c (H x) fs s' P) s) :
    SegX M A c ((exec (.For target iter body [] pos) env).wrap K H gd lv) fs s P := by
  rw [exec_For]
  refine sx_bw (wpAny_standAt (sx_bw (wpAny_mono h (fun x s₁ h₁ => sx_bw (wpAny_of_eq (hs x) (sx_bw (wpAny_standAt (sx_bw (wpAny_holding (wpAny_mono h₁ (fun it s₂ h₂ => ?_) fun _ _ e => e))))))) fun _ _ e => e)))
  exact sx_call h₂
abbrev loopK (target : PySem.Expr) (it : Value) (body : List Stmt) (env : Env) : Flow → Sem PySem.Fin := fun f => match f with
  | .next | .cont => .pure (.again (.forLoop target it body [] env))
  | .brk => .pure (.done .next)
  | .ret v => .pure (.done (.ret v))
abbrev loopH (env : Env) : Value → Sem PySem.Fin := fun e => (do noteFrame e env; theTreesLotGoes e : Sem Unit).wrap (fun _ => .raise e) .raise id id
theorem sx_forLoop {target : PySem.Expr} {it : Value} {body : List Stmt}
    (h : wpAny (model prog w) (A.over (.forLoop target it body [] env) fs) (pyNext it) (fun r s₁ => match r with
      | none => SegX (model prog w) A (.block [] env) (leafOf (.ok .next)) fs s₁ P
      | some v => wpAny (model prog w) (A.over (.forLoop target it body [] env) fs) (letOwnedTupleGo target it v) (fun _ s₁' => wpAny (model prog w) (A.over (.forLoop target it body [] env) fs) (assign target env v) (fun _ s₂ => SegX (model prog w) A (.forLoop target it body [] env) ((execs body env).wrap (loopK target it body env) (loopH env) id id) fs s₂ P)
        (fun x s' => SegX (model prog w) A (.forLoop target it body [] env) (loopH env x) fs s' P) s₁') (fun x s' => SegX (model prog w) A (.forLoop target it body [] env) (loopH env x) fs s' P) s₁) (fun x s' => SegX (model prog w) A (.forLoop target it body [] env) (loopH env x) fs s' P) s) :
    SegX (model prog w) A (.forLoop target it body [] env) ((model prog w).den (.forLoop target it body [] env)) fs s P := by
  show SegX _ A _ ((forTurn target it body [] env).onRaise (fun x => do noteFrame x env; theTreesLotGoes x)) fs s P
  rw [Sem.onRaise_eq_wrap]
  rw [Sem.wrap_congr (forTurn target it body [] env) _ _ (K' := fun f => (.pure f : Sem PySem.Fin)) (H' := loopH env) (fun f => rfl)
    (fun e => by first | exact Sem.bind_eq_wrap _ _ | (show (do noteFrame e env; theTreesLotGoes e : Sem Unit).bind (fun _ => .raise e) = _; rw [Sem.bind_eq_wrap]))]
  simp only [forTurn]
  refine sx_bw (wpAny_standAt (sx_bw (wpAny_onRaise (wpAny_mono h (fun r s₁ h₁ => ?_) fun _ _ h' => wpAny_standAt h'))))
  cases r with
  | none => exact sx_again rfl h₁
  | some v =>
    refine sx_bw (wpAny_mono h₁ (fun _ s₁' h₁' => sx_bw (wpAny_mono h₁' (fun _ s₂ h₂ => ?_) fun _ _ e => e)) fun _ _ e => e)
    rw [Sem.bind_eq_wrap', Sem.wrap_wrap]
    refine Eq.mpr (congrArg (fun t => SegX (model prog w) A (.forLoop target it body [] env) t fs s₂ P) (Sem.wrap_congr (K' := loopK target it body env) (H' := loopH env) (execs body env) _ _ (fun f => ?_) (fun e => ?_))) h₂
    · cases f <;> rfl
    · rfl
end
end Mine
end -- I0

section -- I1
open PySem PySem.W PyProof.Rows PySem.Calls
open PySem.W.X (SegX wake_any SegX.mono)
namespace Mine
/-- all stands as it stood, but for the frame and the iterator of a generator -/
abbrev ExtB (C I : Addr) (h h' : Heap) : Prop := ∀ b o, b ≠ C → b ≠ I → h.get? b = some o → h'.get? b = some o
section
variable {w : World} {A : Around} {E : Value → Shared → Prop} {s : Shared} {C I l p f : Addr} {hr : Heap} {mm mg : PySem.Str → Option Value} {c : Int} {v : PySem.Str} {t1 t2 : Tok} {Qy : Value → GenState → Shared → Prop} {Qr : Shared → Prop}
variable {q : PySem.Str} {mr : List (PySem.Str × Const)} {cd : Value} {p1 p2 p3 p4 p5 p6 p7 p8 p9 pa pb : Pos} {x1 : Nat}
abbrev gEnv (q : PySem.Str) (mr : List (PySem.Str × Const)) (C f : Addr) (cd : Value) : Env := envOf q { kind := .function, names := [("iterable", .local), ("code", .local), ("value", .local), ("DXFTag", .globalImplicit)], isGenerator := true, isCoroutine := false, more := mr } C f cd
abbrev gTarget (p1 p2 p3 : Pos) (x1 : Nat) : PySem.Expr := .Tuple [.Name "code" p1, .Name "value" p2] x1 p3
abbrev gYield (p4 p5 p6 p7 : Pos) : PySem.Expr := .Call (.Name "DXFTag" p4) [.Name "code" p5, .Name "value" p6] [] p7
abbrev gBody (p4 p5 p6 p7 p8 p9 : Pos) : List Stmt := [.Expr (.Yield (some (gYield p4 p5 p6 p7)) p8) p9]
abbrev gFrame (k : Result → Sem PySem.Fin) (cf : List Stmt) (env : Env) (p : Pos) : List Frame := [.ret k none false [] (.func cf env) p []]
theorem Room.overF {d u : Nat} {k : Result → Sem PySem.Fin} {cf : List Stmt} {env : Env} {pp : Pos} {t : PySem.Expr} {it : Value} {b : List Stmt} (r : Room A (d + 2) (u + 8)) : Room (A.over (.forLoop t it b [] env) (gFrame k cf env pp)) d u :=
  ⟨r.handled, by
    have := r.depth
    have e : (A.over (.forLoop t it b [] env) (gFrame k cf env pp)).depth ≤ A.depth + 2 := by
      show A.depth + 1 + 0 ≤ A.depth + 2
      omega
    omega, by
    have := r.units
    have e : (A.over (.forLoop t it b [] env) (gFrame k cf env pp)).units ≤ A.units + 8 := by
      show A.units + 3 + 0 ≤ A.units + 8
      omega
    omega⟩
theorem end191 {kf : Flow → Sem PySem.Fin} {H0 : Value → Sem PySem.Fin} {items : Array Value} {cf : List Stmt} {pp : Pos} (r : Room A 4 16) (hk : kf .next = .pure (.done (.ret .none))) (hit : s.heap.IsListIter I l items.size) (hl : s.heap.IsList l items)
    (h : ∀ h', (∀ b o, b ≠ I → s.heap.get? b = some o → h'.get? b = some o) → Qr { s with heap := h' }) :
    SegX (model prog w) A (.forLoop (gTarget p1 p2 p3 x1) (.ref I) (gBody p4 p5 p6 p7 p8 p9) [] (gEnv q mr C f cd)) ((model prog w).den (.forLoop (gTarget p1 p2 p3 x1) (.ref I) (gBody p4 p5 p6 p7 p8 p9) [] (gEnv q mr C f cd)))
      (gFrame (ownK kf H0 id id (gEnv q mr C f cd)) cf (gEnv q mr C f cd) pp) s (endP Qy Qr) := by
  refine sx_forLoop (wpAny_pyNext_list_end r.handled hit hl (by simp) fun h' he => ?_)
  refine sx_leaf (.ok .next) ?_
  show SegX _ A _ (kf .next) [] _ _
  rw [hk]
  exact sx_end (.ok (.ret .none)) ⟨.inr rfl, h h' he⟩
theorem turn191 {k : Result → Sem PySem.Fin} {items : Array Value} {cf : List Stmt} {pp : Pos} {j : Nat} (r : Room A 4 16) (X : (hd.heap_39 w.params).In hr) (G : hr.Ns mainGlobals mg) (F : Fr hr C s.heap mm) (hit : s.heap.IsListIter I l j) (hI : hr.get? I = none) (hIC : I ≠ C) (hl : hr.IsList l items) (hp : items[j]? = some (.ref p))
    (ht : IsTup hr p [Value.int c t1, .str v t2].toArray)
    (h : ∀ y d h' tk gs' mm', gs'.bare = true → ExtB C I s.heap h' → h'.get? y = some (tagObj d c t1 v t2) → h'.get? d = some (dictOf [] 0) → (∀ o, s.heap.get? y ≠ some o) → (∀ o, s.heap.get? d ≠ some o) →
      Fr hr C h' mm' → h'.IsListIter I l (j + 1) →
      (∀ A' s'' Qy' Qr', SegX (model prog w) A' (.forLoop (gTarget p1 p2 p3 x1) (.ref I) (gBody p4 p5 p6 p7 p8 p9) [] (gEnv q mr C f cd)) ((model prog w).den (.forLoop (gTarget p1 p2 p3 x1) (.ref I) (gBody p4 p5 p6 p7 p8 p9) [] (gEnv q mr C f cd)))
        (gFrame k cf (gEnv q mr C f cd) pp) s'' (endP Qy' Qr') → Go (model prog w) A' gs' s'' (endP Qy' Qr')) → Qy (.ref y) gs' { s with heap := h', toks := tk }) :
    SegX (model prog w) A (.forLoop (gTarget p1 p2 p3 x1) (.ref I) (gBody p4 p5 p6 p7 p8 p9) [] (gEnv q mr C f cd)) ((model prog w).den (.forLoop (gTarget p1 p2 p3 x1) (.ref I) (gBody p4 p5 p6 p7 p8 p9) [] (gEnv q mr C f cd)))
      (gFrame k cf (gEnv q mr C f cd) pp) s (endP Qy Qr) := by
  have ltC : ∀ {h : Heap} {m : PySem.Str → Option Value}, Fr hr C h m → C < h.objs.size := fun F => let ⟨_, _, _, ho, _⟩ := F.ns; Heap.lt_size ho
  have hrC : ∀ b o, hr.get? b = some o → b ≠ C := fun b o e => Nat.ne_of_lt (Nat.lt_of_lt_of_le (Heap.lt_size e) F.above)
  have hrI : ∀ b o, hr.get? b = some o → b ≠ I := fun b o e z => by rw [z, hI] at e; cases e
  refine sx_forLoop (wpAny_pyNext_list_item hit (hl.at fun o e => F.keep l o e) hp fun h₁ hit₁ hs₁ => ?_)
  have k₁ : ExtB C I s.heap h₁ := fun b o _ hb e => hs₁.extBut b o hb e
  have F₁ : Fr hr C h₁ mm := ⟨F.ns.at' fun o e => hs₁.extBut C o (Ne.symm hIC) e, fun b o e => hs₁.extBut b o (hrI b o e) (F.keep b o e), F.above⟩
  have T₁ : IsTup h₁ p [Value.int c t1, .str v t2].toArray := let ⟨o, ho, r⟩ := ht; ⟨o, F₁.keep _ _ ho, r⟩
  refine wpAny_letOwnedTupleGo_listiter hit₁ ?_
  have rA : Room (A.over (.forLoop (gTarget p1 p2 p3 x1) (.ref I) (gBody p4 p5 p6 p7 p8 p9) [] (gEnv q mr C f cd)) (gFrame k cf (gEnv q mr C f cd) pp)) 2 8 := r.overF
  refine assign_Tuple_tuple rA.handled T₁ rfl rfl fun h₂ he₂ => ?_
  have up₂ : Ext h₁ h₂ := fun b o e => he₂ b o (Nat.ne_of_lt (Heap.lt_size e)) e
  have F₂ := F₁.keeps up₂
  refine wpAny_assignInOrder_more (wpAny_assign_Name (wpAny_storeName_local rfl F₂.ns fun h₃ hn₃ hs₃ => ?_))
  refine wpAny_assignInOrder_more (wpAny_assign_Name (wpAny_storeName_local rfl hn₃ fun h₄ hn₄ hs₄ => wpAny_assignInOrder_none ?_))
  have k₄ : ∀ b o, b ≠ C → h₂.get? b = some o → h₄.get? b = some o := fun b o hb e => hs₄.extBut b o hb (hs₃.extBut b o hb e)
  have F₄ : Fr hr C h₄ _ := ⟨hn₄, fun b o e => k₄ b o (hrC b o e) (F₂.keep b o e), F.above⟩
  refine sx_execs_cons (sx_Expr_Yield rfl rfl rfl ?_)
  refine Call_Name2 (ld_global_at F₄ G (mg_of X G (v := .ref 114) (by k_is)) ?_)
  have X₄ : (hd.heap_39 w.params).In h₄ := X.keeps F₄.keep
  refine callWith_of (P := fun h => (hd.heap_39 w.params).In h) rfl (keeps_K (by k_is)) (evalArgs_plain (spliced_cons (ld F₄ rfl (spliced_cons (ld F₄ rfl (spliced_nil ⟨X₄, ?_⟩))))))
  refine Fit.tag (rA.less (d' := 0) (u' := 0) (by omega) (by omega)).fit X₄ fun y d h₅ tk₅ e₅ hy hd' ny nd gs' hb hgo => ?_
  have k₅ : ExtB C I s.heap h₅ := fun b o hC hI e => e₅ b o (k₄ b o hC (up₂ b o (k₁ b o hC hI e)))
  have hit₄ : h₄.IsListIter I l (j + 1) := let ⟨o, ho, r⟩ := hit₁; ⟨o, k₄ I o hIC (up₂ I o ho), r⟩
  have thru : ∀ b o, s.heap.get? b = some o → ∃ o', h₄.get? b = some o' := by
    intro b o e
    by_cases hb : b = C
    · subst hb
      obtain ⟨o', _, _, ho', _⟩ := F₄.ns
      exact ⟨o', ho'⟩
    · by_cases hb' : b = I
      · subst hb'
        obtain ⟨o', ho', _⟩ := hit₄
        exact ⟨o', ho'⟩
      · exact ⟨o, k₄ b o hb (up₂ b o (k₁ b o hb hb' e))⟩
  refine h y d h₅ tk₅ gs' _ hb k₅ hy hd' (fun o e => ?_) (fun o e => ?_) (F₄.keeps e₅) (let ⟨o, ho, r⟩ := hit₄; ⟨o, e₅ _ _ ho, r⟩) fun A' s'' Qy' Qr' hx => hgo A' s'' Qy' Qr' ?_
  · obtain ⟨o', ho'⟩ := thru y o e
    exact absurd (ho'.symm.trans ny) (by simp)
  · obtain ⟨o', ho'⟩ := thru d o e
    exact absurd (ho'.symm.trans nd) (by simp)
  · exact sx_again rfl hx
end
end Mine
end -- I1

section -- I2
open PySem PySem.W PyProof.Rows PySem.Calls
open PySem.W.X (SegX wake_any SegX.mono)
namespace Mine
abbrev None' (h : Heap) (a : Addr) : Prop := ∀ o, h.get? a ≠ some o
def Spec3 (w : World) (hr : Heap) (C I l : Addr) (mm : PySem.Str → Option Value) (gs : GenState) : Prop := ∀ A s Qy Qr, Room A 4 16 → Fr hr C s.heap mm → s.heap.IsListIter I l 2 →
  (∀ h', (∀ b o, b ≠ I → s.heap.get? b = some o → h'.get? b = some o) → Qr { s with heap := h' }) → Go (model prog w) A gs s (endP Qy Qr)
def Spec2 (w : World) (hr : Heap) (C I l : Addr) (mm : PySem.Str → Option Value) (gs : GenState) (c2 : Int) (t3 : Tok) (v2 : PySem.Str) (t4 : Tok) : Prop := ∀ A s Qy Qr, Room A 4 16 → Fr hr C s.heap mm → s.heap.IsListIter I l 1 →
  (∀ y d h' tk gs' mm', gs'.bare = true → ExtB C I s.heap h' → h'.get? y = some (tagObj d c2 t3 v2 t4) → h'.get? d = some (dictOf [] 0) → None' s.heap y → None' s.heap d → Fr hr C h' mm' → h'.IsListIter I l 2 → Spec3 w hr C I l mm' gs' →
    Qy (.ref y) gs' { s with heap := h', toks := tk }) → Go (model prog w) A gs s (endP Qy Qr)
def Spec1 (w : World) (hr : Heap) (C l : Addr) (mm : PySem.Str → Option Value) (gs : GenState) (c1 : Int) (t1 : Tok) (v1 : PySem.Str) (t2 : Tok) (c2 : Int) (t3 : Tok) (v2 : PySem.Str) (t4 : Tok) : Prop := ∀ A s Qy Qr, Room A 6 24 → Fr hr C s.heap mm →
  (∀ y d I h' tk gs' mm', gs'.bare = true → (∀ b o, b ≠ C → s.heap.get? b = some o → h'.get? b = some o) → None' s.heap I → hr.get? I = none → I ≠ C → y ≠ I → d ≠ I → h'.get? y = some (tagObj d c1 t1 v1 t2) → h'.get? d = some (dictOf [] 0) → None' s.heap y → None' s.heap d →
    Fr hr C h' mm' → h'.IsListIter I l 1 → Spec2 w hr C I l mm' gs' c2 t3 v2 t4 → Qy (.ref y) gs' { s with heap := h', toks := tk }) → Go (model prog w) A gs s (endP Qy Qr)
section
variable {w : World} {A : Around} {E : Value → Shared → Prop} {s : Shared} {C I l p f a L r1 r2 : Addr} {hr h₀ : Heap} {m mm mg : PySem.Str → Option Value} {c c1 c2 : Int} {v v1 v2 : PySem.Str} {t1 t2 t3 t4 : Tok} {Qy : Value → GenState → Shared → Prop} {Qr : Shared → Prop} {news : List (Addr × Obj)}
variable {q : PySem.Str} {mr : List (PySem.Str × Const)} {cd : Value} {p1 p2 p3 p4 p5 p6 p7 p8 p9 pa pb : Pos} {x1 : Nat}
theorem spec1_fresh (X : (hd.heap_39 w.params).In hr) (G : hr.Ns mainGlobals mg) (hm : mm "iterable" = some (.ref l)) (hl : hr.IsList l #[.ref r1, .ref r2])
    (ht1 : IsTup hr r1 [Value.int c1 t1, .str v1 t2].toArray) (ht2 : IsTup hr r2 [Value.int c2 t3, .str v2 t4].toArray) :
    Spec1 w hr C l mm (.fresh (.func [.For (gTarget p1 p2 p3 x1) (.Name "iterable" pa) (gBody p4 p5 p6 p7 p8 p9) [] pb] (gEnv q mr C f cd))) c1 t1 v1 t2 c2 t3 v2 t4 := by
  intro A s Qy Qr r F h
  show SegX _ A _ _ [] s _
  refine sx_func (sx_execs_cons (sx_For (fun _ => rfl) (ld F hm ?_)))
  have hls : s.heap.IsList l #[.ref r1, .ref r2] := hl.at fun o e => F.keep l o e
  refine wpAny_pyIter_list hls fun pp => ?_
  have sz : hr.objs.size < s.heap.objs.size := let ⟨_, _, _, ho, _⟩ := F.ns; Nat.lt_of_le_of_lt F.above (Heap.lt_size ho)
  have ltC : C < s.heap.objs.size := let ⟨_, _, _, ho, _⟩ := F.ns; Heap.lt_size ho
  have hrI : hr.get? s.heap.objs.size = none := by
    cases e : hr.get? s.heap.objs.size with
    | none => rfl
    | some o => exact absurd (Heap.lt_size e) (Nat.lt_asymm sz)
  have nI : None' s.heap s.heap.objs.size := fun o e => Nat.lt_irrefl _ (Heap.lt_size e)
  have up : Ext s.heap (s.heap.push { cls := .type "list_iterator", data := .fields #[.ref l, .int 0 0] }) := fun b o e => Heap.get?_push_of_some _ e
  have gI : (s.heap.push { cls := .type "list_iterator", data := .fields #[.ref l, .int 0 0] }).get? s.heap.objs.size = some { cls := .type "list_iterator", data := .fields #[.ref l, .int 0 0] } := Heap.get?_push_size _ rfl
  refine turn191 (p := r1) (j := 0) (r.less (by omega) (by omega)) X G (F.keeps up) ⟨_, gI, rfl, rfl⟩ hrI (Nat.ne_of_gt ltC) hl rfl ht1 ?_
  intro y d h' tk gs' mm' hb k hy hd' ny nd F' hit' hgo
  refine h y d s.heap.objs.size h' tk gs' mm' hb (fun b o hC e => k b o hC (Nat.ne_of_lt (Heap.lt_size e)) (up b o e)) nI hrI (Nat.ne_of_gt ltC) (fun z => ny _ (by rw [z]; exact gI)) (fun z => nd _ (by rw [z]; exact gI)) hy hd' (fun o e => ny o (up _ _ e)) (fun o e => nd o (up _ _ e)) F' hit' ?_
  intro A₂ s₂ Qy₂ Qr₂ r₂ F₂ hit₂ h₂
  refine hgo A₂ s₂ Qy₂ Qr₂ (turn191 (p := r2) (j := 1) r₂ X G F₂ hit₂ hrI (Nat.ne_of_gt ltC) hl rfl ht2 ?_)
  intro y₂ d₂ h'₂ tk₂ gs'₂ mm'₂ hb₂ k₂ hy₂ hd₂ ny₂ nd₂ F'₂ hit'₂ hgo₂
  refine h₂ y₂ d₂ h'₂ tk₂ gs'₂ mm'₂ hb₂ k₂ hy₂ hd₂ ny₂ nd₂ F'₂ hit'₂ ?_
  intro A₃ s₃ Qy₃ Qr₃ r₃ F₃ hit₃ h₃
  exact hgo₂ A₃ s₃ Qy₃ Qr₃ (end191 r₃ rfl hit₃ (hl.at fun o e => F₃.keep l o e) h₃)
/-- the generator of tuples_to_tags, fresh -/
def Gen191 (w : World) (h₀ : Heap) (L : Addr) (news : List (Addr × Obj)) (l : Addr) (c1 : Int) (t1 : Tok) (v1 : PySem.Str) (t2 : Tok) (c2 : Int) (t3 : Tok) (v2 : PySem.Str) (t4 : Tok) (s : Shared) (a : Addr) : Prop :=
  ∃ hr C g mm gs, s.heap.IsGen a g ∧ s.gens[g]? = some gs ∧ hr.NoLimit ∧ Fr hr C s.heap mm ∧ Spec1 w hr C l mm gs c1 t1 v1 t2 c2 t3 v2 t4 ∧ h₀.get? C = none ∧ C ≠ L ∧ (∀ p ∈ news, p.1 ≠ C) ∧ a ≠ C
theorem call_191 {Q : Value → Shared → Prop} (r : Room A 4 20) (F : Fr h₀ L s.heap m) (X : (hd.heap_39 w.params).In h₀) (hlim : h₀.NoLimit) (G : h₀.Ns mainGlobals mg) (N : News h₀ L s.heap news) (hm : (l, W.listOf [.ref r1, .ref r2].toArray 0) ∈ news)
    (h1 : (r1, ({ cls := .type "tuple", data := .seq [.int c1 t1, .str v1 t2].toArray } : Obj)) ∈ news) (h2 : (r2, ({ cls := .type "tuple", data := .seq [.int c2 t3, .str v2 t4].toArray } : Obj)) ∈ news) (B : AllBare s.gens)
    (h : ∀ a h' tk gs, Fr h₀ L h' m → News h₀ L h' news → AllBare gs → Gen191 w h₀ L news l c1 t1 v1 t2 c2 t3 v2 t4 { s with heap := h', toks := tk, gens := gs } a → Q (.ref a) { s with heap := h', toks := tk, gens := gs }) :
    wpAny (model prog w) A (PySem.call (.ref 191) [.ref l]) Q E s := by
  refine wpAny_call ?_
  refine' call_genfn (X.keeps F.keep) (hlim.keeps F.keep) r.deep ?k1 ?k2 ?k3 ?k4 ?_ ?c2 ?c3 ?c4 ?c5
  case k1 => k_is
  case k2 => k_is
  case k3 => exact BindsTo.of_eq rfl
  case k4 => exact locs rfl
  case c5 => decide
  case c2 => exact rfl
  case c3 => exact rfl
  case c4 => exact rfl
  intro h₁ tk F₁ hg
  have hn : ∀ {b : Addr} {o : Obj}, s.heap.get? b = some o → b ≠ s.heap.objs.size := fun e => Nat.ne_of_lt (Heap.lt_size e)
  refine h _ h₁ tk _ (F.keeps F₁.keep) (N.grown F₁.keep) (B.push rfl) ⟨s.heap, s.heap.objs.size, s.gens.size, _, _, hg, Array.getElem?_push_size .., hlim.keeps F.keep, F₁, ?_, ?_, ?_, ?_, ?_⟩
  · exact spec1_fresh (X.keeps F.keep) (G.keeps F.keep) rfl ⟨_, N.get hm, rfl, _, rfl⟩ (N.isTup h1) (N.isTup h2)
  · cases e : h₀.get? s.heap.objs.size with
    | none => rfl
    | some o => exact absurd rfl (hn (F.keep _ _ e))
  · obtain ⟨_, _, _, ho, _⟩ := F.ns
    exact fun z => hn ho z.symm
  · exact fun p hp => hn (N p hp).1
  · exact Nat.succ_ne_self _
end
end Mine
end -- I2

section -- I3
open PySem PySem.W PyProof.Rows PySem.Calls
open PySem.W.X (SegX wake_any SegX.mono)
namespace Mine
theorem setGen_get {s : Shared} {g : Nat} {gs x : GenState} (h : s.gens[g]? = some gs) : (s.setGen g x).gens[g]? = some x := setGen_self h
theorem bare_set {gs : Array GenState} {g : Nat} {x : GenState} (B : AllBare gs) (hx : x.bare = true) : AllBare (gs.setIfInBounds g x) := by
  intro y hy
  rcases Array.mem_iff_getElem.mp hy with ⟨i, hi, rfl⟩
  have hi' : i < gs.size := by simpa using hi
  rw [Array.getElem_setIfInBounds hi']
  split
  · exact hx
  · exact B _ (Array.getElem_mem _)
theorem bare_gen {s : Shared} {g : Nat} {x : GenState} (B : AllBare s.gens) (hx : x.bare = true) : AllBare (s.setGen g x).gens := bare_set B hx
section
variable {prog : Program} {w : World} {A : Around} {E : Value → Shared → Prop} {s : Shared} {R : Result → Shared → Prop}
theorem ext_step {S it : Addr} {res : Value} (h : wpAny (model prog w) A.in1 (pyNext (.ref it)) (fun r s' => match r with
      | none => R (.ok (.ret res)) s'
      | some v => ∃ acc c, s'.heap.get? S = some { cls := .type "list", data := .seq acc c } ∧ acc.size ≤ 1000 ∧ codeAny (model prog w) A (.builtin "list.extend.loop" ⟨[.ref S, .ref it, res], []⟩) R { s' with heap := s'.heap.update S (Obj.mapSeq (·.push v)) }) (fun e s' => R (.error e) s') s) :
    codeAny (model prog w) A (.builtin "list.extend.loop" ⟨[.ref S, .ref it, res], []⟩) R s := by
  refine codeAny_builtin PySem.F.entry_extend_loop ?_
  rw [Around.under_plainId PySem.F.plain_extend_loop _]
  show wpAny _ A.in1 (pyNext (.ref it) >>= _) _ _ s
  refine wpAny_bind (wpAny_mono h (fun r s' hr => ?_) fun _ _ e => e)
  cases r with
  | none => exact wpAny_pure hr
  | some v =>
    obtain ⟨acc, c, hS, hz, hc⟩ := hr
    show wpAny _ A.in1 (updateSeq S (·.push v) >>= _) _ _ _
    refine wpAny_bind (wpAny_updateSeq hS rfl (wpAny_pure ⟨plainId_quiet PySem.F.plain_extend_loop _, hc⟩) ?_ ?_)
    · rw [sizeLine_eq]; omega
    · show (acc.push v).size ≤ sizeLine + 1
      rw [Array.size_push, sizeLine_eq]; omega
end
section
variable {w : World} {A : Around} {E : Value → Shared → Prop} {s : Shared} {C I l p f a L r1 r2 : Addr} {hr h₀ : Heap} {m mm mg : PySem.Str → Option Value} {c c1 c2 : Int} {v v1 v2 : PySem.Str} {t1 t2 t3 t4 : Tok} {news : List (Addr × Obj)}
/-- after the two draws and the end -/
def Done191 (s : Shared) (C S : Addr) (c1 : Int) (t1 : Tok) (v1 : PySem.Str) (t2 : Tok) (c2 : Int) (t3 : Tok) (v2 : PySem.Str) (t4 : Tok) (s' : Shared) : Prop :=
  ∃ h' tk gs y1 d1 y2 d2 n, s' = { s with heap := h', toks := tk, gens := gs } ∧ (∀ b o, b ≠ C → b ≠ S → s.heap.get? b = some o → h'.get? b = some o) ∧ (AllBare s.gens → AllBare gs) ∧
    h'.get? S = some { cls := .type "list", data := .seq #[.ref y1, .ref y2] n } ∧ h'.get? y1 = some (tagObj d1 c1 t1 v1 t2) ∧ h'.get? d1 = some (dictOf [] 0) ∧ h'.get? y2 = some (tagObj d2 c2 t3 v2 t4) ∧ h'.get? d2 = some (dictOf [] 0) ∧
    None' s.heap y1 ∧ None' s.heap d1 ∧ None' s.heap y2 ∧ None' s.heap d2
theorem loop191 {R : Result → Shared → Prop} {res : Value} {g n₀ : Nat} {gs : GenState} {S : Addr} (r : Room A 6 30) (hlim : hr.NoLimit) (hg : s.heap.IsGen a g) (hgs : s.gens[g]? = some gs) (F : Fr hr C s.heap mm) (haC : a ≠ C) (haS : a ≠ S) (hSC : S ≠ C) (hSr : hr.get? S = none)
    (hS : s.heap.get? S = some { cls := .type "list", data := .seq #[] n₀ }) (H : Spec1 w hr C l mm gs c1 t1 v1 t2 c2 t3 v2 t4) (h : ∀ s', Done191 s C S c1 t1 v1 t2 c2 t3 v2 t4 s' → R (.ok (.ret res)) s') :
    codeAny (model prog w) A (.builtin "list.extend.loop" ⟨[.ref S, .ref a, res], []⟩) R s := by
  have hrS : ∀ b o, hr.get? b = some o → b ≠ S := fun b o e z => by rw [z, hSr] at e; cases e
  have rA : Room A.in1 6 25 := r.of_in (by omega) (by omega)
  refine ext_step (next_x rA.handled (hlim.keeps F.keep) rA.deep hg hgs (H A.in1.in1 _ _ _ (rA.of_in (by omega) (by omega)) F ?_))
  intro y1 d1 I h₁ tk₁ gs₁ mm₁ b₁ k₁ nI hrI hIC y1I d1I hy1 hd1 ny1 nd1 F₁ hit₁ H₂
  have SI : S ≠ I := fun z => nI _ (z ▸ hS)
  have aI : a ≠ I := fun z => let ⟨o, _, _, ho, _⟩ := hg; nI _ (z ▸ ho)
  have hS₁ := k₁ S _ hSC hS
  refine ⟨#[], n₀, hS₁, by simp, ?_⟩
  have up₁ : ∀ b o, b ≠ S → h₁.get? b = some o → (h₁.update S (Obj.mapSeq (·.push (.ref y1)))).get? b = some o := fun b o hb e => (Heap.get?_update_other _ _ (Ne.symm hb)).trans e
  have gS₁ := Heap.get?_update_self (Obj.mapSeq (·.push (Value.ref y1))) hS₁ rfl
  have y1S : y1 ≠ S := fun z => ny1 _ (z ▸ hS)
  have d1S : d1 ≠ S := fun z => nd1 _ (z ▸ hS)
  obtain ⟨oC, _, _, hoC, _⟩ := id F.ns
  have y1C : y1 ≠ C := fun z => ny1 _ (z ▸ hoC)
  have d1C : d1 ≠ C := fun z => nd1 _ (z ▸ hoC)
  have F₁' : Fr hr C (h₁.update S (Obj.mapSeq (·.push (.ref y1)))) mm₁ := ⟨F₁.ns.at' fun o e => up₁ C o (Ne.symm hSC) e, fun b o e => up₁ b o (hrS b o e) (F₁.keep b o e), F₁.above⟩
  have hg₁ : (h₁.update S (Obj.mapSeq (·.push (.ref y1)))).IsGen a g := let ⟨o, nm, qn, ho, z⟩ := hg; ⟨o, nm, qn, up₁ a o haS (k₁ a o haC ho), z⟩
  have hit₁' : (h₁.update S (Obj.mapSeq (·.push (.ref y1)))).IsListIter I l 1 := let ⟨o, ho, z⟩ := hit₁; ⟨o, up₁ I o (Ne.symm SI) ho, z⟩
  have hgs₁ : (s.setGen g .running).gens[g]? = some .running := setGen_self hgs
  refine ext_step (next_x rA.handled (hlim.keeps F₁'.keep) rA.deep hg₁ (setGen_self (s := { s.setGen g .running with heap := h₁, toks := tk₁ }) (x := gs₁) hgs₁) (H₂ A.in1.in1 _ _ _ (rA.of_in (by omega) (by omega)) F₁' hit₁' ?_))
  intro y2 d2 h₂ tk₂ gs₂ mm₂ b₂ k₂ hy2 hd2 ny2 nd2 F₂ hit₂ H₃
  have hS₂ := k₂ S _ hSC SI gS₁
  refine ⟨_, _, hS₂, by simp, ?_⟩
  have up₂ : ∀ b o, b ≠ S → h₂.get? b = some o → (h₂.update S (Obj.mapSeq (·.push (.ref y2)))).get? b = some o := fun b o hb e => (Heap.get?_update_other _ _ (Ne.symm hb)).trans e
  have gS₂ := Heap.get?_update_self (Obj.mapSeq (·.push (Value.ref y2))) hS₂ rfl
  have y2S : y2 ≠ S := fun z => ny2 _ (by rw [z]; exact gS₁)
  have d2S : d2 ≠ S := fun z => nd2 _ (by rw [z]; exact gS₁)
  have y2I : y2 ≠ I := fun z => let ⟨o, ho, _⟩ := hit₁'; ny2 _ (z ▸ ho)
  have d2I : d2 ≠ I := fun z => let ⟨o, ho, _⟩ := hit₁'; nd2 _ (z ▸ ho)
  have F₂' : Fr hr C (h₂.update S (Obj.mapSeq (·.push (.ref y2)))) mm₂ := ⟨F₂.ns.at' fun o e => up₂ C o (Ne.symm hSC) e, fun b o e => up₂ b o (hrS b o e) (F₂.keep b o e), F₂.above⟩
  have hg₂ : (h₂.update S (Obj.mapSeq (·.push (.ref y2)))).IsGen a g := let ⟨o, nm, qn, ho, z⟩ := hg₁; ⟨o, nm, qn, up₂ a o haS (k₂ a o haC aI ho), z⟩
  have hit₂' : (h₂.update S (Obj.mapSeq (·.push (.ref y2)))).IsListIter I l 2 := let ⟨o, ho, z⟩ := hit₂; ⟨o, up₂ I o (Ne.symm SI) ho, z⟩
  refine ext_step (next_x rA.handled (hlim.keeps F₂'.keep) rA.deep hg₂ ?_ (H₃ A.in1.in1 _ _ _ (rA.of_in (by omega) (by omega)) F₂' hit₂' ?_))
  · refine setGen_self (gs := .running) ?_
    refine setGen_self (gs := gs₁) ?_
    refine setGen_self (gs := .running) ?_
    exact setGen_self hgs
  intro h₃ k₃ h₄ k₄
  have thru : ∀ b o, b ≠ C → b ≠ S → b ≠ I → s.heap.get? b = some o → h₄.get? b = some o := fun b o hC hS' hI e => k₄ b o (k₃ b o hI (up₂ b o hS' (k₂ b o hC hI (up₁ b o hS' (k₁ b o hC e)))))
  have nI' : ∀ b o, s.heap.get? b = some o → b ≠ I := fun b o e z => nI _ (z ▸ e)
  obtain ⟨oC2, _, _, hoC2, _⟩ := id F₁'.ns
  have thru1 : ∀ b o, b ≠ S → s.heap.get? b = some o → ∃ o', (h₁.update S (Obj.mapSeq (·.push (.ref y1)))).get? b = some o' := fun b o hS' e => by
    by_cases hC : b = C
    · exact ⟨_, hC ▸ hoC2⟩
    · exact ⟨_, up₁ b o hS' (k₁ b o hC e)⟩
  have y2C : y2 ≠ C := fun z => ny2 _ (z ▸ hoC2)
  have d2C : d2 ≠ C := fun z => nd2 _ (z ▸ hoC2)
  refine h _ ⟨h₄, _, _, y1, d1, y2, d2, _, rfl, fun b o hC hS' e => thru b o hC hS' (nI' b o e) e, fun B => ?_, k₄ S _ (k₃ S _ SI gS₂), ?_, ?_, ?_, ?_, ny1, nd1, fun o e => ?_, fun o e => ?_⟩
  · refine bare_gen ?_ rfl
    refine bare_gen (x := .running) ?_ rfl
    refine bare_gen (x := gs₂) ?_ b₂
    refine bare_gen (x := .running) ?_ rfl
    refine bare_gen (x := gs₁) ?_ b₁
    exact bare_gen (x := .running) B rfl
  · exact k₄ _ _ (k₃ _ _ y1I (up₂ _ _ y1S (k₂ _ _ y1C y1I (up₁ _ _ y1S hy1))))
  · exact k₄ _ _ (k₃ _ _ d1I (up₂ _ _ d1S (k₂ _ _ d1C d1I (up₁ _ _ d1S hd1))))
  · exact k₄ _ _ (k₃ _ _ y2I (up₂ _ _ y2S hy2))
  · exact k₄ _ _ (k₃ _ _ d2I (up₂ _ _ d2S hd2))
  · obtain ⟨o', ho'⟩ := thru1 y2 o y2S e
    exact ny2 _ ho'
  · obtain ⟨o', ho'⟩ := thru1 d2 o d2S e
    exact nd2 _ ho'
end
end Mine
end -- I3

section -- I4
open PySem PySem.W PyProof.Rows PySem.Calls
namespace Mine
section
variable {w : World} {A : Around} {E : Value → Shared → Prop} {s : Shared} {C I l p f a L r1 r2 : Addr} {hr h₀ : Heap} {m mm mg : PySem.Str → Option Value} {c c1 c2 : Int} {v v1 v2 : PySem.Str} {t1 t2 t3 t4 : Tok} {news : List (Addr × Obj)}
theorem list_191 {Q : Value → Shared → Prop} (r : Room A 6 40) (F : Fr h₀ L s.heap m) (N : News h₀ L s.heap news) (B : AllBare s.gens) (R : Gen191 w h₀ L news l c1 t1 v1 t2 c2 t3 v2 t4 s a)
    (h : ∀ l2 n y1 d1 y2 d2 h' tk gs, Fr h₀ L h' m → News h₀ L h' ((l2, ({ cls := .type "list", data := .seq [.ref y1, .ref y2].toArray n } : Obj)) :: (y2, tagObj d2 c2 t3 v2 t4) :: (d2, dictOf [] 0) :: (y1, tagObj d1 c1 t1 v1 t2) :: (d1, dictOf [] 0) :: news) → AllBare gs →
      Q (.ref l2) { s with heap := h', toks := tk, gens := gs }) : wpAny (model prog w) A (PySem.call (.type "list") [.ref a]) Q E s := by
  obtain ⟨hr, C, g, mm, gs, hg, hgs, hlim, FG, H, hC0, hCL, hCN, haC⟩ := R
  refine callType_codes (Q₁ := fun obj s₁ => obj = .ref s.heap.objs.size ∧ s₁ = { s with heap := s.heap.push { cls := .type "list", data := .seq #[] } }) PySem.F.called_list (PySem.F.typeCall_list_1 _) PySem.F.entry_list_init
    (code_list_new _ ⟨rfl, rfl⟩) fun obj s₁ h₁ => ?_
  obtain ⟨rfl, rfl⟩ := h₁
  have hS : (s.heap.push { cls := .type "list", data := .seq #[] }).get? s.heap.objs.size = some { cls := .type "list", data := .seq #[] } := Heap.get?_push_size _ rfl
  refine ⟨⟨_, hS, rfl⟩, PySem.F.args_list_init_2 _ _, ?_⟩
  show wpAny _ A.in1.in1 (do let old ← Builtin.List.listItems (.ref s.heap.objs.size); Builtin.List.listUpdate (.ref s.heap.objs.size) (fun _ => #[]); letGo old.toList.reverse; Builtin.List.listExtendWith (.ref s.heap.objs.size) (.ref a) .none) _ _ _
  refine wpAny_bind ?_
  unfold Builtin.List.listItems
  refine wpAny_bind (wpAny_seqItems hS rfl (wpAny_pure ?_))
  show wpAny _ A.in1.in1 (updateSeq s.heap.objs.size (fun _ => #[]) >>= fun _ => letGo (#[] : Array Value).toList.reverse >>= fun _ => Builtin.List.listExtendWith (.ref s.heap.objs.size) (.ref a) .none) _ _ _
  refine wpAny_bind (wpAny_updateSeq hS rfl ?_)
  have hS₂ := Heap.get?_update_self (Obj.mapSeq (fun _ => (#[] : Array Value))) hS rfl
  have hn : ∀ {b : Addr} {o : Obj}, s.heap.get? b = some o → b ≠ s.heap.objs.size := fun e => Nat.ne_of_lt (Heap.lt_size e)
  have oth : ∀ b o, s.heap.get? b = some o → ((s.heap.push { cls := .type "list", data := .seq #[] }).update s.heap.objs.size (Obj.mapSeq (fun _ => (#[] : Array Value)))).get? b = some o :=
    fun b o e => (Heap.get?_update_other _ _ (Ne.symm (hn e))).trans (Heap.get?_push_of_some _ e)
  refine wpAny_bind (wpAny_letGo ?_)
  generalize hh₂ : (s.heap.push { cls := .type "list", data := .seq #[] }).update s.heap.objs.size (Obj.mapSeq (fun _ => (#[] : Array Value))) = h₂ at *
  have hg₂ := hg.keeps oth
  have haS : a ≠ s.heap.objs.size := let ⟨o, _, _, ho, _⟩ := hg; hn ho
  unfold Builtin.List.listExtendWith
  refine wpAny_bind (wpAny_typeOf (Heap.IsGen.typeIs hg₂) ?_)
  have h1 : Builtin.List.listSameRef (.ref s.heap.objs.size) (.ref a) = false := by simp [Builtin.List.listSameRef, Ne.symm haS]
  have h2 : (Value.type "generator" == Value.type "list") = false := by decide
  have h3 : (Value.type "generator" == Value.type "tuple") = false := by decide
  simp only [h1, h2, h3, Bool.or_false, Bool.false_eq_true, if_false]
  refine wpAny_bind (wpAny_pyIter_gen hg₂ ?_)
  refine wpAny_bind (wpAny_holding ?_)
  unfold Builtin.List.listLengthHint
  refine wpAny_bind (wpAny_specialOf (Heap.IsGen.typeIs hg₂) PySem.F.gen_no_len ?_)
  show wpAny _ _ (specialOf (Value.ref a) (PySem.Str.ofString "__length_hint__") >>= _) _ _ _
  refine wpAny_bind (wpAny_specialOf (Heap.IsGen.typeIs hg₂) PySem.F.gen_no_hint ?_)
  refine wpAny_pure ?_
  show wpAny _ _ (rule "list.extend.makes-room" >>= fun _ => Builtin.List.listTouch (.ref s.heap.objs.size) >>= fun _ =>
    again (.builtin "list.extend.loop" ⟨[.ref s.heap.objs.size, .ref a, .none], []⟩)) _ _ _
  refine wpAny_bind (wpAny_rule ?_)
  refine wpAny_bind ?_
  show wpAny _ _ (updateSeq s.heap.objs.size (·.push .none) >>= fun _ => updateSeq s.heap.objs.size (·.pop)) _ _ _
  refine wpAny_bind (wpAny_updateSeq hS₂ rfl ?_)
  have hS₃ := Heap.get?_update_self (Obj.mapSeq (·.push Value.none)) hS₂ rfl
  refine wpAny_updateSeq (hz := by seq_fits) hS₃ rfl ?_
  have hS₄ := Heap.get?_update_self (Obj.mapSeq (·.pop)) hS₃ rfl
  have oth' : ∀ b o, s.heap.get? b = some o → ((h₂.update s.heap.objs.size (Obj.mapSeq (·.push Value.none))).update s.heap.objs.size (Obj.mapSeq (·.pop))).get? b = some o :=
    fun b o e => (Heap.get?_update_other _ _ (Ne.symm (hn e))).trans ((Heap.get?_update_other _ _ (Ne.symm (hn e))).trans (oth b o e))
  obtain ⟨oC, _, _, hoC, _⟩ := id FG.ns
  have hSr : hr.get? s.heap.objs.size = none := by
    cases e : hr.get? s.heap.objs.size with
    | none => rfl
    | some o => exact absurd rfl (hn (FG.keep _ _ e))
  refine wpAny_pure ⟨plainId_quiet PySem.F.plain_extend_loop _, loop191 (s := { s with heap := (h₂.update s.heap.objs.size (Obj.mapSeq (·.push Value.none))).update s.heap.objs.size (Obj.mapSeq (·.pop)) }) (r.of_in (by omega) (by omega)) hlim (hg.keeps oth') hgs (FG.keeps oth') haC haS (Ne.symm (hn hoC)) hSr hS₄ H fun s' D => ?_⟩
  obtain ⟨h', tk, gs', y1, d1, y2, d2, n, rfl, k, G, hl, e1, e2, e3, e4, n1, n2, n3, n4⟩ := D
  refine ⟨rfl, ?_⟩
  obtain ⟨oL, _, _, hoL, _⟩ := id F.ns
  have old : ∀ b o, b ≠ C → s.heap.get? b = some o → h'.get? b = some o := fun b o hb e => k b o hb (hn e) (oth' b o e)
  have fresh : ∀ {b : Addr}, None' ((h₂.update s.heap.objs.size (Obj.mapSeq (·.push Value.none))).update s.heap.objs.size (Obj.mapSeq (·.pop))) b → b ≠ L ∧ h₀.get? b = none := fun {b} nb => by
    refine ⟨fun z => nb oL (by rw [z]; exact oth' _ _ hoL), ?_⟩
    cases e : h₀.get? b with
    | none => rfl
    | some o => exact absurd (oth' _ _ (F.keep _ _ e)) (nb o)
  have hl0 : h₀.get? s.heap.objs.size = none := by
    cases e : h₀.get? s.heap.objs.size with
    | none => rfl
    | some o => exact absurd rfl (hn (F.keep _ _ e))
  refine h s.heap.objs.size n y1 d1 y2 d2 h' tk gs' ⟨F.ns.at' fun o e => old L o (Ne.symm hCL) e, fun b o e => old b o (fun z => by rw [z, hC0] at e; cases e) (F.keep b o e), F.above⟩ ?_ (G B)
  intro q hq
  rcases List.mem_cons.mp hq with rfl | hq
  · exact ⟨hl, Ne.symm (hn hoL), hl0⟩
  rcases List.mem_cons.mp hq with rfl | hq
  · exact ⟨e3, fresh n3⟩
  rcases List.mem_cons.mp hq with rfl | hq
  · exact ⟨e4, fresh n4⟩
  rcases List.mem_cons.mp hq with rfl | hq
  · exact ⟨e1, fresh n1⟩
  rcases List.mem_cons.mp hq with rfl | hq
  · exact ⟨e2, fresh n2⟩
  · exact ⟨old _ _ (hCN q hq) (N q hq).1, (N q hq).2⟩
end
end Mine
end -- I4

section -- W0
open PySem PySem.W PyProof.Rows PySem.Calls
namespace Mine
theorem in_of_fr {K : Frag} {h₀ h : Heap} {L : Addr} {m : PySem.Str → Option Value} (F : Fr h₀ L h m) (X : K.In h₀) : K.In h := X.keeps F.keep
theorem looks_news {M : Model} {h₀ h : Heap} {L D : Addr} {o : Obj} {news : List (Addr × Obj)} (N : News h₀ L h news) (hm : (D, o) ∈ news) : Looks M h (typeOf (.ref D)) o.cls :=
  (Looks.ld (part := none) (N.get hm)).andThen .now

section
variable {w : World} {A : Around} {E : Value → Shared → Prop} {s : Shared} {K : Frag} {x C L f D : Addr} {h₀ : Heap} {m : PySem.Str → Option Value} {ox o : Obj} {od : Option Obj} {news : List (Addr × Obj)} {Q : Value → Shared → Prop}
/-- an own object at the left, a made thing of a built-in type at the right -/
theorem eq_own {op : CmpOp} (hu : A.units < cLine) (F : Fr h₀ L s.heap m) (X₀ : K.In h₀) (I : W.InstAt s.heap x ox C od) (N : News h₀ L s.heap news) (hm : (D, o) ∈ news)
    (hn : notFirst K C o.cls = true) (hs : findIn K (.ref C) (cmpInfo op).2.1 = some (some (.ref f))) (hf : isFn K (.ref f) = true)
    (h : wpAny (model prog w) A (PySem.call (.ref f) [.ref x, .ref D]) (W.CmpBack Q) E s) : wpAny (model prog w) A (richCompare op (.ref x) (.ref D)) Q E s :=
  cmp_K hu F X₀ I (looks_news N hm) hn hs hf h

theorem eq_turned {its : Array Value} {n : Nat} (hu : A.in1.units < cLine) (F : Fr h₀ L s.heap m) (X₀ : K.In h₀) (I : W.InstAt s.heap x ox C od) (N : News h₀ L s.heap news) (hm : (D, ({ cls := .type "tuple", data := .seq its n } : Obj)) ∈ news)
    (hn : subIn K (.ref C) (.type "tuple") = some false) (hs : findIn K (.ref C) "__eq__" = some (some (.ref f))) (hf : isFn K (.ref f) = true)
    (h : wpAny (model prog w) A (PySem.call (.ref f) [.ref x, .ref D]) (W.CmpBack Q) E s) : wpAny (model prog w) A (richCompare .Eq (.ref D) (.ref x)) Q E s := by
  have X := X₀.keeps F.keep
  have hu0 : A.units < cLine := Nat.lt_of_succ_lt hu
  have hT : s.TypeIs (.ref D) "tuple" := ⟨_, N.get hm, rfl⟩
  unfold richCompare
  simp only [oneThing_ref]
  refine wpAny_holding (wpAny_bind (wpAny_cRoomFor hu0 ?_))
  refine wpAny_bind ((looks_news N hm).here (wpAny_bind (I.type.here ?_)))
  rw [if_pos (show (Value.type "tuple" != Value.ref C) = true from rfl)]
  refine wpAny_bind ((looks_subIn X hn).here ?_)
  simp only [Bool.false_eq_true, if_false]
  refine wpAny_bind (wpAny_tryCompare_declines hT PyProof.Rows.slot_tuple_eq (wpAny_call_entry PyProof.Rows.slot_tuple_eq hT PyProof.Rows.entry_tuple_eq ?_ (PyProof.Rows.args_tuple_eq _ _)))
  unfold Builtin.«tuple.__eq__»
  show wpAny _ A.in1 (isInstance (.ref x) (.type "tuple") >>= _) _ _ _
  unfold isInstance
  refine wpAny_bind (wpAny_bind (I.type.here ((looks_subIn X hn).here ?_)))
  try simp only [Bool.not_false, if_true]
  refine wpAny_pure ⟨_, rfl, rfl, ?_⟩
  show wpAny _ _ (tryCompare (Value.ref x) _ (Value.ref D) >>= _) _ _ _
  unfold tryCompare
  refine wpAny_bind (wpAny_bind (ifBound_K X I hs hf (wpAny_mono h (fun v s' hv => ?_) fun _ _ e => e)))
  cases v <;> first | exact hv.elim | exact wpAny_pure (wpAny_pure hv)
theorem isObject {M : Model} (X : K.In s.heap) (I : W.InstAt s.heap x ox C od) (hm : mroIn K C (.type "object") = some true) : Looks M s.heap (isInstance (.ref x) (.type "object")) true := I.type.andThen (looks_mroIn X hm)
theorem ne_own {its : Array Value} {n : Nat} (hu : A.in1.units < cLine) (F : Fr h₀ L s.heap m) (X₀ : K.In h₀) (I : W.InstAt s.heap x ox C od) (N : News h₀ L s.heap news) (hm : (D, ({ cls := .type "tuple", data := .seq its n } : Obj)) ∈ news)
    (hn : subIn K (.type "tuple") (.ref C) = some false) (hs : findIn K (.ref C) "__ne__" = some (some (.builtin "object.__ne__"))) (hs2 : findIn K (.ref C) "__eq__" = some (some (.ref f))) (hf : isFn K (.ref f) = true) (hmo : mroIn K C (.type "object") = some true)
    (h : wpAny (model prog w) A.in1 (PySem.call (.ref f) [.ref x, .ref D]) (fun v s' => ∃ b, v = .bool b ∧ Q (.bool !b) s') E s) : wpAny (model prog w) A (richCompare .NotEq (.ref x) (.ref D)) Q E s := by
  have X := X₀.keeps F.keep
  have hu0 : A.units < cLine := Nat.lt_of_succ_lt hu
  unfold richCompare
  simp only [oneThing_ref]
  refine wpAny_holding (wpAny_bind (wpAny_cRoomFor hu0 ?_))
  refine wpAny_bind (I.type.here (wpAny_bind ((looks_news N hm).here ?_)))
  rw [if_pos (show (Value.ref C != Value.type "tuple") = true from rfl)]
  refine wpAny_bind ((looks_subIn X hn).here ?_)
  simp only [Bool.false_eq_true, if_false]
  have inner : wpAny (model prog w) A (PySem.call (.builtin "object.__ne__") [.ref x, .ref D]) (fun v s' => ∃ b, v = .bool b ∧ Q v s') E s := by
    refine wpAny_call (codeAny_call_builtin PySem.F.slot_object_ne.plain PySem.F.entry_object_ne (@check_slot (model prog w) _ _ s "object.__ne__" "object" "__ne__" (.ref x) [.ref D] [] _ (by decide +kernel) (by decide +kernel) (isObject X I hmo) (PySem.F.args_object_ne_2 _ _) ?_))
    unfold Builtin.«object.__ne__»
    show wpAny _ A.in1 (cRoomFor "comparison" [.ref x, .ref D] >>= _) _ _ _
    refine wpAny_bind (wpAny_cRoomFor hu ?_)
    refine wpAny_bind (ifBound_K X I hs2 hf (wpAny_mono h (fun v s' hv => ?_) fun _ _ e => e))
    obtain ⟨b, rfl, hq⟩ := hv
    show wpAny _ A.in1 (truthy (.bool b) >>= _) _ _ _
    refine wpAny_bind (wpAny_truthy_bool ?_)
    exact wpAny_pure ⟨_, rfl, hq⟩
  have bnd : bindSpecial (.builtin "object.__ne__") (.ref x) = pure (.builtin "object.__ne__", [.ref x]) := PySem.F.slot_object_ne.bind _
  have fin : wpAny (model prog w) A (PySem.call (.builtin "object.__ne__") ([.ref x] ++ [.ref D]) >>= fun v => pure (some v)) (fun r s' => ∃ b, r = some (.bool b) ∧ Q (.bool b) s') E s :=
    wpAny_bind (wpAny_mono inner (fun v s' hv => wpAny_pure (by obtain ⟨b, rfl, q⟩ := hv; exact ⟨b, rfl, q⟩)) fun _ _ e => e)
  have one : wpAny (model prog w) A (callSpecialIfBound? (.ref x) (cmpInfo CmpOp.NotEq).2.1 [.ref D]) (fun r s' => ∃ b, r = some (.bool b) ∧ Q (.bool b) s') E s := by
    simp only [callSpecialIfBound?, bindSpecialIfBound?]
    refine wpAny_holding (wpAny_bind (wpAny_bind (wpAny_bind (I.type.here ((looks_findIn X hs).here ?_)))))
    simp only [bnd]
    refine wpAny_bind (wpAny_askSetting (wpAny_ite ?_))
    split
    · exact wpAny_bind (wpAny_pure (wpAny_pure fin))
    · exact wpAny_tryCatch (wpAny_bind (wpAny_pure (wpAny_pure fin)))
  unfold tryCompare
  refine wpAny_bind (wpAny_bind (wpAny_mono one (fun r s' hr => ?_) fun _ _ e => e))
  obtain ⟨b, rfl, hq⟩ := hr
  exact wpAny_pure (wpAny_pure hq)
end
section
variable {w : World} {A : Around} {E : Value → Shared → Prop} {s : Shared} {Q : Value → Shared → Prop}
theorem eq_int_same {c : Int} {t t2 : Tok} (h : Q (.bool true) s) : wpAny (model prog w) A (compareOp .Eq (.int c t) (.int c t2)) Q E s := PyProof.Rows.eq_int (by rw [beq_self_eq_true]; exact h)
theorem ne_int_same {c : Int} {t t2 : Tok} (h : Q (.bool false) s) : wpAny (model prog w) A (compareOp .NotEq (.int c t) (.int c t2)) Q E s := PyProof.Rows.ne_int (by rw [bne_self_eq_false]; exact h)
theorem eq_str_same {c : PySem.Str} {t t2 : Tok} (h : Q (.bool true) s) : wpAny (model prog w) A (compareOp .Eq (.str c t) (.str c t2)) Q E s := PyProof.Rows.eq_str (by rw [beq_self_eq_true]; exact h)
theorem ne_str_same {c : PySem.Str} {t t2 : Tok} (h : Q (.bool false) s) : wpAny (model prog w) A (compareOp .NotEq (.str c t) (.str c t2)) Q E s := PyProof.Rows.ne_str (by rw [bne_self_eq_false]; exact h)
end
theorem cw0 {w : World} {A : Around} {E : Value → Shared → Prop} {s : Shared} {L : Addr} {h₀ : Heap} {m : PySem.Str → Option Value} {Q : Value → Shared → Prop} {pos : Pos} {f : Value} {first : List Value} {env : Env}
   (F : Fr h₀ L s.heap m) (X : (hd.heap_39 w.params).In h₀) (hk : keepIn (hd.heap_39 w.params) f = true) (h : wpAny (model prog w) A (PySem.call f (first ++ [])) Q E s) : wpAny (model prog w) A (callWith pos f first (backTo pos (starEach [] env)) []) Q E s :=
  callWith_K0 (X.keeps F.keep) hk h
theorem execs_tk {M : Model} {A : Around} {E : Value → Shared → Prop} {st : Stmt} {rest : List Stmt} {env : Env} {Q : Flow → Shared → Prop} {hp : Heap} {g : Array GenState} {d : Drawn} {X : Nat} {os : OsState}
   (h : ∀ tk, wpAny M A (execs (st :: rest) env) Q E ⟨hp, g, d, tk, os⟩) : wpAny M A (execs (st :: rest) env) Q E ⟨hp, g, d, X, os⟩ := h X
theorem eq_int_tt {w : World} {A : Around} {E : Value → Shared → Prop} {s : Shared} {Q : Value → Shared → Prop} {a b : Int} {t t2 : Tok} (hr : (a == b) = true) (h : Q (.bool true) s) : wpAny (model prog w) A (compareOp .Eq (.int a t) (.int b t2)) Q E s := PyProof.Rows.eq_int (by rw [hr]; exact h)
theorem ne_str_eq {w : World} {A : Around} {E : Value → Shared → Prop} {s : Shared} {Q : Value → Shared → Prop} {a b : PySem.Str} {t t2 : Tok} (hr : a = b) (h : Q (.bool false) s) : wpAny (model prog w) A (compareOp .NotEq (.str a t) (.str b t2)) Q E s := by
  subst hr; exact ne_str_same h
theorem news_sub {h₀ h : Heap} {L : Addr} {big small : List (Addr × Obj)} (N : News h₀ L h big) (hs : ∀ p ∈ small, p ∈ big) : News h₀ L h small := fun p hp => N p (hs p hp)
theorem item_made {w : World} {A : Around} {E : Value → Shared → Prop} {s : Shared} {L l : Addr} {h₀ : Heap} {news : List (Addr × Obj)} {Q : Value → Shared → Prop} {value slice : PySem.Expr} {vs : List Value} {n : Nat} {k : Int} {u : Tok} {v : Value}
    (N : News h₀ L s.heap news) (hm : (l, ({ cls := .type "list", data := .seq vs.toArray n } : Obj)) ∈ news) (h0 : 0 ≤ k) (hhi : k < 2 ^ 63) (hx : vs[k.toNat]? = some v) (h : Q v s)
    (hs : subscripted slice false (.ref l) (.int k u) = operate [.ref l, .int k u] (getItem (.ref l) (.int k u)) := by with_unfolding_all rfl) :
    wpAny (model prog w) A (subscriptTail value slice (.ref l) (.int k u)) Q E s := by
  have hl : s.heap.IsList l vs.toArray := ⟨_, N.get hm, rfl, _, rfl⟩
  exact tail_any hl.typeIs slot_list_getitem.lookup (wpAny_getItem_list hl h0 hhi (by simpa using hx) h) hs
theorem shaped2 {c : Int} {v : PySem.Str} (h : PyData.strOk v = true) : SeqAt.shaped (.tuple [.int c, .str v]) = true := by
  simp [SeqAt.shaped, PyData.canLay0, PyData.canLayAll0, PyData.depth, PyData.depthAll, h]
theorem shapedL {c : Int} {v : PySem.Str} (h : PyData.strOk v = true) : SeqAt.shaped (.list [.int c, .str v]) = true := by
  simp [SeqAt.shaped, PyData.canLay0, PyData.canLayAll0, PyData.depth, PyData.depthAll, h]
section
variable {w : World} {A : Around} {E : Value → Shared → Prop} {s : Shared} {L a b : Addr} {h₀ : Heap} {news : List (Addr × Obj)} {Q : Value → Shared → Prop} {c1 c2 : Int} {v1 v2 : PySem.Str} {t1 t2 t3 t4 : Tok} {n1 n2 : Nat} {r : Bool}
theorem eqv2 (hr : (c1 == c2 && v1 == v2) = r) : PyData.eqv (.tuple [.int c1, .str v1]) (.tuple [.int c2, .str v2]) = r := by
  simp only [PyData.eqv, PyData.eqvAll, Bool.and_true]; exact hr
theorem eqvL (hr : (c1 == c2 && v1 == v2) = r) : PyData.eqv (.list [.int c1, .str v1]) (.list [.int c2, .str v2]) = r := by
  simp only [PyData.eqv, PyData.eqvAll, Bool.and_true]; exact hr
theorem eq_tup2 (N : News h₀ L s.heap news) (h1 : (a, ({ cls := .type "tuple", data := .seq [.int c1 t1, .str v1 t2].toArray n1 } : Obj)) ∈ news) (h2 : (b, ({ cls := .type "tuple", data := .seq [.int c2 t3, .str v2 t4].toArray n2 } : Obj)) ∈ news)
    (s1 : PyData.strOk v1 = true) (s2 : PyData.strOk v2 = true) (hu : A.units + 64 < cLine) (hr : (c1 == c2 && v1 == v2) = r) (h : Q (.bool r) s) : wpAny (model prog w) A (compareOp .Eq (.ref a) (.ref b)) Q E s := by
  refine eq_dataH (reads_tuple_at (N.get h1) rfl rfl (ReadsAll.cons (Reads.int _ _) (ReadsAll.cons (Reads.str _ _) ReadsAll.nil))) (reads_tuple_at (N.get h2) rfl rfl (ReadsAll.cons (Reads.int _ _) (ReadsAll.cons (Reads.str _ _) ReadsAll.nil))) (shaped2 s1) (shaped2 s2) hu ?_
  rw [eqv2 hr]; exact h
theorem ne_list2 (N : News h₀ L s.heap news) (h1 : (a, ({ cls := .type "list", data := .seq [.int c1 t1, .str v1 t2].toArray n1 } : Obj)) ∈ news) (h2 : (b, ({ cls := .type "list", data := .seq [.int c2 t3, .str v2 t4].toArray n2 } : Obj)) ∈ news)
    (s1 : PyData.strOk v1 = true) (s2 : PyData.strOk v2 = true) (hu : A.units + 64 < cLine) (hr : (c1 == c2 && v1 == v2) = r) (h : Q (.bool !r) s) : wpAny (model prog w) A (compareOp .NotEq (.ref a) (.ref b)) Q E s := by
  refine ne_dataH (reads_list_at (N.get h1) rfl rfl (ReadsAll.cons (Reads.int _ _) (ReadsAll.cons (Reads.str _ _) ReadsAll.nil))) (reads_list_at (N.get h2) rfl rfl (ReadsAll.cons (Reads.int _ _) (ReadsAll.cons (Reads.str _ _) ReadsAll.nil))) (shapedL s1) (shapedL s2) hu ?_
  rw [eqvL hr]; exact h
end
theorem and_tt {c : Int} {v : PySem.Str} : (c == c && v == v) = true := by rw [beq_self_eq_true, beq_self_eq_true]; rfl
theorem and_cf {c c' : Int} {v v' : PySem.Str} (h : (c == c') = false) : (c == c' && v == v') = false := by rw [h]; rfl
theorem and_vf {c c' : Int} {v v' : PySem.Str} (h : (v == v') = false) : (c == c' && v == v') = false := by rw [h, Bool.and_false]
theorem int_succ (c : Int) : (c == c + 1) = false := by
  rw [beq_eq_false_iff_ne]; omega
theorem int_succ' (c : Int) : (c + 1 == c) = false := by
  rw [beq_eq_false_iff_ne]; omega
section
variable {w : World} {A : Around} {E : Value → Shared → Prop} {s : Shared} {x dx L : Addr} {h₀ : Heap} {m : PySem.Str → Option Value} {news : List (Addr × Obj)} {Q : Value → Shared → Prop} {c : Int} {v : PySem.Str} {t1 t2 : Tok}
theorem fresh_news {h : Heap} {a : Addr} (F : Fr h₀ L h m) (n : ∀ o, h.get? a ≠ some o) : a ≠ L ∧ h₀.get? a = none := by
  obtain ⟨oL, _, _, hoL, _⟩ := id F.ns
  refine ⟨fun z => n oL (by rw [z]; exact hoL), ?_⟩
  cases e : h₀.get? a with
  | none => rfl
  | some o => exact absurd (F.keep _ _ e) (n o)
theorem size_none {h : Heap} : ∀ o, h.get? h.objs.size ≠ some o := fun o e => Nat.lt_irrefl _ (Heap.lt_size e)
theorem list_tagK (r : Room A 4 20) (F : Fr h₀ L s.heap m) (X : (hd.heap_39 w.params).In h₀) (hl : h₀.NoLimit) (N : News h₀ L s.heap news) (hm : (x, tagObj dx c t1 v t2) ∈ news) (hdm : (dx, dictOf [] 0) ∈ news) (G : AllBare s.gens)
   (h : ∀ l n h' tk gs, Fr h₀ L h' m → News h₀ L h' ((l, ({ cls := .type "list", data := .seq [.int c t1, .str v t2].toArray n } : Obj)) :: news) → (∀ p ∈ news, p.1 < l) → AllBare gs → Q (.ref l) { s with heap := h', toks := tk, gens := gs }) :
   wpAny (model prog w) A (PySem.call (.type "list") [.ref x]) Q E s :=
  list_tag r F X hl (N.get hm) (N.get hdm) fun h' tk gs n k e b => h _ n h' tk gs (F.keeps k) (fun p hp => by
    rcases List.mem_cons.mp hp with rfl | hp
    · exact ⟨e, fresh_news F size_none⟩
    · exact ⟨k _ _ (N p hp).1, (N p hp).2⟩) (fun p hp => Heap.lt_size (N p hp).1) (b G)
theorem tuple_tagK (r : Room A 4 26) (F : Fr h₀ L s.heap m) (X : (hd.heap_39 w.params).In h₀) (hl : h₀.NoLimit) (N : News h₀ L s.heap news) (hm : (x, tagObj dx c t1 v t2) ∈ news) (hdm : (dx, dictOf [] 0) ∈ news) (G : AllBare s.gens)
   (h : ∀ l h' tk gs, Fr h₀ L h' m → News h₀ L h' ((l, ({ cls := .type "tuple", data := .seq [.int c t1, .str v t2].toArray } : Obj)) :: news) → (∀ p ∈ news, p.1 < l) → AllBare gs → Q (.ref l) { s with heap := h', toks := tk, gens := gs }) :
   wpAny (model prog w) A (PySem.call (.type "tuple") [.ref x]) Q E s :=
  tuple_tag r F X hl (N.get hm) (N.get hdm) fun h' tk gs T k e lt b => h T h' tk gs (F.keeps k) (fun p hp => by
    rcases List.mem_cons.mp hp with rfl | hp
    · exact ⟨e, fresh_news F fun o e => Nat.lt_irrefl _ (lt _ _ e)⟩
    · exact ⟨k _ _ (N p hp).1, (N p hp).2⟩) (fun p hp => lt _ _ (N p hp).1) (b G)
theorem unpack_tagK {elts : List PySem.Expr} {k : Nat} {pos : Pos} {env : Env} {Q : Unit → Shared → Prop} (r : Room A 4 20) (F : Fr h₀ L s.heap m) (X : (hd.heap_39 w.params).In h₀) (hl : h₀.NoLimit) (N : News h₀ L s.heap news) (hm : (x, tagObj dx c t1 v t2) ∈ news) (hdm : (dx, dictOf [] 0) ∈ news) (G : AllBare s.gens)
   (hn : (assignEach elts env).length = 2) (hstar : (assignEach elts env).findIdx? (·.1) = none)
   (h : ∀ h' tk gs, Fr h₀ L h' m → News h₀ L h' news → AllBare gs → wpAny (model prog w) A (assignInOrder ((assignEach elts env).map (·.2)) [.int c t1, .str v t2]) Q E { s with heap := h', toks := tk, gens := gs }) :
   wpAny (model prog w) A (assign (.Tuple elts k pos) env (.ref x)) Q E s :=
  unpack_tag r F X hl (N.get hm) (N.get hdm) hn hstar fun h' tk gs k b => h h' tk gs (F.keeps k) (N.grown k) (b G)
theorem prop_codeK {e : Bool} (r : Room A 1 4) (F : Fr h₀ L s.heap m) (X : (hd.heap_39 w.params).In h₀) (hl : h₀.NoLimit) (N : News h₀ L s.heap news) (hm : (x, tagObj dx c t1 v t2) ∈ news) (hdm : (dx, dictOf [] 0) ∈ news)
    (h : ∀ h' tk, Fr h₀ L h' m → News h₀ L h' news → Q (.int c t1) { s with heap := h', toks := tk }) : wpAny (model prog w) A (getAttr (.ref x) (PySem.Str.ofString "code") e) Q E s :=
  prop_code r F X hl (N.get hm) (N.get hdm) fun h' tk k => h h' tk (F.keeps k) (N.grown k)
theorem prop_valueK {e : Bool} (r : Room A 1 4) (F : Fr h₀ L s.heap m) (X : (hd.heap_39 w.params).In h₀) (hl : h₀.NoLimit) (N : News h₀ L s.heap news) (hm : (x, tagObj dx c t1 v t2) ∈ news) (hdm : (dx, dictOf [] 0) ∈ news)
    (h : ∀ h' tk, Fr h₀ L h' m → News h₀ L h' news → Q (.str v t2) { s with heap := h', toks := tk }) : wpAny (model prog w) A (getAttr (.ref x) (PySem.Str.ofString "value") e) Q E s :=
  prop_value r F X hl (N.get hm) (N.get hdm) fun h' tk k => h h' tk (F.keeps k) (N.grown k)
end
end Mine
end -- W0

section -- X7
open PySem PySem.W PySem.W.X PySem.W.XRun PyProof.Rows
namespace Mine
abbrev tagsObj (d : Addr) (items : Array Value) (n : Nat) : Obj := ⟨.ref 425, some d, .seq items n, #[]⟩
structure NewTags (s : Shared) (items : List Value) (r : Value) (s' : Shared) : Prop where
  at_ : ∃ t d n, r = .ref t ∧ s'.heap.get? t = some (tagsObj d items.toArray n) ∧ s'.heap.get? d = some (dictOf [] 0) ∧ s.heap.get? t = none ∧ s.heap.get? d = none
  pure : Pure s s'
theorem NewTags.of_mem {h h' : Heap} {g d t t' os} {l dd : Addr} {n : Nat} {items : List Value} (D : Mem h h' [] [(l, tagsObj dd items.toArray n), (dd, dictOf [] 0)]) : NewTags ⟨h, g, d, t, os⟩ items (.ref l) ⟨h', g, d, t', os⟩ :=
  ⟨⟨l, dd, n, rfl, (D.nw _ (.head _)).1, (D.nw _ (.tail _ (.head _))).1, (D.nw _ (.head _)).2, (D.nw _ (.tail _ (.head _))).2⟩, Pure.of_mem D⟩
section
variable (w : World) (h : Heap) (g : Array GenState) (d : Drawn) (tk : Nat) (os : OsState) (K : (hd.heap_39 w.params).In h) (l x y t dt dx : Addr) (n : Nat) (code : Int) (v : PySem.Str) (t1 t2 : Tok)
include K
section
local macro_rules | `(tactic| x_close) => `(tactic| (exact NewTags.of_mem (by assumption)))
theorem c425 (hl : h.get? l = some (⟨.type "list", none, .seq #[.ref x] n, #[]⟩)) : wpAny (model prog w) AX (call (.ref 425) [.ref l]) (fun v s' => NewTags ⟨h, g, d, tk, os⟩ [.ref x] v s') (fun _ _ => False) ⟨h, g, d, tk, os⟩ := by
  x_run
theorem c425b (hl : h.get? l = some (⟨.type "list", none, .seq #[.ref x, .ref y] n, #[]⟩)) : wpAny (model prog w) AX (call (.ref 425) [.ref l]) (fun v s' => NewTags ⟨h, g, d, tk, os⟩ [.ref x, .ref y] v s') (fun _ _ => False) ⟨h, g, d, tk, os⟩ := by
  x_run
end
end
end Mine
end -- X7

section -- J0
open PySem PySem.W PyProof.Rows PySem.Calls
open PySem.W.X (SegX wake_any SegX.mono)
namespace Mine
def TagsAt (h : Heap) (t : Addr) (items : Array Value) : Prop := ∃ d n, h.get? t = some (tagsObj d items n) ∧ h.get? d = some (dictOf [] 0)
theorem TagsAt.at {h h' : Heap} {t : Addr} {items : Array Value} (x : TagsAt h t items) (k : Ext h h') : TagsAt h' t items := let ⟨d, n, e1, e2⟩ := x; ⟨d, n, k _ _ e1, k _ _ e2⟩
section
variable {w : World} {A : Around} {E : Value → Shared → Prop} {s : Shared} {L t I : Addr} {h₀ : Heap} {m : PySem.Str → Option Value} {items : Array Value} {i : Nat}
theorem tags_inst {h : Heap} {d : Addr} {n : Nat} (e1 : h.get? t = some (tagsObj d items n)) (e2 : h.get? d = some (dictOf [] 0)) : W.InstAt h t (tagsObj d items n) 425 (some (dictOf [] 0)) := ⟨e1, rfl, rfl, e2⟩
theorem iter_tags {Q : Value → Shared → Prop} (X : (hd.heap_39 w.params).In s.heap) (T : TagsAt s.heap t items)
    (h : Q (.ref s.heap.objs.size) { s with heap := s.heap.push { cls := .type "list_iterator", data := .fields #[.ref t, .int 0 0] } }) : wpAny (model prog w) A (pyIter (.ref t)) Q E s := by
  obtain ⟨d, n, e1, e2⟩ := T
  have I := tags_inst e1 e2
  have bnd : bindSpecial (.builtin "list.__iter__") (.ref t) = pure (.builtin "list.__iter__", [.ref t]) := slot_list_iter.bind _
  have inner : wpAny (model prog w) A (PySem.call (.builtin "list.__iter__") [.ref t]) (fun v s' => v = .ref s.heap.objs.size ∧ s' = { s with heap := s.heap.push { cls := .type "list_iterator", data := .fields #[.ref t, .int 0 0] } }) E s := by
    refine wpAny_call (codeAny_call_builtin slot_list_iter.plain entry_list_iter (@check_slot (model prog w) _ _ s "list.__iter__" "list" "__iter__" (.ref t) [] [] _ (by decide +kernel) (by decide +kernel) (I.type.andThen (looks_mroIn X (by k_is))) (args_list_iter _) ?_))
    show wpAny _ _ (do ret (← newFields "list_iterator" [.ref t, rawInt 0])) _ _ s
    exact wpAny_bind (wpAny_newObj_type (wpAny_pure ⟨rfl, rfl⟩))
  have fin : wpAny (model prog w) A (PySem.call (.builtin "list.__iter__") [.ref t] >>= fun v => pure (some v)) (fun r s' => r = some (.ref s.heap.objs.size) ∧ s' = { s with heap := s.heap.push { cls := .type "list_iterator", data := .fields #[.ref t, .int 0 0] } }) E s :=
    wpAny_bind (wpAny_mono inner (fun v s' h' => wpAny_pure ⟨by rw [h'.1], h'.2⟩) fun _ _ z => z)
  have one : ∀ refuse : Sem Value, wpAny (model prog w) A (callSpecialIfBoundUnlessNone? (.ref t) "__iter__" refuse) (fun r s' => r = some (.ref s.heap.objs.size) ∧ s' = { s with heap := s.heap.push { cls := .type "list_iterator", data := .fields #[.ref t, .int 0 0] } }) E s := by
    intro refuse
    simp only [callSpecialIfBoundUnlessNone?, bindSpecialIfBound?]
    refine wpAny_holding (wpAny_bind (wpAny_bind (wpAny_bind (I.type.here ((looks_findIn X (r := some (.builtin "list.__iter__")) (by k_is)).here ?_)))))
    simp only [bnd]
    refine wpAny_bind (wpAny_askSetting (wpAny_ite ?_))
    have fin2 : wpAny (model prog w) A (if (Value.builtin "list.__iter__" == Value.none) = true then (refuse >>= fun v => pure (some v)) else (PySem.call (.builtin "list.__iter__") [.ref t] >>= fun v => pure (some v))) (fun r s' => r = some (.ref s.heap.objs.size) ∧ s' = { s with heap := s.heap.push { cls := .type "list_iterator", data := .fields #[.ref t, .int 0 0] } }) E s := by
      rw [if_neg (show ¬ ((Value.builtin "list.__iter__" == Value.none) = true) from Bool.false_ne_true)]
      exact fin
    split
    · exact wpAny_bind (wpAny_pure (wpAny_pure (by exact fin2)))
    · exact wpAny_tryCatch (wpAny_bind (wpAny_pure (wpAny_pure (by exact fin2))))
  unfold pyIter
  refine wpAny_bind (wpAny_bind (I.type.here ((looks_findIn X (r := some (.builtin "list.__iter__")) (by k_is)).here ?_)))
  show wpAny _ A (callSpecialIfBoundUnlessNone? (.ref t) "__iter__" _ >>= _) Q E s
  refine wpAny_bind (wpAny_mono (one _) (fun r s' hr => ?_) fun _ _ z => z)
  obtain ⟨rfl, rfl⟩ := hr
  exact wpAny_bind (wpAny_specialOf (T := "list_iterator") ⟨_, Heap.get?_push_size _ rfl, rfl⟩ slot_listiter_next.lookup (wpAny_pure h))
theorem next_tags_item {x : Value} {Q : Option Value → Shared → Prop} (hit : s.heap.IsListIter I t i) (T : TagsAt s.heap t items) (hx : items[i]? = some x)
    (hQ : ∀ h', h'.IsListIter I t (i + 1) → Heap.SameBut I s.heap h' → Q (some x) { s with heap := h' }) : wpAny (model prog w) A (pyNext (.ref I)) Q E s := by
  obtain ⟨o, ho, hc, hd⟩ := id hit
  obtain ⟨d, n, hol, _⟩ := T
  unfold pyNext
  refine wpAny_bind (wpAny_attempt (wpAny_callSpecial?_slot (name := PySem.Str.ofString "__next__") hit.typeIs slot_listiter_next
    (wpAny_call_entry slot_listiter_next hit.typeIs entry_listiter_next ?_ (args_listiter_next _))))
  show wpAny _ _ (field (.ref I) 0 >>= _) _ _ s
  refine wpAny_bind (wpAny_field ho hd (x := .ref t) rfl ?_)
  show wpAny _ _ (if (Value.ref t == Value.none) = true then _ else _) _ _ s
  rw [if_neg (show ¬ ((Value.ref t == Value.none) = true) from Bool.false_ne_true)]
  show wpAny _ _ (field (.ref I) 1 >>= _) _ _ s
  refine wpAny_bind (wpAny_field ho hd (x := .int i 0) rfl ?_)
  show wpAny _ _ (seqItems? (.ref t) >>= _) _ _ s
  refine wpAny_bind (wpAny_seqItems hol rfl ?_)
  simp only [Int.toNat_natCast, hx]
  refine wpAny_bind (wpAny_setField ho hd (by simp) (wpAny_pure ⟨x, rfl, wpAny_pure (hQ _ ?_ (Heap.SameBut.update ..))⟩))
  exact ⟨_, Heap.get?_update_self _ ho (Obj.isFreed_of_fields (Obj.data_mapFields hd _)), (Obj.cls_mapFields ..).trans hc, by
    rw [Obj.data_mapFields hd]; simp [rawInt]⟩
theorem next_tags_end {Q : Option Value → Shared → Prop} (hh : A.handled = none) (hit : s.heap.IsListIter I t i) (T : TagsAt s.heap t items) (hx : items[i]? = none)
    (hQ : ∀ h', Heap.ExtBut I s.heap h' → Q none { s with heap := h' }) : wpAny (model prog w) A (pyNext (.ref I)) Q E s := by
  obtain ⟨o, ho, hc, hd⟩ := id hit
  obtain ⟨d, n, hol, _⟩ := T
  unfold pyNext
  refine wpAny_bind (wpAny_attempt (wpAny_callSpecial?_slot (name := PySem.Str.ofString "__next__") hit.typeIs slot_listiter_next
    (wpAny_call_entry slot_listiter_next hit.typeIs entry_listiter_next ?_ (args_listiter_next _))))
  show wpAny _ _ (field (.ref I) 0 >>= _) _ _ s
  refine wpAny_bind (wpAny_field ho hd (x := .ref t) rfl ?_)
  show wpAny _ _ (if (Value.ref t == Value.none) = true then _ else _) _ _ s
  rw [if_neg (show ¬ ((Value.ref t == Value.none) = true) from Bool.false_ne_true)]
  show wpAny _ _ (field (.ref I) 1 >>= _) _ _ s
  refine wpAny_bind (wpAny_field ho hd (x := .int i 0) rfl ?_)
  show wpAny _ _ (seqItems? (.ref t) >>= _) _ _ s
  refine wpAny_bind (wpAny_seqItems hol rfl ?_)
  simp only [Int.toNat_natCast, hx]
  refine wpAny_bind (wpAny_rule (wpAny_bind (wpAny_setField ho hd (by simp) ?_)))
  show wpAny _ _ (newExc (.type "StopIteration") [] >>= _) _ _ _
  refine wpAny_bind ?_
  simp only [newExc, newTuple]
  refine wpAny_bind (wpAny_newObj_type ?_ (by size_fits))
  refine wpAny_bind (m := firstArgMember _ _) (wpAny_of_eq (a := Value.none) (by first | rfl | (simp only [firstArgMember]; rfl)) ?_)
  refine wpAny_newObj_type ?_ (by size_fits)
  simp only [raiseNew]
  refine wpAny_bind (wpAny_handled ?_)
  rw [show A.in1.handled = none from hh]
  refine wpAny_bind (wpAny_pure (wpAny_throw ?_))
  refine wpAny_bind (wpAny_isInstance (T := "StopIteration") (b := true) ⟨_, Heap.get?_push_size _ rfl, rfl⟩ isSubtype_stop ?_)
  exact wpAny_pure (hQ _ (((Heap.SameBut.update ..).extBut.push _).push _))
end
end Mine
end -- J0

section -- J1
open PySem PySem.W PyProof.Rows PySem.Calls
namespace Mine
abbrev ptsL : List Int := [10, 11, 12, 13, 14, 15, 16, 17, 18, 110, 111, 112, 210, 211, 212, 213, 1010, 1011, 1012, 1013]
abbrev xdL : List Int := [1000, 1001, 1002, 1003, 1004, 1005, 1010, 1011, 1012, 1013, 1040, 1041, 1042, 1070, 1071]
theorem elems_all {prog : Program} {w : World} {es : List (Int × Value)} (h : es.all (fun e => match e.2 with | .int k _ => e.1 == hashInt k | _ => false) = true) : ElemsOf (intKind prog w) es := by
  intro e he
  have := List.all_eq_true.mp h e he
  obtain ⟨a, b⟩ := e
  cases b <;> simp at this
  rename_i k t
  exact ⟨⟨k, intKind_is prog w k t, this⟩, rfl⟩
theorem members {prog : Program} {w : World} {es : List (Int × Value)} {l : List Int} (h : es.all (fun e => match e.2 with | .int k _ => l.contains k | _ => false) = true) (h' : l.all (fun k => es.any (fun e => match e.2 with | .int j _ => j == k | _ => false)) = true) :
    ∀ k, decide (k ∈ l) = true ↔ ∃ e ∈ es, (intKind prog w).is k e.2 = true := by
  intro k
  rw [decide_eq_true_eq]
  constructor
  · intro hk
    have := List.all_eq_true.mp h' k hk
    obtain ⟨e, he, hm⟩ := List.any_eq_true.mp this
    refine ⟨e, he, ?_⟩
    obtain ⟨a, b⟩ := e
    cases b <;> simp at hm
    rename_i j t
    subst hm
    exact intKind_is prog w _ t
  · rintro ⟨e, he, hi⟩
    have := List.all_eq_true.mp h e he
    obtain ⟨a, b⟩ := e
    cases b <;> simp at this
    rename_i j t
    have e : j = k := by
      have : Value.isInt k (.int j t) = true := hi
      simpa [Value.isInt] using this
    exact e ▸ this
section
variable {w : World} {A : Around} {E : Value → Shared → Prop} {s : Shared} {L : Addr} {h₀ : Heap} {m : PySem.Str → Option Value} {c : Int} {t : Tok} {Q : Value → Shared → Prop}
theorem in22 (F : Fr h₀ L s.heap m) (X : (hd.heap_39 w.params).In h₀) (h : Q (.bool (decide (c ∈ ptsL))) { s with toks := s.toks + 1 }) : wpAny (model prog w) A (compareOp .In (.int c t) (.ref 22)) Q E s := by
  exact in_argsetI (S := fun c => decide (c ∈ ptsL)) (n := 20) F (by exact ⟨⟨rfl, rfl, rfl⟩, _, _, _, rfl, elems_all (by decide +kernel), members (by decide +kernel) (by decide +kernel), rfl, rfl⟩) (X 22 _ rfl) (by decide) h
theorem in23 (F : Fr h₀ L s.heap m) (X : (hd.heap_39 w.params).In h₀) (h : Q (.bool (decide (c ∈ xdL))) { s with toks := s.toks + 1 }) : wpAny (model prog w) A (compareOp .In (.int c t) (.ref 23)) Q E s := by
  exact in_argsetI (S := fun c => decide (c ∈ xdL)) (n := 15) F (by exact ⟨⟨rfl, rfl, rfl⟩, _, _, _, rfl, elems_all (by decide +kernel), members (by decide +kernel) (by decide +kernel), rfl, rfl⟩) (X 23 _ rfl) (by decide) h
end
end Mine
end -- J1

section -- J2
open PySem PySem.W PyProof.Rows PySem.Calls
open PySem.W.X (SegX wake_any SegX.mono)
namespace Mine
section
variable {prog : Program} {w : World} {A : Around} {E : Value → Shared → Prop} {s : Shared} {Qy : Value → GenState → Shared → Prop} {Qr : Shared → Prop} {P : End → Shared → Prop}
variable {elt iter test : PySem.Expr} {x : PySem.Str} {px pos : Pos} {scope : Scope} {cenv : Env} {I l : Addr} {i : Nat}
abbrev ge (elt : PySem.Expr) (x : PySem.Str) (px : Pos) (iter : PySem.Expr) (ifs : List PySem.Expr) (scope : Scope) (pos : Pos) : PySem.Expr := .GeneratorExp elt [⟨.Name x px, iter, ifs, 0⟩] scope pos
theorem sx_genStart {ifs : List PySem.Expr} (hit : s.heap.IsListIter I l i)
    (h : SegX (model prog w) A (.compLoop (ge elt x px iter ifs scope pos) 0 (.ref I) .none cenv) ((model prog w).den (.compLoop (ge elt x px iter ifs scope pos) 0 (.ref I) .none cenv)) [] s P) :
    SegX (model prog w) A (.compStart (ge elt x px iter ifs scope pos) 0 (.ref I) .none cenv) ((model prog w).den (.compStart (ge elt x px iter ifs scope pos) 0 (.ref I) .none cenv)) [] s P := by
  show SegX _ A _ ((compStart (ge elt x px iter ifs scope pos) 0 (.ref I) .none cenv).onRaise (leaving cenv)) [] s P
  unfold compStart
  rw [Sem.onRaise_eq_wrap]
  show SegX _ A _ ((ask >>= _).wrap _ _ _ _) [] s P
  refine sx_bw (wpAny_askSetting ?_)
  split
  · exact sx_again rfl h
  · first
      | exact sx_bw (wpAny_rule (sx_bw (wpAny_standAt (sx_bw (wpAny_pyIter_listiter hit (sx_again rfl h))))))
      | (refine sx_bw (wpAny_rule ?_); show SegX _ A _ ((standAt iter.pos >>= _).wrap _ _ _ _) [] s P; exact sx_bw (wpAny_standAt (sx_bw (wpAny_pyIter_listiter hit (sx_again rfl h)))))
theorem sx_genEnd {ifs : List PySem.Expr} (h : wpAny (model prog w) (A.over (.compLoop (ge elt x px iter ifs scope pos) 0 (.ref I) .none cenv) []) (pyNext (.ref I)) (fun r s₁ => r = none ∧ Qr s₁) (fun _ _ => False) s) :
    SegX (model prog w) A (.compLoop (ge elt x px iter ifs scope pos) 0 (.ref I) .none cenv) ((model prog w).den (.compLoop (ge elt x px iter ifs scope pos) 0 (.ref I) .none cenv)) [] s (endP Qy Qr) := by
  show SegX _ A _ ((compTurn (ge elt x px iter ifs scope pos) 0 (.ref I) .none cenv).onRaise (leaving cenv)) [] s _
  rw [compTurn_gen, Sem.onRaise_eq_wrap]
  refine sx_bw (wpAny_standAt (sx_bw (wpAny_mono h (fun r s₁ hr => ?_) fun _ _ z => z.elim)))
  obtain ⟨rfl, hq⟩ := hr
  exact sx_end (.ok .next) ⟨.inl rfl, hq⟩
theorem sx_genYield (hco : cenv.scope.isCoroutine = false)
    (h : wpAny (model prog w) (A.over (.compLoop (ge elt x px iter [] scope pos) 0 (.ref I) .none cenv) []) (pyNext (.ref I)) (fun r s₁ => ∃ v, r = some v ∧
      wpAny (model prog w) (A.over (.compLoop (ge elt x px iter [] scope pos) 0 (.ref I) .none cenv) []) (storeName cenv x v) (fun _ s₂ =>
        wpAny (model prog w) (A.over (.compLoop (ge elt x px iter [] scope pos) 0 (.ref I) .none cenv) []) (eval elt cenv) (fun y s₃ => ∀ gs', gs'.bare = true →
          (∀ A' s'' Qy' Qr', SegX (model prog w) A' (.compLoop (ge elt x px iter [] scope pos) 0 (.ref I) .none cenv) ((model prog w).den (.compLoop (ge elt x px iter [] scope pos) 0 (.ref I) .none cenv)) [] s'' (endP Qy' Qr') → Go (model prog w) A' gs' s'' (endP Qy' Qr')) → Qy y gs' s₃)
          (fun _ _ => False) s₂) (fun _ _ => False) s₁) (fun _ _ => False) s) :
    SegX (model prog w) A (.compLoop (ge elt x px iter [] scope pos) 0 (.ref I) .none cenv) ((model prog w).den (.compLoop (ge elt x px iter [] scope pos) 0 (.ref I) .none cenv)) [] s (endP Qy Qr) := by
  show SegX _ A _ ((compTurn (ge elt x px iter [] scope pos) 0 (.ref I) .none cenv).onRaise (leaving cenv)) [] s _
  rw [compTurn_gen, Sem.onRaise_eq_wrap]
  refine sx_bw (wpAny_standAt (sx_bw (wpAny_mono h (fun r s₁ hr => ?_) fun _ _ z => z.elim)))
  obtain ⟨v, rfl, h₁⟩ := hr
  refine sx_bw (wpAny_of_eq (rfl : letOwnedTupleGo (.Name x px) (.ref I) v = pure ()) ?_)
  refine sx_bw (wpAny_assign_Name (wpAny_mono h₁ (fun _ s₂ h₂ => ?_) fun _ _ z => z.elim))
  refine sx_bw (wpAny_pure ?_)
  simp only [if_true]
  have hy : ∀ v, yieldOut cenv v = yieldValue v := fun v => by simp only [yieldOut, hco, Bool.false_eq_true, if_false]
  simp only [hy]
  rw [Sem.bind_eq_wrap', Sem.bind_eq_wrap', Sem.wrap_wrap, Sem.wrap_wrap]
  refine sx_wrap (wpAny_mono h₂ (fun y s₃ h₃ => ?_) fun _ _ z => z.elim)
  refine sx_at ?_
  refine sx_yield (v := y) rfl rfl fun p => ?_
  refine h₃ _ rfl fun A' s'' Qy' Qr' hx => ?_
  exact sx_again (fs := []) rfl hx
end
end Mine
end -- J2

section -- J3
open PySem PySem.W PyProof.Rows PySem.Calls
open PySem.W.X (SegX wake_any SegX.mono)
namespace Mine
abbrev tabO (ps : Array Value) : Obj := { cls := .none, data := .fields ps }
/-- the table of a code object that makes others -/
structure Tab (w : World) (h : Heap) (c P : Addr) (ps : Array Value) : Prop where
  at_ : h.get? P = some (tabO ps)
  ok : TriplesOk ps.toList
theorem code218 {w : World} {h : Heap} {ps : Array Value} (X : (hd.heap_39 w.params).In h) (T : Tab w h 218 214 ps) : h.IsCode 218 214 ps ∧ h.TableAt 218 214 ps := by
  have e := X 218 _ rfl
  exact ⟨⟨_, _, _, _, _, _, _, _, _, _, e, rfl, rfl, rfl, rfl, rfl, rfl, T.at_, rfl, T.ok, by decide⟩, ⟨_, _, e, rfl, rfl, rfl⟩, T.at_⟩
theorem code225 {w : World} {h : Heap} {ps : Array Value} (X : (hd.heap_39 w.params).In h) (T : Tab w h 225 221 ps) : h.IsCode 225 221 ps ∧ h.TableAt 225 221 ps := by
  have e := X 225 _ rfl
  exact ⟨⟨_, _, _, _, _, _, _, _, _, _, e, rfl, rfl, rfl, rfl, rfl, rfl, T.at_, rfl, T.ok, by decide⟩, ⟨_, _, e, rfl, rfl, rfl⟩, T.at_⟩
section
variable {w : World} {A : Around} {E : Value → Shared → Prop} {s : Shared} {c P : Addr} {ps : Array Value}
/-- the code object of a generator expression: made once, found again later -/
theorem gen_code {env : Env} {pos : Pos} {q : PySem.Str} {scope : Scope} {Q : Value → Shared → Prop} (hc : env.code = .ref c) (hk : s.heap.IsCode c P ps ∧ s.heap.TableAt c P ps)
    (h : ∀ code h' tk ps', (∀ b o, b ≠ P → s.heap.get? b = some o → h'.get? b = some o) → Tab w h' c P ps' → Q code { s with heap := h', toks := tk }) : wpAny (model prog w) A (genexprCode env pos q scope) Q E s := by
  have ok : TriplesOk ps.toList := let ⟨_, _, _, _, _, _, _, _, _, _, _, _, _, _, _, _, _, _, _, x, _⟩ := hk.1; x
  cases e : codeAmong pos ps.toList with
  | some c' => exact wpAny_genexprCode_hit hc hk.1 e (h c' s.heap s.toks ps (fun _ _ _ e => e) ⟨hk.2.2, ok⟩)
  | none =>
    refine wpAny_genexprCodeX hc hk.1 hk.2 e fun c' h' tk x _ _ hcode _ ht _ => h _ h' tk _ x ⟨ht.2, ?_⟩
    obtain ⟨_, _, _, _, _, _, _, _, _, _, _, _, _, _, _, _, _, _, _, x, _⟩ := hcode
    exact x
end
end Mine
end -- J3

section -- J4
open PySem PySem.W PyProof.Rows PySem.Calls
open PySem.W.X (SegX wake_any SegX.mono)
namespace Mine
structure Grd (w : World) (h : Heap) : Prop where
  X : (hd.heap_39 w.params).In h
  lim : h.NoLimit
  ns : ∃ mg mb bm ob, h.Ns builtinsNs mb ∧ (∀ x : PySem.Str, x ≠ "__name__" → mb x = bootBuiltins x) ∧ BMod h mainGlobals mg bm ob
theorem Grd.keeps {w : World} {h h' : Heap} (g : Grd w h) (k : Ext h h') : Grd w h' := ⟨g.X.keeps k, g.lim.keeps k, let ⟨mg, mb, bm, ob, b, c, d⟩ := g.ns; ⟨mg, mb, bm, ob, b.keeps k, c, d.keeps k⟩⟩
theorem grd_of {w : World} {h : Heap} {p : Program} {loose : List PySem.Str} {mean : ExcName → Option Value} {mg mb : PySem.Str → Option Value} (X : (hd.heap_39 w.params).In h) (T : Top p loose mean mg mb h) : Grd w h :=
  ⟨X, T.nolimit, let ⟨bm, ob, B⟩ := bmod_of_top T; ⟨mg, mb, bm, ob, T.b, T.builtins, B⟩⟩
theorem Room.overC {A : Around} {d u : Nat} {it : Value} {env : Env} {el : PySem.Expr} {gs : List Comprehension} {sc : Scope} {pp : Pos} (r : Room A (d + 2) (u + 8)) : Room (A.over (.compLoop (.GeneratorExp el gs sc pp) 0 it .none env) []) d u :=
  ⟨r.handled, by have := r.depth; show A.depth + 0 + 1 + d ≤ 600; omega, by have := r.units; show A.units + 0 + 3 + u ≤ 5000; omega⟩
section
variable {w : World} {A : Around} {E : Value → Shared → Prop} {s : Shared} {x dx L t I C : Addr} {hr h₀ : Heap} {m : PySem.Str → Option Value} {items : Array Value} {i : Nat} {c : Int} {v : PySem.Str} {t1 t2 : Tok} {ps : Array Value} {mm : PySem.Str → Option Value}
theorem local_gen {env : Env} {y : PySem.Str} {pos : Pos} {v : Value} {Q : Value → Shared → Prop} (hk : env.scope.kind = .function) (hl : env.kindOf y = some .local) (hn : s.heap.Ns env.locals mm) (hv : mm y = some v) (h : Q v s) (hd : (y == ("__debug__" : PySem.Str)) = false := by decide) :
    wpAny (model prog w) A (eval (.Name y pos) env) Q E s := wpAny_Name (wpAny_loadName_local hk hl hn hv h) hd
theorem global_gen {env : Env} {y : PySem.Str} {pos : Pos} {v : Value} {Q : Value → Shared → Prop} (g : Grd w s.heap) (hg : env.globals = mainGlobals) (hk : env.scope.kind = .function) (hl : env.kindOf y = some .globalImplicit) (hv : nsIn (hd.heap_39 w.params) mainGlobals y = some (some v)) (h : Q v s) (hd : (y == ("__debug__" : PySem.Str)) = false := by decide) :
    wpAny (model prog w) A (eval (.Name y pos) env) Q E s := by
  obtain ⟨mg, mb, bm, ob, b, c, d⟩ := g.ns
  exact Calls.Name_function_global hk hl (Calls.loadGlobal_global (env := env) (by rw [hg]; exact d.ns) (mg_of g.X d.ns hv) h) hd
abbrev vScope (mr : List (PySem.Str × Const)) : Scope := { kind := .function, names := [(".0", .local), ("tag", .local), ("VALID_XDATA_GROUP_CODES", .globalImplicit)], isGenerator := true, isCoroutine := false, more := mr }
abbrev vElt (p1 p2 p3 p4 : Pos) : PySem.Expr := .Compare (.Attribute (.Name "tag" p1) "code" p2) [.In] [.Name "VALID_XDATA_GROUP_CODES" p3] p4
/-- the test of a tag's code -/
theorem elt_valid {env : Env} {p1 p2 p3 p4 : Pos} {Q : Value → Shared → Prop} (r : Room A 1 4) (g : Grd w hr) (hg : env.globals = mainGlobals) (hk : env.scope.kind = .function) (hl : env.kindOf "tag" = some .local) (hl2 : env.kindOf "VALID_XDATA_GROUP_CODES" = some .globalImplicit)
    (F : Fr hr env.locals s.heap mm) (hv : mm "tag" = some (.ref x)) (hx : hr.get? x = some (tagObj dx c t1 v t2)) (hdx : hr.get? dx = some (dictOf [] 0))
    (h : ∀ h' tk, Ext s.heap h' → Q (.bool (decide (c ∈ xdL))) { s with heap := h', toks := tk }) : wpAny (model prog w) A (eval (vElt p1 p2 p3 p4) env) Q E s := by
  refine wpAny_Compare1 (Attribute_name (local_gen hk hl F.ns hv ?_))
  refine prop_code r F g.X g.lim (F.keep _ _ hx) (F.keep _ _ hdx) fun h₁ tk₁ k₁ => ?_
  have F₁ := F.keeps k₁
  refine global_gen (g.keeps F₁.keep) hg hk hl2 (v := .ref 23) (by k_is) ?_
  exact in23 F₁ g.X (h _ _ k₁)
end
end Mine
end -- J4

section -- J5
open PySem PySem.W PyProof.Rows PySem.Calls
open PySem.W.X (SegX wake_any SegX.mono)
namespace Mine
section
variable {w : World} {A : Around} {E : Value → Shared → Prop} {s : Shared} {x dx L t I C a : Addr} {hr h₀ : Heap} {m : PySem.Str → Option Value} {items : Array Value} {i g n : Nat} {c : Int} {v : PySem.Str} {t1 t2 : Tok} {ps : Array Value} {mm : PySem.Str → Option Value}
variable {p1 p2 p3 p4 p5 p6 : Pos} {mr : List (PySem.Str × Const)} {iter : PySem.Expr} {cenv : Env}
/-- all() over the generator of has_valid_xdata_group_codes -/
theorem all_valid {Q : Value → Shared → Prop} (r : Room A 6 30) (gd : Grd w hr) (hg : cenv.globals = mainGlobals) (hk : cenv.scope.kind = .function) (hco : cenv.scope.isCoroutine = false) (hl : cenv.kindOf "tag" = some .local) (hl2 : cenv.kindOf "VALID_XDATA_GROUP_CODES" = some .globalImplicit)
    (hcls : (cenv.scope.kind == .class || (cenv.scope.kind == .module && cenv.locals != cenv.globals)) = false)
    (F : Fr hr cenv.locals s.heap mm) (hx : hr.get? x = some (tagObj dx c t1 v t2)) (hdx : hr.get? dx = some (dictOf [] 0)) (Ht : TagsAt hr t #[.ref x]) (hit : s.heap.IsListIter I t 0) (hI : hr.get? I = none) (hIC : I ≠ cenv.locals)
    (ha : s.heap.IsGen a g) (haI : a ≠ I) (haC : a ≠ cenv.locals) (hgs : s.gens[g]? = some (.fresh (.compStart (ge (vElt p1 p2 p3 p4) "tag" p5 iter [] (vScope mr) p6) 0 (.ref I) .none cenv)))
    (h : ∀ h' tk gs, ExtB cenv.locals I s.heap h' → (AllBare s.gens → AllBare gs) → Q (.bool (decide (c ∈ xdL))) { s with heap := h', toks := tk, gens := gs }) :
    wpAny (model prog w) A (PySem.call (.builtin "all") [.ref a]) Q E s := by
  have hrI : ∀ b o, hr.get? b = some o → b ≠ I := fun b o e z => by rw [z, hI] at e; cases e
  have hrC : ∀ b o, hr.get? b = some o → b ≠ cenv.locals := fun b o e => Nat.ne_of_lt (Nat.lt_of_lt_of_le (Heap.lt_size e) F.above)
  refine call_function_tree PySem.F.kind_all PySem.F.plain_all PySem.F.entry_all (PySem.F.args_all1 _) ?_
  unfold Builtin.«all»
  refine wpAny_bind (m := oneArg "all" _) (wpAny_pure ?_)
  refine wpAny_bind (wpAny_pyIter_gen ha ?_)
  refine wpAny_pure ⟨plainId_quiet PySem.F.plain_all_loop _, ?_⟩
  refine codeAny_builtin PySem.F.entry_all_loop ?_
  rw [Around.under_plainId PySem.F.plain_all_loop _]
  show wpAny _ A.in1 (pyNext (.ref a) >>= _) _ _ s
  have r1 : Room A.in1 6 29 := r.of_in (by omega) (by omega)
  have r2 : Room A.in1.in1 6 28 := r1.of_in (by omega) (by omega)
  refine wpAny_bind (next_x r1.handled (gd.lim.keeps F.keep) r1.deep ha hgs ?_)
  show SegX _ A.in1.in1 _ _ [] _ _
  refine sx_genStart hit ?_
  refine sx_genYield hco (next_tags_item hit (Ht.at F.keep) rfl fun h₁ hit₁ hs₁ => ⟨_, rfl, ?_⟩)
  have F₁ : Fr hr cenv.locals h₁ mm := ⟨F.ns.at' fun o e => hs₁.extBut _ o (Ne.symm hIC) e, fun b o e => hs₁.extBut b o (hrI b o e) (F.keep b o e), F.above⟩
  refine wpAny_storeName_local hl F₁.ns (fun h₂ hn₂ hs₂ => ?_) hcls
  have F₂ : Fr hr cenv.locals h₂ _ := ⟨hn₂, fun b o e => hs₂.extBut b o (hrC b o e) (F₁.keep b o e), F.above⟩
  have hit₂ : h₂.IsListIter I t 1 := let ⟨o, ho, z⟩ := hit₁; ⟨o, hs₂.extBut I o hIC ho, z⟩
  have k₂ : ExtB cenv.locals I s.heap h₂ := fun b o hC hI' e => hs₂.extBut b o hC (hs₁.extBut b o hI' e)
  refine elt_valid (Room.overC (d := 1) (u := 4) (r2.less (by omega) (by omega))) gd hg hk hl hl2 F₂ rfl hx hdx fun h₃ tk₃ k₃ => ?_
  intro gs' hb hgo
  show wpAny _ _ _ _ _ _
  refine wpAny_bind (wpAny_holding (wpAny_truthy_bool ?_))
  refine wpAny_bind (wpAny_letGo ?_)
  have F₃ := F₂.keeps k₃
  have hit₃ : h₃.IsListIter I t 1 := let ⟨o, ho, z⟩ := hit₂; ⟨o, k₃ _ _ ho, z⟩
  have ha₃ : h₃.IsGen a g := let ⟨o, nm, qn, ho, z⟩ := ha; ⟨o, nm, qn, k₃ _ _ (k₂ a o haC haI ho), z⟩
  have bare1 : AllBare s.gens → AllBare ((s.gens.setIfInBounds g .running).setIfInBounds g gs') := fun B => bare_set (bare_set B rfl) hb
  by_cases hv : c ∈ xdL
  · rw [decide_eq_true hv] at h
    rw [decide_eq_true hv]
    simp only [if_true]
    refine wpAny_pure ⟨plainId_quiet PySem.F.plain_all_loop _, ?_⟩
    refine codeAny_builtin PySem.F.entry_all_loop ?_
    rw [Around.under_plainId PySem.F.plain_all_loop _]
    show wpAny _ A.in1 (pyNext (.ref a) >>= _) _ _ _
    refine wpAny_bind (next_x r1.handled (gd.lim.keeps F₃.keep) r1.deep ha₃ (setGen_self (gs := .running) (setGen_self hgs)) (hgo _ _ _ _ ?_))
    refine sx_genEnd (next_tags_end r2.handled hit₃ (Ht.at F₃.keep) rfl fun h₄ he₄ => ⟨rfl, fun h₅ k₅ => ?_⟩)
    refine wpAny_bind (wpAny_rule (wpAny_pure ?_))
    refine h h₅ _ _ (fun b o hC hI' e => k₅ b o (he₄ b o hI' (k₃ b o (k₂ b o hC hI' e)))) fun B => ?_
    refine bare_gen (x := .finished) ?_ rfl
    refine bare_gen (x := .running) ?_ rfl
    exact bare1 B
  · rw [decide_eq_false hv] at h
    rw [decide_eq_false hv]
    simp only [Bool.false_eq_true, if_false]
    refine wpAny_bind (wpAny_rule (wpAny_pure ?_))
    exact h h₃ tk₃ _ (fun b o hC hI' e => k₃ b o (k₂ b o hC hI' e)) bare1
end
end Mine
end -- J5

section -- J6
open PySem PySem.W PyProof.Rows PySem.Calls
namespace Mine
section
variable {w : World} {A : Around} {E : Value → Shared → Prop} {s : Shared} {x dx L t I C a : Addr} {hr h₀ : Heap} {m : PySem.Str → Option Value} {items : Array Value} {i g n : Nat} {c : Int} {v : PySem.Str} {t1 t2 : Tok} {ps : Array Value} {mm : PySem.Str → Option Value}
variable {p1 p2 p3 p4 p5 p6 : Pos} {mr : List (PySem.Str × Const)} {iter : PySem.Expr} {cenv : Env}
theorem builtin_at {env : Env} {y : PySem.Str} {pos : Pos} {v : Value} {Q : Value → Shared → Prop} (gd : Grd w s.heap) (hg : env.globals = mainGlobals) (hb : env.builtins = builtinsNs) (hk : env.scope.kind = .function) (hl : env.kindOf y = some .globalImplicit) (hn : nsIn (hd.heap_39 w.params) mainGlobals y = some none) (hv : bootBuiltins y = some v) (hne : y ≠ "__name__") (h : Q v s)
    (hd : (y == ("__debug__" : PySem.Str)) = false := by decide) : wpAny (model prog w) A (eval (.Name y pos) env) Q E s := by
  obtain ⟨mg, mb, bm, ob, b, c, d⟩ := gd.ns
  exact Calls.Name_function_global hk hl (Calls.loadGlobal_builtin (env := env) (by rw [hg]; exact d.ns) (mg_none_of gd.X d.ns hn) (by rw [hb]; exact b) ((c y hne).trans hv) h) hd
theorem call_219 {Q : Value → Shared → Prop} (r : Room A 8 40) (gd : Grd w hr) (kr : Ext hr s.heap) (kz : hr.objs.size ≤ s.heap.objs.size) (hP : hr.get? 214 = none) (T : Tab w s.heap 218 214 ps) (Ht : TagsAt hr t #[.ref x]) (hx : hr.get? x = some (tagObj dx c t1 v t2)) (hdx : hr.get? dx = some (dictOf [] 0))
    (h : ∀ h' tk gs ps', (∀ b o, b ≠ 214 → s.heap.get? b = some o → h'.get? b = some o) → Tab w h' 218 214 ps' → (AllBare s.gens → AllBare gs) → Q (.bool (decide (c ∈ xdL))) { s with heap := h', toks := tk, gens := gs }) :
    wpAny (model prog w) A (PySem.call (.ref 219) [.ref t]) Q E s := by
  have hrP : ∀ b o, hr.get? b = some o → b ≠ 214 := fun b o e z => by rw [z, hP] at e; cases e
  refine wpAny_call ?_
  refine' call_fn (gd.X.keeps kr) (gd.lim.keeps kr) r.deep ?k1 ?k2 ?k3 ?k4 ?_ ?c2 ?c3 ?c4 ?c5
  case k1 => k_is
  case k2 => k_is
  case k3 => exact BindsTo.of_eq rfl
  case k4 => exact locs rfl
  case c5 => decide
  case c2 => exact rfl
  case c3 => exact rfl
  case c4 => exact rfl
  intro h₁ F₀
  have F : Fr hr s.heap.objs.size h₁ _ := ⟨F₀.ns, fun b o e => F₀.keep b o (kr b o e), kz⟩
  have T₁ : Tab w h₁ 218 214 ps := ⟨F₀.keep _ _ T.at_, T.ok⟩
  have hL : s.heap.objs.size ≠ 214 := Nat.ne_of_gt (Heap.lt_size T.at_)
  refine wpAny_execs_cons (wpAny_Return_some (Call_Name1 ?_))
  refine builtin_at (v := .builtin "all") (gd.keeps F.keep) rfl rfl rfl rfl (by k_is) (by decide +kernel) (by decide +kernel) ?_
  refine PySem.callWith_builtin1 ?_
  have rd : Room (A.deeper (envOf "has_valid_xdata_group_codes" { kind := .function, names := [("tags", .local), ("all", .globalImplicit)], isGenerator := false, isCoroutine := false } s.heap.objs.size 219 (.ref 218))) 7 37 := Room.deeper r
  refine wpAny_GeneratorExp_make (cl := []) rfl rfl (by decide) rfl rfl rd.deep ?_ (fun _ => rfl)
  refine ld F rfl ?_
  have X₁ := gd.X.keeps F.keep
  refine iter_tags X₁ (Ht.at F.keep) ⟨(gd.lim.keeps F.keep).push _, ?_⟩
  have up₂ : Ext h₁ (h₁.push { cls := .type "list_iterator", data := .fields #[.ref t, .int 0 0] }) := fun b o e => Heap.get?_push_of_some _ e
  have g₂ : (h₁.push { cls := .type "list_iterator", data := .fields #[.ref t, .int 0 0] }).get? h₁.objs.size = some { cls := .type "list_iterator", data := .fields #[.ref t, .int 0 0] } := Heap.get?_push_size _ rfl
  generalize h₁.push { cls := .type "list_iterator", data := .fields #[.ref t, .int 0 0] } = h₂ at up₂ g₂ ⊢
  have T₂ : Tab w h₂ 218 214 ps := ⟨up₂ _ _ T₁.at_, T.ok⟩
  have F₂ := F.keeps up₂
  have hIP : h₁.objs.size ≠ 214 := Nat.ne_of_gt (Heap.lt_size T₁.at_)
  refine gen_code (s := { s with heap := h₂, toks := _ }) rfl (code218 (gd.X.keeps F₂.keep) T₂) fun code h₃ tk₃ ps₃ k₃ T₃ => ?_
  have F₃ : Fr hr s.heap.objs.size h₃ _ := ⟨F₂.ns.at' fun o e => k₃ _ o hL e, fun b o e => k₃ b o (hrP b o e) (F₂.keep b o e), kz⟩
  obtain ⟨mg, mb, bm, ob, _, _, bmd⟩ := gd.ns
  have bmd₃ := bmd.keeps F₃.keep
  refine wpAny_builtinsFor bmd₃.ns bmd₃.name bmd₃.ne bmd₃.obj bmd₃.cls bmd₃.dict bmd₃.data ?_
  intro h₄ hn₄ hs₄
  have hsz : h₄.objs.size = h₃.objs.size + 1 := by rw [hs₄.1, Heap.size_push]
  have up₄ : Ext h₃ h₄ := fun b o e => hs₄.extBut b o (Nat.ne_of_lt (Heap.lt_size e)) (Heap.get?_push_of_some _ e)
  have F₄ := F₃.keeps up₄
  have g₃ := k₃ _ _ hIP g₂
  have I3 : h₁.objs.size < h₃.objs.size := Heap.lt_size g₃
  have FC : Fr hr h₃.objs.size (h₄.push { cls := .type "generator", data := .fields #[.int s.gens.size 0, .str "<genexpr>" (tk₃ + 1), .str ("has_valid_xdata_group_codes" ++ ".<locals>." ++ "<genexpr>" : PySem.Str) (tk₃ + 1 + 1)] }) _ :=
    ⟨hn₄.push _, fun b o e => Heap.get?_push_of_some _ (F₄.keep b o e), Nat.le_trans kz (Nat.le_of_lt (let ⟨_, _, _, ho, _⟩ := F₃.ns; Heap.lt_size ho))⟩
  have hI : hr.get? h₁.objs.size = none := by
    cases e : hr.get? h₁.objs.size with
    | none => rfl
    | some o => exact absurd (Heap.lt_size e) (Nat.not_lt_of_le (Nat.le_trans kz (Nat.le_of_lt (let ⟨_, _, _, ho, _⟩ := F.ns; Heap.lt_size ho))))
  refine' all_valid (a := h₄.objs.size) (g := s.gens.size) (rd.less (by omega) (by omega)) gd ?hg ?hk ?hco ?hl ?hl2 ?hcls ?F hx hdx Ht ?hit hI ?hIC ?ha ?haI ?haC ?hgs ?hfin
  case hgs => exact Array.getElem?_push_size ..
  case hg => exact rfl
  case hk => exact rfl
  case hco => exact rfl
  case hl => exact rfl
  case hl2 => exact rfl
  case hcls => exact rfl
  case F => exact FC
  case hit => exact ⟨_, Heap.get?_push_of_some _ (up₄ _ _ g₃), rfl, rfl⟩
  case hIC => exact Nat.ne_of_lt I3
  case ha => exact ⟨_, _, _, Heap.get?_push_size _ rfl, rfl, rfl, rfl⟩
  case haI => rw [hsz]; exact Nat.ne_of_gt (Nat.lt_succ_of_lt I3)
  case haC => rw [hsz]; exact Nat.succ_ne_self _
  case hfin =>
    intro h₅ tk₅ gs k₅ B
    have base : ∀ b o, b ≠ 214 → s.heap.get? b = some o → h₅.get? b = some o := fun b o hb e => by
      have e₁ := F₀.keep b o e
      have lt₁ := Heap.lt_size e₁
      have e₃ := k₃ b o hb (up₂ b o e₁)
      exact k₅ b o (Nat.ne_of_lt (Heap.lt_size e₃)) (Nat.ne_of_lt lt₁) (Heap.get?_push_of_some _ (up₄ b o e₃))
    refine h h₅ tk₅ gs ps₃ base ⟨?_, T₃.ok⟩ fun B' => B (B'.push rfl)
    have e₃ := T₃.at_
    exact k₅ 214 _ (Nat.ne_of_lt (Heap.lt_size e₃)) (Ne.symm hIP) (Heap.get?_push_of_some _ (up₄ _ _ e₃))
end
end Mine
end -- J6

section -- N0
open PySem PySem.W PyProof.Rows PySem.Calls
open PySem.W.X (SegX wake_any SegX.mono)
namespace Mine
section
variable {prog : Program} {w : World} {A : Around} {E : Value → Shared → Prop} {s : Shared} {Qy : Value → GenState → Shared → Prop} {Qr : Shared → Prop} {P : End → Shared → Prop}
variable {elt iter test : PySem.Expr} {x : PySem.Str} {px pos : Pos} {scope : Scope} {cenv : Env} {I l : Addr} {i : Nat}
theorem sx_genTest (hco : cenv.scope.isCoroutine = false)
    (h : wpAny (model prog w) (A.over (.compLoop (ge elt x px iter [test] scope pos) 0 (.ref I) .none cenv) []) (pyNext (.ref I)) (fun r s₁ => ∃ v, r = some v ∧
      wpAny (model prog w) (A.over (.compLoop (ge elt x px iter [test] scope pos) 0 (.ref I) .none cenv) []) (storeName cenv x v) (fun _ s₂ =>
        wpAny (model prog w) (A.over (.compLoop (ge elt x px iter [test] scope pos) 0 (.ref I) .none cenv) []) (isTrue test cenv (eval test cenv)) (fun b s₃ =>
          (b = true → wpAny (model prog w) (A.over (.compLoop (ge elt x px iter [test] scope pos) 0 (.ref I) .none cenv) []) (eval elt cenv) (fun y s₄ => ∀ gs', gs'.bare = true →
            (∀ A' s'' Qy' Qr', SegX (model prog w) A' (.compLoop (ge elt x px iter [test] scope pos) 0 (.ref I) .none cenv) ((model prog w).den (.compLoop (ge elt x px iter [test] scope pos) 0 (.ref I) .none cenv)) [] s'' (endP Qy' Qr') → Go (model prog w) A' gs' s'' (endP Qy' Qr')) → Qy y gs' s₄)
            (fun _ _ => False) s₃) ∧
          (b = false → SegX (model prog w) A (.compLoop (ge elt x px iter [test] scope pos) 0 (.ref I) .none cenv) ((model prog w).den (.compLoop (ge elt x px iter [test] scope pos) 0 (.ref I) .none cenv)) [] s₃ (endP Qy Qr)))
          (fun _ _ => False) s₂) (fun _ _ => False) s₁) (fun _ _ => False) s) :
    SegX (model prog w) A (.compLoop (ge elt x px iter [test] scope pos) 0 (.ref I) .none cenv) ((model prog w).den (.compLoop (ge elt x px iter [test] scope pos) 0 (.ref I) .none cenv)) [] s (endP Qy Qr) := by
  show SegX _ A _ ((compTurn (ge elt x px iter [test] scope pos) 0 (.ref I) .none cenv).onRaise (leaving cenv)) [] s _
  rw [compTurn_gen, Sem.onRaise_eq_wrap]
  refine sx_bw (wpAny_standAt (sx_bw (wpAny_mono h (fun r s₁ hr => ?_) fun _ _ z => z.elim)))
  obtain ⟨v, rfl, h₁⟩ := hr
  refine sx_bw (wpAny_of_eq (rfl : letOwnedTupleGo (.Name x px) (.ref I) v = pure ()) ?_)
  refine sx_bw (wpAny_assign_Name (wpAny_mono h₁ (fun _ s₂ h₂ => ?_) fun _ _ z => z.elim))
  refine sx_bw (wpAny_tests_one (wpAny_mono h₂ (fun b s₃ h₃ => ?_) fun _ _ z => z.elim))
  cases b with
  | false =>
    simp only [Bool.false_eq_true, if_false]
    exact sx_again (fs := []) rfl (h₃.2 rfl)
  | true =>
    simp only [if_true]
    have hy : ∀ v, yieldOut cenv v = yieldValue v := fun v => by simp only [yieldOut, hco, Bool.false_eq_true, if_false]
    simp only [hy]
    rw [Sem.bind_eq_wrap', Sem.bind_eq_wrap', Sem.wrap_wrap, Sem.wrap_wrap]
    refine sx_wrap (wpAny_mono (h₃.1 rfl) (fun y s₃ h₃ => ?_) fun _ _ z => z.elim)
    refine sx_at ?_
    refine sx_yield (v := y) rfl rfl fun p => ?_
    refine h₃ _ rfl fun A' s'' Qy' Qr' hx => ?_
    exact sx_again (fs := []) rfl hx
end
abbrev fScope (mr : List (PySem.Str × Const)) : Scope := { kind := .function, names := [(".0", .local), ("tag", .local), ("VALID_XDATA_GROUP_CODES", .globalImplicit)], isGenerator := true, isCoroutine := false, more := mr }
section
variable {w : World} {A : Around} {E : Value → Shared → Prop} {s : Shared} {x dx L t I C a : Addr} {hr h₀ : Heap} {m : PySem.Str → Option Value} {items : Array Value} {i g n j : Nat} {c : Int} {v : PySem.Str} {t1 t2 : Tok} {ps : Array Value} {mm : PySem.Str → Option Value}
variable {p1 p2 p3 p4 p5 p6 p7 : Pos} {mr : List (PySem.Str × Const)} {iter : PySem.Expr} {cenv : Env} {Qy : Value → GenState → Shared → Prop} {Qr : Shared → Prop}
abbrev fE (p1 p2 p3 p4 p5 p6 p7 : Pos) (iter : PySem.Expr) (scope : Scope) : PySem.Expr := ge (.Name "tag" p7) "tag" p5 iter [vElt p1 p2 p3 p4] scope p6
/-- what the generator expression's environment must be -/
structure FEnv (cenv : Env) : Prop where
  hg : cenv.globals = mainGlobals
  hk : cenv.scope.kind = .function
  hco : cenv.scope.isCoroutine = false
  hl : cenv.kindOf "tag" = some .local
  hl2 : cenv.kindOf "VALID_XDATA_GROUP_CODES" = some .globalImplicit
  hcls : (cenv.scope.kind == .class || (cenv.scope.kind == .module && cenv.locals != cenv.globals)) = false
theorem filt_item (r : Room A 4 20) (gd : Grd w hr) (e : FEnv cenv) (F : Fr hr cenv.locals s.heap mm) (hit : s.heap.IsListIter I t j) (hI : hr.get? I = none) (hIC : I ≠ cenv.locals) (Ht : TagsAt hr t items) (hj : items[j]? = some (.ref x))
    (hx : hr.get? x = some (tagObj dx c t1 v t2)) (hdx : hr.get? dx = some (dictOf [] 0))
    (hT : c ∈ xdL → ∀ h' tk gs' mm', gs'.bare = true → ExtB cenv.locals I s.heap h' → Fr hr cenv.locals h' mm' → h'.IsListIter I t (j + 1) →
      (∀ A' s'' Qy' Qr', SegX (model prog w) A' (.compLoop (fE p1 p2 p3 p4 p5 p6 p7 iter (fScope mr)) 0 (.ref I) .none cenv) ((model prog w).den (.compLoop (fE p1 p2 p3 p4 p5 p6 p7 iter (fScope mr)) 0 (.ref I) .none cenv)) [] s'' (endP Qy' Qr') → Go (model prog w) A' gs' s'' (endP Qy' Qr')) →
      Qy (.ref x) gs' { s with heap := h', toks := tk })
    (hF : c ∉ xdL → ∀ h' tk mm', ExtB cenv.locals I s.heap h' → Fr hr cenv.locals h' mm' → h'.IsListIter I t (j + 1) →
      SegX (model prog w) A (.compLoop (fE p1 p2 p3 p4 p5 p6 p7 iter (fScope mr)) 0 (.ref I) .none cenv) ((model prog w).den (.compLoop (fE p1 p2 p3 p4 p5 p6 p7 iter (fScope mr)) 0 (.ref I) .none cenv)) [] { s with heap := h', toks := tk } (endP Qy Qr)) :
    SegX (model prog w) A (.compLoop (fE p1 p2 p3 p4 p5 p6 p7 iter (fScope mr)) 0 (.ref I) .none cenv) ((model prog w).den (.compLoop (fE p1 p2 p3 p4 p5 p6 p7 iter (fScope mr)) 0 (.ref I) .none cenv)) [] s (endP Qy Qr) := by
  have hrI : ∀ b o, hr.get? b = some o → b ≠ I := fun b o e z => by rw [z, hI] at e; cases e
  have hrC : ∀ b o, hr.get? b = some o → b ≠ cenv.locals := fun b o e => Nat.ne_of_lt (Nat.lt_of_lt_of_le (Heap.lt_size e) F.above)
  refine sx_genTest e.hco (next_tags_item hit (Ht.at F.keep) hj fun h₁ hit₁ hs₁ => ⟨_, rfl, ?_⟩)
  have F₁ : Fr hr cenv.locals h₁ mm := ⟨F.ns.at' fun o e => hs₁.extBut _ o (Ne.symm hIC) e, fun b o e => hs₁.extBut b o (hrI b o e) (F.keep b o e), F.above⟩
  refine wpAny_storeName_local e.hl F₁.ns (fun h₂ hn₂ hs₂ => ?_) e.hcls
  have F₂ : Fr hr cenv.locals h₂ _ := ⟨hn₂, fun b o e => hs₂.extBut b o (hrC b o e) (F₁.keep b o e), F.above⟩
  have hit₂ : h₂.IsListIter I t (j + 1) := let ⟨o, ho, z⟩ := hit₁; ⟨o, hs₂.extBut I o hIC ho, z⟩
  have k₂ : ExtB cenv.locals I s.heap h₂ := fun b o hC hI' e => hs₂.extBut b o hC (hs₁.extBut b o hI' e)
  refine wpAny_isTrue_Compare1 (Attribute_name (local_gen e.hk e.hl F₂.ns (v := .ref x) (if_pos rfl) ?_))
  refine prop_code (Room.overC (d := 2) (u := 8) (r.less (by omega) (by omega)) |>.less (by omega) (by omega)) F₂ gd.X gd.lim (F₂.keep _ _ hx) (F₂.keep _ _ hdx) fun h₃ tk₃ k₃ => ?_
  have F₃ := F₂.keeps k₃
  refine global_gen (gd.keeps F₃.keep) e.hg e.hk e.hl2 (v := .ref 23) (by k_is) ?_
  refine in23 F₃ gd.X (wpAny_truthy_bool ?_)
  have hit₃ : h₃.IsListIter I t (j + 1) := let ⟨o, ho, z⟩ := hit₂; ⟨o, k₃ _ _ ho, z⟩
  have K₃ : ExtB cenv.locals I s.heap h₃ := fun b o hC hI' e => k₃ b o (k₂ b o hC hI' e)
  constructor
  · intro hd
    have hv : c ∈ xdL := of_decide_eq_true hd
    refine local_gen e.hk e.hl F₃.ns (v := .ref x) (if_pos rfl) ?_
    intro gs' hb hgo
    exact hT hv h₃ _ gs' _ hb K₃ F₃ hit₃ hgo
  · intro hd
    have hv : c ∉ xdL := of_decide_eq_false hd
    exact hF hv h₃ _ _ K₃ F₃ hit₃
end
end Mine
end -- N0

section -- N1
open PySem PySem.W PyProof.Rows PySem.Calls
open PySem.W.X (SegX wake_any SegX.mono)
namespace Mine
/-- what a generator still hands on: these objects, then its end -/
def SpecC (w : World) (hr : Heap) (C I t : Addr) : List Addr → Nat → (PySem.Str → Option Value) → GenState → Prop
  | [], j, mm, gs => ∀ A s Qy Qr, Room A 6 30 → Fr hr C s.heap mm → s.heap.IsListIter I t j → (∀ h', (∀ b o, b ≠ I → s.heap.get? b = some o → h'.get? b = some o) → Qr { s with heap := h' }) → Go (model prog w) A gs s (endP Qy Qr)
  | a :: r, j, mm, gs => ∀ A s Qy Qr, Room A 6 30 → Fr hr C s.heap mm → s.heap.IsListIter I t j →
    (∀ h' tk gs' mm' j', gs'.bare = true → ExtB C I s.heap h' → Fr hr C h' mm' → h'.IsListIter I t j' → SpecC w hr C I t r j' mm' gs' → Qy (.ref a) gs' { s with heap := h', toks := tk }) → Go (model prog w) A gs s (endP Qy Qr)
section
variable {w : World} {A : Around} {E : Value → Shared → Prop} {s : Shared} {x dx y dy L t I C a : Addr} {hr h₀ : Heap} {m : PySem.Str → Option Value} {items : Array Value} {i g n j : Nat} {c c2 : Int} {v v2 : PySem.Str} {t1 t2 t3 t4 : Tok} {ps : Array Value} {mm : PySem.Str → Option Value}
variable {p1 p2 p3 p4 p5 p6 p7 : Pos} {mr : List (PySem.Str × Const)} {iter : PySem.Expr} {cenv : Env} {Qy : Value → GenState → Shared → Prop} {Qr : Shared → Prop}
theorem filt_spec (hCe : cenv.locals = C) (gd : Grd w hr) (e : FEnv cenv) (hI : hr.get? I = none) (hIC : I ≠ cenv.locals) (Ht : TagsAt hr t #[.ref x, .ref y])
    (hx : hr.get? x = some (tagObj dx c t1 v t2)) (hdx : hr.get? dx = some (dictOf [] 0)) (hy : hr.get? y = some (tagObj dy c2 t3 v2 t4)) (hdy : hr.get? dy = some (dictOf [] 0)) (hc2 : c2 ∈ xdL) :
    SpecC w hr C I t (if c ∈ xdL then [x, y] else [y]) 0 mm (.fresh (.compStart (fE p1 p2 p3 p4 p5 p6 p7 iter (fScope mr)) 0 (.ref I) .none cenv)) := by
  subst hCe
  have e2 : ∀ A s Qy Qr mm', Room A 4 20 → Fr hr cenv.locals s.heap mm' → s.heap.IsListIter I t 2 → (∀ h', (∀ b o, b ≠ I → s.heap.get? b = some o → h'.get? b = some o) → Qr { s with heap := h' }) →
      SegX (model prog w) A (.compLoop (fE p1 p2 p3 p4 p5 p6 p7 iter (fScope mr)) 0 (.ref I) .none cenv) ((model prog w).den (.compLoop (fE p1 p2 p3 p4 p5 p6 p7 iter (fScope mr)) 0 (.ref I) .none cenv)) [] s (endP Qy Qr) :=
    fun A s Qy Qr mm' r F hit h => sx_genEnd (next_tags_end r.handled hit (Ht.at F.keep) rfl fun h' k => ⟨rfl, h h' k⟩)
  have e1 : ∀ A s Qy Qr mm', Room A 4 20 → Fr hr cenv.locals s.heap mm' → s.heap.IsListIter I t 1 →
      (∀ h' tk gs' mm' j', gs'.bare = true → ExtB cenv.locals I s.heap h' → Fr hr cenv.locals h' mm' → h'.IsListIter I t j' → SpecC w hr cenv.locals I t [] j' mm' gs' → Qy (.ref y) gs' { s with heap := h', toks := tk }) →
      SegX (model prog w) A (.compLoop (fE p1 p2 p3 p4 p5 p6 p7 iter (fScope mr)) 0 (.ref I) .none cenv) ((model prog w).den (.compLoop (fE p1 p2 p3 p4 p5 p6 p7 iter (fScope mr)) 0 (.ref I) .none cenv)) [] s (endP Qy Qr) := by
    intro A s Qy Qr mm' r F hit h
    refine filt_item r gd e F hit hI hIC Ht rfl hy hdy (fun _ h' tk gs' mm₁ hb k F' hit' hgo => ?_) (fun hn => absurd hc2 hn)
    refine h h' tk gs' mm₁ 2 hb k F' hit' ?_
    intro A₂ s₂ Qy₂ Qr₂ r₂ F₂ hit₂ h₂
    exact hgo _ _ _ _ (e2 A₂ s₂ Qy₂ Qr₂ _ (r₂.less (by omega) (by omega)) F₂ hit₂ h₂)
  by_cases hv : c ∈ xdL
  · rw [if_pos hv]
    intro A s Qy Qr r F hit h
    refine sx_genStart hit ?_
    refine filt_item (r.less (by omega) (by omega)) gd e F hit hI hIC Ht rfl hx hdx (fun _ h' tk gs' mm₁ hb k F' hit' hgo => ?_) (fun hn => absurd hv hn)
    refine h h' tk gs' mm₁ 1 hb k F' hit' ?_
    intro A₂ s₂ Qy₂ Qr₂ r₂ F₂ hit₂ h₂
    exact hgo _ _ _ _ (e1 A₂ s₂ Qy₂ Qr₂ _ (r₂.less (by omega) (by omega)) F₂ hit₂ h₂)
  · rw [if_neg hv]
    intro A s Qy Qr r F hit h
    refine sx_genStart hit ?_
    refine filt_item (r.less (by omega) (by omega)) gd e F hit hI hIC Ht rfl hx hdx (fun hp => absurd hp hv) (fun _ h' tk mm₁ k F' hit' => ?_)
    refine e1 A _ Qy Qr _ (r.less (by omega) (by omega)) F' hit' ?_
    intro h₂ tk₂ gs₂ mm₂ j₂ hb k₂ F₂ hit₂ S₂
    exact h h₂ tk₂ gs₂ mm₂ j₂ hb (fun b o hC hI' e => k₂ b o hC hI' (k b o hC hI' e)) F₂ hit₂ S₂
/-- the generator that filter_invalid_xdata_group_codes gives back -/
structure GenF (w : World) (h : Heap) (hr : Heap) (ys : List Addr) (s : Shared) (a : Addr) : Prop where
  ex : ∃ g C I t mm gs, s.heap.IsGen a g ∧ s.gens[g]? = some gs ∧ Fr hr C s.heap mm ∧ s.heap.IsListIter I t 0 ∧ SpecC w hr C I t ys 0 mm gs ∧ None' h C ∧ None' h I ∧ a ≠ C ∧ a ≠ I ∧ I ≠ C ∧ hr.get? I = none
theorem call_226 {Q : Value → Shared → Prop} (r : Room A 8 40) (gd : Grd w hr) (kr : Ext hr s.heap) (kz : hr.objs.size ≤ s.heap.objs.size) (hP : hr.get? 221 = none) (T : Tab w s.heap 225 221 ps) (Ht : TagsAt hr t #[.ref x, .ref y])
    (hx : hr.get? x = some (tagObj dx c t1 v t2)) (hdx : hr.get? dx = some (dictOf [] 0)) (hy : hr.get? y = some (tagObj dy c2 t3 v2 t4)) (hdy : hr.get? dy = some (dictOf [] 0)) (hc2 : c2 ∈ xdL)
    (h : ∀ a h' tk gs ps', (∀ b o, b ≠ 221 → s.heap.get? b = some o → h'.get? b = some o) → Tab w h' 225 221 ps' → (AllBare s.gens → AllBare gs) → GenF w s.heap hr (if c ∈ xdL then [x, y] else [y]) { s with heap := h', toks := tk, gens := gs } a → Q (.ref a) { s with heap := h', toks := tk, gens := gs }) :
    wpAny (model prog w) A (PySem.call (.ref 226) [.ref t]) Q E s := by
  have hrP : ∀ b o, hr.get? b = some o → b ≠ 221 := fun b o e z => by rw [z, hP] at e; cases e
  refine wpAny_call ?_
  refine' call_fn (gd.X.keeps kr) (gd.lim.keeps kr) r.deep ?k1 ?k2 ?k3 ?k4 ?_ ?c2 ?c3 ?c4 ?c5
  case k1 => k_is
  case k2 => k_is
  case k3 => exact BindsTo.of_eq rfl
  case k4 => exact locs rfl
  case c5 => decide
  case c2 => exact rfl
  case c3 => exact rfl
  case c4 => exact rfl
  intro h₁ F₀
  have F : Fr hr s.heap.objs.size h₁ _ := ⟨F₀.ns, fun b o e => F₀.keep b o (kr b o e), kz⟩
  have T₁ : Tab w h₁ 225 221 ps := ⟨F₀.keep _ _ T.at_, T.ok⟩
  have hL : s.heap.objs.size ≠ 221 := Nat.ne_of_gt (Heap.lt_size T.at_)
  refine wpAny_execs_cons (wpAny_Return_some ?_)
  have rd : Room (A.deeper (envOf "filter_invalid_xdata_group_codes" { kind := .function, names := [("tags", .local)], isGenerator := false, isCoroutine := false } s.heap.objs.size 226 (.ref 225))) 7 37 := Room.deeper r
  refine wpAny_GeneratorExp_make (cl := []) rfl rfl (by decide) rfl rfl rd.deep ?_ (fun _ => rfl)
  refine ld F rfl ?_
  have X₁ := gd.X.keeps F.keep
  refine iter_tags X₁ (Ht.at F.keep) ⟨(gd.lim.keeps F.keep).push _, ?_⟩
  have up₂ : Ext h₁ (h₁.push { cls := .type "list_iterator", data := .fields #[.ref t, .int 0 0] }) := fun b o e => Heap.get?_push_of_some _ e
  have g₂ : (h₁.push { cls := .type "list_iterator", data := .fields #[.ref t, .int 0 0] }).get? h₁.objs.size = some { cls := .type "list_iterator", data := .fields #[.ref t, .int 0 0] } := Heap.get?_push_size _ rfl
  generalize h₁.push { cls := .type "list_iterator", data := .fields #[.ref t, .int 0 0] } = h₂ at up₂ g₂ ⊢
  have T₂ : Tab w h₂ 225 221 ps := ⟨up₂ _ _ T₁.at_, T.ok⟩
  have F₂ := F.keeps up₂
  have hIP : h₁.objs.size ≠ 221 := Nat.ne_of_gt (Heap.lt_size T₁.at_)
  refine gen_code (s := { s with heap := h₂, toks := _ }) rfl (code225 (gd.X.keeps F₂.keep) T₂) fun code h₃ tk₃ ps₃ k₃ T₃ => ?_
  have F₃ : Fr hr s.heap.objs.size h₃ _ := ⟨F₂.ns.at' fun o e => k₃ _ o hL e, fun b o e => k₃ b o (hrP b o e) (F₂.keep b o e), kz⟩
  obtain ⟨mg, mb, bm, ob, _, _, bmd⟩ := gd.ns
  have bmd₃ := bmd.keeps F₃.keep
  refine wpAny_builtinsFor bmd₃.ns bmd₃.name bmd₃.ne bmd₃.obj bmd₃.cls bmd₃.dict bmd₃.data ?_
  intro h₄ hn₄ hs₄
  have hsz : h₄.objs.size = h₃.objs.size + 1 := by rw [hs₄.1, Heap.size_push]
  have up₄ : Ext h₃ h₄ := fun b o e => hs₄.extBut b o (Nat.ne_of_lt (Heap.lt_size e)) (Heap.get?_push_of_some _ e)
  have F₄ := F₃.keeps up₄
  have g₃ := k₃ _ _ hIP g₂
  have I3 : h₁.objs.size < h₃.objs.size := Heap.lt_size g₃
  have FC : Fr hr h₃.objs.size (h₄.push { cls := .type "generator", data := .fields #[.int s.gens.size 0, .str "<genexpr>" (tk₃ + 1), .str ("filter_invalid_xdata_group_codes" ++ ".<locals>." ++ "<genexpr>" : PySem.Str) (tk₃ + 1 + 1)] }) _ :=
    ⟨hn₄.push _, fun b o e => Heap.get?_push_of_some _ (F₄.keep b o e), Nat.le_trans kz (Nat.le_of_lt (let ⟨_, _, _, ho, _⟩ := F₃.ns; Heap.lt_size ho))⟩
  have hI : hr.get? h₁.objs.size = none := by
    cases e : hr.get? h₁.objs.size with
    | none => rfl
    | some o => exact absurd (Heap.lt_size e) (Nat.not_lt_of_le (Nat.le_trans kz (Nat.le_of_lt (let ⟨_, _, _, ho, _⟩ := F.ns; Heap.lt_size ho))))
  have base : ∀ b o, s.heap.get? b = some o → h₁.get? b = some o := fun b o e => F₀.keep b o e
  refine h _ _ _ _ ps₃ (fun b o hb e => Heap.get?_push_of_some _ (up₄ b o (k₃ b o hb (up₂ b o (base b o e))))) ⟨Heap.get?_push_of_some _ (up₄ _ _ T₃.at_), T₃.ok⟩ (fun B => B.push rfl) ⟨s.gens.size, h₃.objs.size, h₁.objs.size, t, _, _, ?_, Array.getElem?_push_size .., FC, ?_, ?_, ?_, ?_, ?_, ?_, ?_, hI⟩
  · exact ⟨_, _, _, Heap.get?_push_size _ rfl, rfl, rfl, rfl⟩
  · exact ⟨_, Heap.get?_push_of_some _ (up₄ _ _ g₃), rfl, rfl⟩
  · refine' filt_spec ?_ gd ?_ hI ?_ Ht hx hdx hy hdy hc2
    · exact rfl
    · exact ⟨rfl, rfl, rfl, rfl, rfl, rfl⟩
    · exact Nat.ne_of_lt I3
  · exact fun o e => Nat.lt_irrefl _ (Nat.lt_trans (Heap.lt_size (base _ o e)) I3)
  · exact fun o e => Nat.lt_irrefl _ (Heap.lt_size (base _ o e))
  · rw [hsz]; exact Nat.succ_ne_self _
  · rw [hsz]; exact Nat.ne_of_gt (Nat.lt_succ_of_lt I3)
  · exact Nat.ne_of_lt I3
end
end Mine
end -- N1

section -- N2
open PySem PySem.W PyProof.Rows PySem.Calls
open PySem.W.X (SegX wake_any SegX.mono)
namespace Mine
section
variable {w : World} {A : Around} {E : Value → Shared → Prop} {s : Shared} {x dx y dy t I C a D Cc : Addr} {hr h₀ : Heap} {items acc : Array Value} {i g n j : Nat} {c c2 : Int} {v v2 : PySem.Str} {t1 t2 t3 t4 : Tok} {ps : Array Value} {mm : PySem.Str → Option Value}
variable {p1 p2 p3 p4 p5 p6 p7 : Pos} {iter : PySem.Expr} {R : Result → Shared → Prop} {ys : List Addr} {k : Nat}
structure Apart (hr : Heap) (C I a D Cc : Addr) : Prop where
  aC : a ≠ C
  aI : a ≠ I
  IC : I ≠ C
  DC : D ≠ C
  DI : D ≠ I
  Da : D ≠ a
  DCc : D ≠ Cc
  CcC : Cc ≠ C
  CcI : Cc ≠ I
  Cca : Cc ≠ a
  hI : hr.get? I = none
  hD : hr.get? D = none
  hCc : hr.get? Cc = none
/-- how the comprehension over the generator stands -/
structure CI (w : World) (hr : Heap) (C I t a g D Cc : Addr) (ys : List Addr) (acc : Array Value) (s : Shared) : Prop where
  gen : s.heap.IsGen a g
  ex : ∃ j mm gs, s.gens[g]? = some gs ∧ Fr hr C s.heap mm ∧ s.heap.IsListIter I t j ∧ SpecC w hr C I t ys j mm gs
  acc : ∃ n, s.heap.get? D = some { cls := .type "list", data := .seq acc n }
  ns : ∃ m, s.heap.Ns Cc m
abbrev oneC (cenv : Env) : Prop := cenv.scope.kind = .function ∧ cenv.kindOf "one" = some .local ∧ (cenv.scope.kind == .class || (cenv.scope.kind == .module && cenv.locals != cenv.globals)) = false
abbrev oneE (p1 p2 p3 p4 p5 p6 p7 : Pos) (k : Nat) (iter : PySem.Expr) (scope : Scope) : PySem.Expr := .ListComp (.Tuple [.Attribute (.Name "one" p1) "code" p2, .Attribute (.Name "one" p3) "value" p4] k p5) [⟨.Name "one" p6, iter, [], 0⟩] scope p7
theorem comp_turn {cenv : Env} {scope : Scope} (e : oneC cenv) (hCc : cenv.locals = Cc) (r : Room A 8 40) (gd : Grd w hr) (ap : Apart hr C I a D Cc) (st : CI w hr C I t a g D Cc (x :: ys) acc s) (hsz : acc.size ≤ 1000)
    (hx : hr.get? x = some (tagObj dx c t1 v t2)) (hdx : hr.get? dx = some (dictOf [] 0))
    (h : ∀ u h' tk gs, (∀ b o, b ≠ C → b ≠ I → b ≠ D → b ≠ Cc → s.heap.get? b = some o → h'.get? b = some o) → (AllBare s.gens → AllBare gs) → h'.get? u = some { cls := .type "tuple", data := .seq #[.int c t1, .str v t2] } → None' s.heap u → u ≠ C → u ≠ I → u ≠ D → u ≠ Cc →
      CI w hr C I t a g D Cc ys (acc.push (.ref u)) { s with heap := h', toks := tk, gens := gs } → codeAny (model prog w) A (.compLoop (oneE p1 p2 p3 p4 p5 p6 p7 k iter scope) 0 (.ref a) (.ref D) cenv) R { s with heap := h', toks := tk, gens := gs }) :
    codeAny (model prog w) A (.compLoop (oneE p1 p2 p3 p4 p5 p6 p7 k iter scope) 0 (.ref a) (.ref D) cenv) R s := by
  obtain ⟨hg, ⟨j, mm, gs, hgs, F, hit, S⟩, ⟨n, hD⟩, ⟨m, hn⟩⟩ := st
  obtain ⟨oC, _, _, hoC, _⟩ := id F.ns
  subst hCc
  refine codeAny_of_tree ?_
  show wpAny _ A ((compTurn (oneE p1 p2 p3 p4 p5 p6 p7 k iter scope) 0 (.ref a) (.ref D) cenv).onRaise (fun x => do noteFrame x cenv; theTreesLotGoes x)) _ _ s
  refine wpAny_noted ?_
  rw [compTurn_list1]
  refine wpAny_bind (wpAny_standAt (wpAny_bind ?_))
  have r1 : Room A.in1 8 38 := r.of_in (by omega) (by omega)
  refine next_x r.handled (gd.lim.keeps F.keep) r.deep hg hgs (S A.in1 _ _ _ (r1.less (by omega) (by omega)) F hit ?_)
  intro h₁ tk₁ gs₁ mm₁ j₁ b₁ k₁ F₁ hit₁ S₁
  have hD₁ := k₁ D _ ap.DC ap.DI hD
  have hg₁ : h₁.IsGen a g := let ⟨o, nm, qn, ho, z⟩ := hg; ⟨o, nm, qn, k₁ a o ap.aC ap.aI ho, z⟩
  have hn₁ : h₁.Ns cenv.locals m := hn.at' fun o e => k₁ _ o ap.CcC ap.CcI e
  refine wpAny_bind (wpAny_of_eq (rfl : letOwnedTupleGo (.Name "one" p6) (.ref a) (.ref x) = pure ()) ?_)
  refine wpAny_bind (wpAny_assign_Name (wpAny_storeName_local e.2.1 hn₁ (fun h₂ hn₂ hs₂ => ?_) e.2.2))
  have up₂ : ∀ b o, b ≠ cenv.locals → h₁.get? b = some o → h₂.get? b = some o := fun b o hb e => hs₂.extBut b o hb e
  have hrC : ∀ b o, hr.get? b = some o → b ≠ cenv.locals := fun b o e z => by have q := ap.hCc; rw [← z, e] at q; cases q
  have hrD : ∀ b o, hr.get? b = some o → b ≠ D := fun b o e z => by have q := ap.hD; rw [← z, e] at q; cases q
  have F₂ : Fr hr C h₂ mm₁ := ⟨F₁.ns.at' fun o e => up₂ _ o (Ne.symm ap.CcC) e, fun b o e => up₂ b o (hrC b o e) (F₁.keep b o e), F₁.above⟩
  refine wpAny_bind ?_
  refine wpAny_bind (wpAny_Tuple_spliced ?_)
  refine wpAny_items_cons (Attribute_name (local_gen (mm := fun x_1 => if x_1 = PySem.Str.ofString "one" then some (Value.ref x) else m x_1) e.1 e.2.1 hn₂ (v := .ref x) (if_pos rfl) ?_))
  refine prop_code (r.less (by omega) (by omega)) F₂ gd.X gd.lim (F₂.keep _ _ hx) (F₂.keep _ _ hdx) fun h₃ tk₃ k₃ => ?_
  have F₃ := F₂.keeps k₃
  have hn₃ : h₃.Ns cenv.locals _ := hn₂.at' fun o e => k₃ _ o e
  refine wpAny_items_cons (Attribute_name (local_gen (mm := fun x_1 => if x_1 = PySem.Str.ofString "one" then some (Value.ref x) else m x_1) e.1 e.2.1 hn₃ (v := .ref x) (if_pos rfl) ?_))
  refine prop_value (r.less (by omega) (by omega)) F₃ gd.X gd.lim (F₃.keep _ _ hx) (F₃.keep _ _ hdx) fun h₄ tk₄ k₄ => ?_
  have F₄ := F₃.keeps k₄
  refine wpAny_items_nil ⟨by simp [sizeLine_eq], ?_⟩
  have up₅ : Ext h₄ (h₄.push { cls := .type "tuple", data := .seq [Value.int c t1, .str v t2].toArray }) := fun b o e => Heap.get?_push_of_some _ e
  have g₅ : (h₄.push { cls := .type "tuple", data := .seq [Value.int c t1, .str v t2].toArray }).get? h₄.objs.size = some { cls := .type "tuple", data := .seq #[Value.int c t1, .str v t2] } := Heap.get?_push_size _ rfl
  dsimp only
  generalize h₄.push { cls := .type "tuple", data := .seq [Value.int c t1, .str v t2].toArray } = h₅ at up₅ g₅ ⊢
  have F₅ := F₄.keeps up₅
  have two : Ext h₂ h₅ := fun b o e => up₅ b o (k₄ b o (k₃ b o e))
  have thru : ∀ b o, b ≠ C → b ≠ I → b ≠ cenv.locals → s.heap.get? b = some o → h₅.get? b = some o := fun b o q1 q2 q3 e => two b o (up₂ b o q3 (k₁ b o q1 q2 e))
  have hD₅ : h₅.get? D = some { cls := .type "list", data := .seq acc n } := two _ _ (up₂ _ _ ap.DCc hD₁)
  have u4 : ∀ {b : Addr} {o : Obj}, h₄.get? b = some o → h₄.objs.size ≠ b := fun e => Nat.ne_of_gt (Heap.lt_size e)
  have e₄ : ∀ b o, h₂.get? b = some o → h₄.get? b = some o := fun b o e => k₄ b o (k₃ b o e)
  obtain ⟨oC₄, _, _, hoC₄, _⟩ := id F₄.ns
  obtain ⟨oI, hoI, _⟩ := id hit₁
  obtain ⟨oN, _, _, hoN, _⟩ := id hn₂
  have uC : h₄.objs.size ≠ C := u4 hoC₄
  have uI : h₄.objs.size ≠ I := u4 (e₄ _ _ (up₂ _ _ (Ne.symm ap.CcI) hoI))
  have uN : h₄.objs.size ≠ cenv.locals := u4 (e₄ _ _ hoN)
  have uD : h₄.objs.size ≠ D := u4 (e₄ _ _ (up₂ _ _ ap.DCc hD₁))
  have ufresh : None' s.heap h₄.objs.size := fun o e => u4 (e₄ _ _ (up₂ _ _ uN (k₁ _ o uC uI e))) rfl
  refine wpAny_bind ?_
  have hl₅ : h₅.IsList D acc := ⟨_, hD₅, rfl, _, rfl⟩
  refine wpAny_call_entry slot_list_append (Heap.IsList.typeIs hl₅) entry_list_append ?_ (args_list_append _ _)
  show wpAny _ _ (updateSeq D (·.push (Value.ref h₄.objs.size)) >>= fun _ => ret .none) _ _ _
  refine wpAny_bind (wpAny_updateSeq hD₅ rfl (wpAny_pure ⟨.none, rfl, wpAny_pure (wpAny_pure ⟨rfl, ?_⟩)⟩) (by rw [sizeLine_eq]; omega) (by rw [Array.size_push, sizeLine_eq]; omega))
  have gD := Heap.get?_update_self (Obj.mapSeq (·.push (Value.ref h₄.objs.size))) hD₅ rfl
  have up₆ : ∀ b o, b ≠ D → h₅.get? b = some o → (h₅.update D (Obj.mapSeq (·.push (.ref h₄.objs.size)))).get? b = some o := fun b o hb e => (Heap.get?_update_other _ _ (Ne.symm hb)).trans e
  have gu := up₆ _ _ uD g₅
  have hdC : ∀ o, h₂.get? C = some o → h₅.get? C = some o := fun o e => two _ _ e
  have F₆ : Fr hr C (h₅.update D (Obj.mapSeq (·.push (.ref h₄.objs.size)))) mm₁ := ⟨F₅.ns.at' fun o e => up₆ _ o (Ne.symm ap.DC) e, fun b o e => up₆ b o (hrD b o e) (F₅.keep b o e), F₅.above⟩
  have two₆ : ∀ b o, b ≠ D → h₂.get? b = some o → (h₅.update D (Obj.mapSeq (·.push (.ref h₄.objs.size)))).get? b = some o := fun b o hb e => up₆ b o hb (two b o e)
  refine h h₄.objs.size _ _ _ (fun b o q1 q2 q3 q4 e => up₆ b o q3 (thru b o q1 q2 q4 e)) (fun B => ?_) gu ufresh uC uI uD uN ⟨?_, ⟨j₁, mm₁, gs₁, ?_, F₆, ?_, S₁⟩, ⟨_, gD⟩, ?_⟩
  · refine bare_gen (x := gs₁) ?_ b₁
    exact bare_gen (x := .running) B rfl
  · exact let ⟨o, nm, qn, ho, z⟩ := hg₁; ⟨o, nm, qn, two₆ a o (Ne.symm ap.Da) (up₂ a o (Ne.symm ap.Cca) ho), z⟩
  · exact setGen_self (gs := .running) (setGen_self hgs)
  · exact let ⟨o, ho, z⟩ := hit₁; ⟨o, two₆ I o (Ne.symm ap.DI) (up₂ I o (Ne.symm ap.CcI) ho), z⟩
  · exact ⟨_, hn₂.at' fun o e => two₆ _ o (Ne.symm ap.DCc) e⟩
theorem comp_end {cenv : Env} {scope : Scope} (r : Room A 8 40) (gd : Grd w hr) (ap : Apart hr C I a D Cc) (st : CI w hr C I t a g D Cc [] acc s)
    (h : ∀ h' gs, (∀ b o, b ≠ I → s.heap.get? b = some o → h'.get? b = some o) → (AllBare s.gens → AllBare gs) → R (.ok .next) { s with heap := h', gens := gs }) :
    codeAny (model prog w) A (.compLoop (oneE p1 p2 p3 p4 p5 p6 p7 k iter scope) 0 (.ref a) (.ref D) cenv) R s := by
  obtain ⟨hg, ⟨j, mm, gs, hgs, F, hit, S⟩, ⟨n, hD⟩, ⟨m, hn⟩⟩ := st
  refine codeAny_of_tree ?_
  show wpAny _ A ((compTurn (oneE p1 p2 p3 p4 p5 p6 p7 k iter scope) 0 (.ref a) (.ref D) cenv).onRaise (fun x => do noteFrame x cenv; theTreesLotGoes x)) _ _ s
  refine wpAny_noted ?_
  rw [compTurn_list1]
  refine wpAny_bind (wpAny_standAt (wpAny_bind ?_))
  have r1 : Room A.in1 8 38 := r.of_in (by omega) (by omega)
  refine next_x r.handled (gd.lim.keeps F.keep) r.deep hg hgs (S A.in1 _ _ _ (r1.less (by omega) (by omega)) F hit ?_)
  intro h₁ k₁ h₂ k₂
  refine wpAny_pure ?_
  refine h h₂ _ (fun b o hb e => k₂ b o (k₁ b o hb e)) fun B => ?_
  refine bare_gen (x := .finished) ?_ rfl
  exact bare_gen (x := .running) B rfl
end
end Mine
end -- N2

section -- N3
open PySem PySem.W PyProof.Rows PySem.Calls
open PySem.W.X (SegX wake_any SegX.mono)
namespace Mine
theorem fr_but {h₀ h h' : Heap} {L d : Addr} {m : PySem.Str → Option Value} (F : Fr h₀ L h m) (hd : h₀.get? d = none) (hL : d ≠ L) (k : ∀ b x, b ≠ d → h.get? b = some x → h'.get? b = some x) : Fr h₀ L h' m :=
  ⟨F.ns.at' fun o e => k L o (Ne.symm hL) e, fun b o e => k b o (fun z => by rw [z, hd] at e; cases e) (F.keep b o e), F.above⟩
theorem news_but {h₀ h h' : Heap} {L d : Addr} {o o' : Obj} {news news' : List (Addr × Obj)} (N : News h₀ L h news) (U : Upd d o o' news news') (k : ∀ b x, b ≠ d → h.get? b = some x → h'.get? b = some x) (hd : h'.get? d = some o') : News h₀ L h' news' := by
  obtain ⟨pre, post, rfl, rfl, a, b⟩ := U.split
  intro p hp
  rcases List.mem_append.mp hp with q | q
  · exact ⟨k _ _ (a p q) (N p (List.mem_append_left _ q)).1, (N p (List.mem_append_left _ q)).2⟩
  · rcases List.mem_cons.mp q with rfl | q
    · exact ⟨hd, (N (d, o) (by simp)).2⟩
    · exact ⟨k _ _ (b p q) (N p (List.mem_append_right _ (.tail _ q))).1, (N p (List.mem_append_right _ (.tail _ q))).2⟩
theorem upd_mem {d : Addr} {o o' : Obj} {news news' : List (Addr × Obj)} (U : Upd d o o' news news') : (d, o) ∈ news := by
  obtain ⟨pre, post, rfl, rfl, a, b⟩ := U.split
  simp
theorem not_tab {h₀ h : Heap} {L d x : Addr} {o : Obj} {ps : Array Value} {news : List (Addr × Obj)} (N : News h₀ L h news) (hd : (d, tabO ps) ∈ news) (hx : (x, o) ∈ news) (hc : o.cls ≠ .none) : x ≠ d := fun z => by
  have e := (N _ hx).1
  have e2 := (N _ hd).1
  have z' : h.get? x = h.get? d := by rw [show x = d from z]
  have e3 : o = tabO ps := Option.some.inj (e.symm.trans (z'.trans e2))
  exact hc (by rw [e3])
section
variable {w : World} {A : Around} {E : Value → Shared → Prop} {s : Shared} {x dx y dy t dt I C a L : Addr} {hr h₀ : Heap} {m : PySem.Str → Option Value} {c c2 : Int} {v v2 : PySem.Str} {t1 t2 t3 t4 : Tok} {ps : Array Value} {n : Nat} {news : List (Addr × Obj)} {news' : Array Value → List (Addr × Obj)}
variable {p : Program} {loose : List PySem.Str} {mean : ExcName → Option Value} {mg mb : PySem.Str → Option Value}
theorem hide_in {d : Addr} {o : Obj} (N : News h₀ L s.heap news) (hd : (d, tabO ps) ∈ news) (hx : (x, o) ∈ news) (hc : o.cls ≠ .none) : (s.heap.hide d).get? x = some o :=
  (Heap.hide_ne _ (not_tab N hd hx hc)).trans (N _ hx).1
theorem hide_grd {d : Addr} (F : Fr h₀ L s.heap m) (X : (hd.heap_39 w.params).In h₀) (T : Top p loose mean mg mb h₀) (N : News h₀ L s.heap news) (hd : (d, tabO ps) ∈ news) : Grd w (s.heap.hide d) :=
  (grd_of X T).keeps fun b o e => (Heap.hide_ne _ (fun z => by have := (N _ hd).2.2; rw [← z, e] at this; cases this)).trans (F.keep b o e)
theorem call_219K {Q : Value → Shared → Prop} (r : Room A 8 40) (F : Fr h₀ L s.heap m) (X : (hd.heap_39 w.params).In h₀) (T : Top p loose mean mg mb h₀) (N : News h₀ L s.heap news) (U : ∀ ps', Upd 214 (tabO ps) (tabO ps') news (news' ps')) (ok : TriplesOk ps.toList)
    (ht : (t, tagsObj dt #[.ref x] n) ∈ news) (hdt : (dt, dictOf [] 0) ∈ news) (hx : (x, tagObj dx c t1 v t2) ∈ news) (hdx : (dx, dictOf [] 0) ∈ news) (G : AllBare s.gens)
    (h : ∀ ps' h' tk gs, TriplesOk ps'.toList → Fr h₀ L h' m → News h₀ L h' (news' ps') → AllBare gs → Q (.bool (decide (c ∈ xdL))) { s with heap := h', toks := tk, gens := gs }) :
    wpAny (model prog w) A (PySem.call (.ref 219) [.ref t]) Q E s := by
  have hm := upd_mem (U ps)
  refine call_219 (ps := ps) r (hide_grd F X T N hm) (fun b o e => Heap.of_hide e) (Nat.le_of_eq (Heap.hide_size _ _)) (Heap.hide_self _ _) ⟨(N _ hm).1, ok⟩ ⟨dt, n, hide_in N hm ht (fun z => nomatch z), hide_in N hm hdt (fun z => nomatch z)⟩ (hide_in N hm hx (fun z => nomatch z)) (hide_in N hm hdx (fun z => nomatch z)) ?_
  intro h' tk gs ps' k T' B
  exact h ps' h' tk gs T'.ok (fr_but F (N _ hm).2.2 (N _ hm).2.1 k) (news_but N (U ps') k T'.at_) (B G)
/-- the filtering generator, within a ledger -/
def GenK (w : World) (h₀ : Heap) (L : Addr) (news : List (Addr × Obj)) (c : Int) (t1 : Tok) (v : PySem.Str) (t2 : Tok) (c2 : Int) (t3 : Tok) (v2 : PySem.Str) (t4 : Tok) (s : Shared) (a : Addr) : Prop :=
  ∃ hr g C I t mm gs x dx y dy, s.heap.IsGen a g ∧ s.gens[g]? = some gs ∧ Fr hr C s.heap mm ∧ s.heap.IsListIter I t 0 ∧ SpecC w hr C I t (if c ∈ xdL then [x, y] else [y]) 0 mm gs ∧ a ≠ C ∧ a ≠ I ∧ I ≠ C ∧ hr.get? I = none ∧
    Grd w hr ∧ hr.get? x = some (tagObj dx c t1 v t2) ∧ hr.get? dx = some (dictOf [] 0) ∧ hr.get? y = some (tagObj dy c2 t3 v2 t4) ∧ hr.get? dy = some (dictOf [] 0) ∧
    L ≠ C ∧ L ≠ I ∧ h₀.get? C = none ∧ h₀.get? I = none ∧ ∀ p ∈ news, p.1 ≠ C ∧ p.1 ≠ I
theorem upd_addr {d : Addr} {o o' : Obj} {l l' : List (Addr × Obj)} (U : Upd d o o' l l') : ∀ q ∈ l', ∃ o, (q.1, o) ∈ l := by
  obtain ⟨pre, post, rfl, rfl, a, b⟩ := U.split
  intro q hq
  rcases List.mem_append.mp hq with z | z
  · exact ⟨q.2, List.mem_append_left _ z⟩
  · rcases List.mem_cons.mp z with rfl | z
    · exact ⟨o, by simp⟩
    · exact ⟨q.2, List.mem_append_right _ (.tail _ z)⟩
theorem call_226K {Q : Value → Shared → Prop} (r : Room A 8 40) (F : Fr h₀ L s.heap m) (X : (hd.heap_39 w.params).In h₀) (T : Top p loose mean mg mb h₀) (N : News h₀ L s.heap news) (U : ∀ ps', Upd 221 (tabO ps) (tabO ps') news (news' ps')) (ok : TriplesOk ps.toList)
    (ht : (t, tagsObj dt #[.ref x, .ref y] n) ∈ news) (hdt : (dt, dictOf [] 0) ∈ news) (hx : (x, tagObj dx c t1 v t2) ∈ news) (hdx : (dx, dictOf [] 0) ∈ news) (hy : (y, tagObj dy c2 t3 v2 t4) ∈ news) (hdy : (dy, dictOf [] 0) ∈ news) (hc2 : c2 ∈ xdL) (G : AllBare s.gens)
    (h : ∀ a ps' h' tk gs, TriplesOk ps'.toList → Fr h₀ L h' m → News h₀ L h' (news' ps') → AllBare gs → GenK w h₀ L (news' ps') c t1 v t2 c2 t3 v2 t4 { s with heap := h', toks := tk, gens := gs } a → Q (.ref a) { s with heap := h', toks := tk, gens := gs }) :
    wpAny (model prog w) A (PySem.call (.ref 226) [.ref t]) Q E s := by
  have hm := upd_mem (U ps)
  have gd := hide_grd F X T N hm
  have hx' := hide_in N hm hx (fun z => nomatch z)
  have hdx' := hide_in N hm hdx (fun z => nomatch z)
  have hy' := hide_in N hm hy (fun z => nomatch z)
  have hdy' := hide_in N hm hdy (fun z => nomatch z)
  refine call_226 (ps := ps) r gd (fun b o e => Heap.of_hide e) (Nat.le_of_eq (Heap.hide_size _ _)) (Heap.hide_self _ _) ⟨(N _ hm).1, ok⟩ ⟨dt, n, hide_in N hm ht (fun z => nomatch z), hide_in N hm hdt (fun z => nomatch z)⟩ hx' hdx' hy' hdy' hc2 ?_
  intro a h' tk gs ps' k T' B R
  obtain ⟨g, C, I, t', mm, gs', e1, e2, e3, e4, e5, nC, nI, e6, e7, e8, e9⟩ := R.ex
  obtain ⟨oL, _, _, hoL, _⟩ := id F.ns
  refine h a ps' h' tk gs T'.ok (fr_but F (N _ hm).2.2 (N _ hm).2.1 k) (news_but N (U ps') k T'.at_) (B G) ⟨_, g, C, I, t', mm, gs', x, dx, y, dy, e1, e2, e3, e4, e5, e6, e7, e8, e9, gd, hx', hdx', hy', hdy', ?_, ?_, ?_, ?_, ?_⟩
  · exact fun z => nC oL (z ▸ hoL)
  · exact fun z => nI oL (z ▸ hoL)
  · cases e : h₀.get? C with
    | none => rfl
    | some o => exact absurd (F.keep _ _ e) (nC o)
  · cases e : h₀.get? I with
    | none => rfl
    | some o => exact absurd (F.keep _ _ e) (nI o)
  · intro q hq
    obtain ⟨o, ho⟩ := upd_addr (U ps') q hq
    have e := (N _ ho).1
    exact ⟨fun z => nC o (by rw [← z]; exact e), fun z => nI o (by rw [← z]; exact e)⟩
/-- what is left of the comprehension once its source is known -/
def CompK (w : World) (A : Around) (env : Env) (scope : Scope) (p1 p2 p3 p4 p5 p6 p7 : Pos) (k : Nat) (iter : PySem.Expr) (Q : Value → Shared → Prop) (E : Value → Shared → Prop) (v : Value) (s : Shared) : Prop :=
  wpAny (model prog w) A (pyIter v) (fun it s₂ => wpAny (model prog w) A (newList []) (fun acc s₃ => wpAny (model prog w) A (newFunctionEnv scope env.globals [] [] env.qual none .none (some env)) (fun cenv s₄ =>
    codeAny (model prog w) A (.compStart (oneE p1 p2 p3 p4 p5 p6 p7 k iter scope) 0 it acc { cenv with scope := scope }) (fun r s' => ∃ m, s'.heap.Ns cenv.locals m ∧ ∀ h', Heap.SameBut cenv.locals s'.heap h' →
      match r with | .ok _ => Q acc { s' with heap := h' } | .error x => wpAny (model prog w) A (PySem.passOn "comprehension.variables-let-go" x { cenv with scope := scope }) Q E { s' with heap := h' }) s₄) E s₃) E s₂) E s
variable {env : Env} {scope : Scope} {p1 p2 p3 p4 p5 p6 p7 : Pos} {k : Nat} {iter : PySem.Expr} {Q : Value → Shared → Prop}
theorem comp_begin (hfree : ∀ x ∈ scope.names, x.2 ≠ .free) (hkind : scope.kind = .function) (hnames : ∀ x ∈ scope.names, x.2 = .local → scope.names.lookup x.1 = some .local)
    (hs : ∀ x, foldedSetIterable iter env x = pure x) (h : wpAny (model prog w) A (eval iter env) (CompK w A env scope p1 p2 p3 p4 p5 p6 p7 k iter Q E) E s) :
    wpAny (model prog w) A (eval (oneE p1 p2 p3 p4 p5 p6 p7 k iter scope) env) Q E s :=
  wpAny_ListComp hfree hkind hnames h hs
theorem comp_fin (hcell : ∀ x ∈ scope.names, x.2 ≠ .cell) (hkind : scope.kind = .function) (hx : scope.names.lookup (PySem.Str.ofString "one") = some .local) (r : Room A 8 40) (F : Fr h₀ L s.heap m) (N : News h₀ L s.heap news) (G : AllBare s.gens) (R : GenK w h₀ L news c t1 v t2 c2 t3 v2 t4 s a)
    (h1 : c ∈ xdL → ∀ l n u1 u2 h' tk gs, Fr h₀ L h' m → News h₀ L h' ((l, ({ cls := .type "list", data := .seq [Value.ref u1, .ref u2].toArray n } : Obj)) :: (u1, ({ cls := .type "tuple", data := .seq [Value.int c t1, .str v t2].toArray } : Obj)) :: (u2, ({ cls := .type "tuple", data := .seq [Value.int c2 t3, .str v2 t4].toArray } : Obj)) :: news) → AllBare gs → Q (.ref l) { s with heap := h', toks := tk, gens := gs })
    (h2 : c ∉ xdL → ∀ l n u2 h' tk gs, Fr h₀ L h' m → News h₀ L h' ((l, ({ cls := .type "list", data := .seq [Value.ref u2].toArray n } : Obj)) :: (u2, ({ cls := .type "tuple", data := .seq [Value.int c2 t3, .str v2 t4].toArray } : Obj)) :: news) → AllBare gs → Q (.ref l) { s with heap := h', toks := tk, gens := gs }) :
    CompK w A env scope p1 p2 p3 p4 p5 p6 p7 k iter Q E (.ref a) s := by
  obtain ⟨hr, g, C, I, t, mm, gs, x, dx, y, dy, hg, hgs, FC, hit, S, aC, aI, IC, hI, gd, hx', hdx', hy', hdy', LC, LI, h0C, h0I, ne⟩ := R
  unfold CompK
  refine wpAny_pyIter_gen hg (wpAny_newList (wpAny_newFunctionEnv hcell (by intro y hy; simp at hy) (fun h₁ hns₁ hsb₁ => ?_) hkind))
  dsimp only at hns₁ hsb₁ ⊢
  generalize hH1 : s.heap.push { cls := .type "list", dict := none, data := .seq ([] : List Value).toArray } = H1 at hns₁ hsb₁ ⊢
  have sH1 : H1.objs.size = s.heap.objs.size + 1 := by rw [← hH1, Heap.size_push]
  have old : Ext s.heap h₁ := fun b o e => hsb₁.extBut b o (by rw [sH1]; exact Nat.ne_of_lt (Nat.lt_succ_of_lt (Heap.lt_size e))) (Heap.get?_push_of_some _ (by rw [← hH1]; exact Heap.get?_push_of_some _ e))
  have gD : h₁.get? s.heap.objs.size = some { cls := .type "list", data := .seq #[] } := hsb₁.extBut _ _ (by rw [sH1]; exact Nat.ne_of_lt (Nat.lt_succ_self _)) (Heap.get?_push_of_some _ (by rw [← hH1]; exact Heap.get?_push_size _ rfl))
  obtain ⟨oC, _, _, hoC, _⟩ := id FC.ns
  obtain ⟨oI, hoI, _⟩ := id hit
  have hit' : h₁.IsListIter I t 0 := let ⟨o, ho, z⟩ := hit; ⟨o, old _ _ ho, z⟩
  obtain ⟨oa, _, _, hoa, _⟩ := id hg
  obtain ⟨oL, _, _, hoL, _⟩ := id F.ns
  have lC := Heap.lt_size hoC
  have lI := Heap.lt_size hoI
  have la := Heap.lt_size hoa
  have lL := Heap.lt_size hoL
  have up : ∀ {b : Addr}, hr.get? b = none ∨ ∃ o, hr.get? b = some o := fun {b} => by cases e : hr.get? b; exact .inl rfl; exact .inr ⟨_, rfl⟩
  have big : ∀ {b : Addr}, s.heap.objs.size ≤ b → hr.get? b = none := fun {b} hb => by
    cases e : hr.get? b with
    | none => rfl
    | some o => exact absurd (Heap.lt_size (FC.keep _ _ e)) (Nat.not_lt_of_le hb)
  have ap : Apart hr C I a s.heap.objs.size H1.objs.size :=
    ⟨aC, aI, IC, Nat.ne_of_gt lC, Nat.ne_of_gt lI, Nat.ne_of_gt la, by rw [sH1]; exact Nat.ne_of_lt (Nat.lt_succ_self _), by rw [sH1]; exact Nat.ne_of_gt (Nat.lt_succ_of_lt lC), by rw [sH1]; exact Nat.ne_of_gt (Nat.lt_succ_of_lt lI), by rw [sH1]; exact Nat.ne_of_gt (Nat.lt_succ_of_lt la), hI, big (Nat.le_refl _), big (by rw [sH1]; exact Nat.le_succ _)⟩
  have st : ∀ tk, CI w hr C I t a g s.heap.objs.size H1.objs.size (if c ∈ xdL then [x, y] else [y]) #[] { s with heap := h₁, toks := tk } := fun tk =>
    ⟨hg.keeps old, ⟨0, mm, gs, hgs, FC.keeps old, hit', S⟩, ⟨_, gD⟩, ⟨_, hns₁⟩⟩
  have fin : ∀ {b : Addr} {o : Obj}, s.heap.get? b = some o → b ≠ s.heap.objs.size ∧ b ≠ H1.objs.size := fun e => ⟨Nat.ne_of_lt (Heap.lt_size e), by rw [sH1]; exact Nat.ne_of_lt (Nat.lt_succ_of_lt (Heap.lt_size e))⟩
  have e : oneC (compEnv scope H1.objs.size env) := ⟨hkind, hx, by simp [compEnv, hkind]⟩
  have h0k : ∀ b o, h₀.get? b = some o → b ≠ C ∧ b ≠ I := fun b o q => ⟨fun z => (by rw [z, h0C] at q; cases q), fun z => (by rw [z, h0I] at q; cases q)⟩
  have none0 : ∀ {b : Addr}, (∀ o, h₀.get? b ≠ some o) → h₀.get? b = none := fun {b} hb => by
    cases q : h₀.get? b with
    | none => rfl
    | some o => exact absurd q (hb o)
  have hD0 : h₀.get? s.heap.objs.size = none := none0 fun o q => Nat.lt_irrefl _ (Heap.lt_size (F.keep _ _ q))
  have loop : ∀ tk, codeAny (model prog w) A (.compLoop (oneE p1 p2 p3 p4 p5 p6 p7 k iter scope) 0 (.ref a) (.ref s.heap.objs.size) (compEnv scope H1.objs.size env))
      (fun r s' => ∃ m, s'.heap.Ns H1.objs.size m ∧ ∀ h', Heap.SameBut H1.objs.size s'.heap h' →
      match r with | .ok _ => Q (.ref s.heap.objs.size) { s' with heap := h' } | .error x => wpAny (model prog w) A (PySem.passOn "comprehension.variables-let-go" x (compEnv scope H1.objs.size env)) Q E { s' with heap := h' }) { s with heap := h₁, toks := tk } := by
    intro tk
    have st' := st tk
    by_cases hv : c ∈ xdL
    · rw [if_pos hv] at st'
      refine comp_turn e rfl r gd ap st' (by simp) hx' hdx' ?_
      intro u1 h₂ tk₂ gs₂ k₂ B₂ gu1 n1 u1C u1I u1D u1N st₂
      refine comp_turn e rfl r gd ap st₂ (by simp) hy' hdy' ?_
      intro u2 h₃ tk₃ gs₃ k₃ B₃ gu2 n2 u2C u2I u2D u2N st₃
      obtain ⟨n, gD₃⟩ := st₃.acc
      obtain ⟨m₃, hn₃⟩ := st₃.ns
      refine comp_end r gd ap st₃ fun h₄ gs₄ k₄ B₄ => ?_
      refine ⟨m₃, hn₃.at' fun o e => k₄ _ o ap.CcI e, fun h₅ hs₅ => ?_⟩
      have k₅ : ∀ b o, b ≠ H1.objs.size → h₄.get? b = some o → h₅.get? b = some o := fun b o hb e => hs₅.extBut b o hb e
      have a2 : ∀ b o, b ≠ C → b ≠ I → s.heap.get? b = some o → h₂.get? b = some o := fun b o q1 q2 e => k₂ b o q1 q2 (fin e).1 (fin e).2 (old b o e)
      have all : ∀ b o, b ≠ C → b ≠ I → s.heap.get? b = some o → h₅.get? b = some o := fun b o q1 q2 e => k₅ b o (fin e).2 (k₄ b o q2 (k₃ b o q1 q2 (fin e).1 (fin e).2 (a2 b o q1 q2 e)))
      refine h1 hv s.heap.objs.size n u1 u2 h₅ _ _ ⟨F.ns.at' fun o e => all L o LC LI e, fun b o e => all b o (h0k b o e).1 (h0k b o e).2 (F.keep b o e), F.above⟩ ?_ (B₄ (B₃ (B₂ G)))
      intro q hq
      rcases List.mem_cons.mp hq with rfl | hq
      · exact ⟨k₅ _ _ ap.DCc (k₄ _ _ ap.DI gD₃), Nat.ne_of_gt lL, hD0⟩
      rcases List.mem_cons.mp hq with rfl | hq
      · exact ⟨k₅ _ _ u1N (k₄ _ _ u1I (k₃ _ _ u1C u1I u1D u1N gu1)), fun z => n1 oL (by rw [show u1 = L from z]; exact old _ _ hoL), none0 fun o q => n1 o (old _ _ (F.keep _ _ q))⟩
      rcases List.mem_cons.mp hq with rfl | hq
      · exact ⟨k₅ _ _ u2N (k₄ _ _ u2I gu2), fun z => n2 oL (by rw [show u2 = L from z]; exact a2 _ _ LC LI hoL), none0 fun o q => n2 o (a2 _ _ (h0k _ _ q).1 (h0k _ _ q).2 (F.keep _ _ q))⟩
      · exact ⟨all _ _ (ne q hq).1 (ne q hq).2 (N q hq).1, (N q hq).2⟩
    · rw [if_neg hv] at st'
      refine comp_turn e rfl r gd ap st' (by simp) hy' hdy' ?_
      intro u2 h₃ tk₃ gs₃ k₃ B₃ gu2 n2 u2C u2I u2D u2N st₃
      obtain ⟨n, gD₃⟩ := st₃.acc
      obtain ⟨m₃, hn₃⟩ := st₃.ns
      refine comp_end r gd ap st₃ fun h₄ gs₄ k₄ B₄ => ?_
      refine ⟨m₃, hn₃.at' fun o e => k₄ _ o ap.CcI e, fun h₅ hs₅ => ?_⟩
      have k₅ : ∀ b o, b ≠ H1.objs.size → h₄.get? b = some o → h₅.get? b = some o := fun b o hb e => hs₅.extBut b o hb e
      have all : ∀ b o, b ≠ C → b ≠ I → s.heap.get? b = some o → h₅.get? b = some o := fun b o q1 q2 e => k₅ b o (fin e).2 (k₄ b o q2 (k₃ b o q1 q2 (fin e).1 (fin e).2 (old b o e)))
      refine h2 hv s.heap.objs.size n u2 h₅ _ _ ⟨F.ns.at' fun o e => all L o LC LI e, fun b o e => all b o (h0k b o e).1 (h0k b o e).2 (F.keep b o e), F.above⟩ ?_ (B₄ (B₃ G))
      intro q hq
      rcases List.mem_cons.mp hq with rfl | hq
      · exact ⟨k₅ _ _ ap.DCc (k₄ _ _ ap.DI gD₃), Nat.ne_of_gt lL, hD0⟩
      rcases List.mem_cons.mp hq with rfl | hq
      · exact ⟨k₅ _ _ u2N (k₄ _ _ u2I gu2), fun z => n2 oL (by rw [show u2 = L from z]; exact old _ _ hoL), none0 fun o q => n2 o (old _ _ (F.keep _ _ q))⟩
      · exact ⟨all _ _ (ne q hq).1 (ne q hq).2 (N q hq).1, (N q hq).2⟩
  exact codeAny_compStart_list (loop _) (wpAny_pyIter_gen (hg.keeps old) (loop _))
end
end Mine
end -- N3

section -- X4
open PySem PySem.W PySem.W.X PySem.W.XRun PyProof.Rows
namespace Mine
local macro_rules | `(tactic| x_close) => `(tactic| (refine And.intro ?_ (Pure.of_mem (by assumption)); first | rfl | (refine dec_bool ?_; simp only [Bool.false_eq_true, iff_false, iff_true]; omega)))
section
variable (w : World) (h : Heap) (g : Array GenState) (d : Drawn) (tk : Nat) (os : OsState) (K : (hd.heap_39 w.params).In h) (a dx : Addr) (code : Int) (v : PySem.Str) (t1 t2 : Tok)
include K
theorem c149 (hx : h.get? a = some (tagObj dx code t1 v t2)) (lo : -10 ≤ code) (hi : code ≤ 1110) :
   wpAny (model prog w) AX (call (.ref 149) [.ref a]) (fun v s' => v = .bool (decide (320 ≤ code ∧ code ≤ 329)) ∧ Pure ⟨h, g, d, tk, os⟩ s') (fun _ _ => False) ⟨h, g, d, tk, os⟩ := by
  unfold tagObj at hx
  x_run
theorem c156 (hx : h.get? a = some (tagObj dx code t1 v t2)) (lo : -10 ≤ code) (hi : code ≤ 1110) :
   wpAny (model prog w) AX (call (.ref 156) [.ref a]) (fun v s' => v = .bool (decide ((330 ≤ code ∧ code ≤ 339) ∨ code = 1005)) ∧ Pure ⟨h, g, d, tk, os⟩ s') (fun _ _ => False) ⟨h, g, d, tk, os⟩ := by
  unfold tagObj at hx
  x_run
theorem c163 (hx : h.get? a = some (tagObj dx code t1 v t2)) (lo : -10 ≤ code) (hi : code ≤ 1110) :
   wpAny (model prog w) AX (call (.ref 163) [.ref a]) (fun v s' => v = .bool (decide ((340 ≤ code ∧ code ≤ 349) ∨ (390 ≤ code ∧ code ≤ 399) ∨ code = 480 ∨ code = 481)) ∧ Pure ⟨h, g, d, tk, os⟩ s') (fun _ _ => False) ⟨h, g, d, tk, os⟩ := by
  unfold tagObj at hx
  x_run
theorem c170 (hx : h.get? a = some (tagObj dx code t1 v t2)) (lo : -10 ≤ code) (hi : code ≤ 1110) :
   wpAny (model prog w) AX (call (.ref 170) [.ref a]) (fun v s' => v = .bool (decide (350 ≤ code ∧ code ≤ 359)) ∧ Pure ⟨h, g, d, tk, os⟩ s') (fun _ _ => False) ⟨h, g, d, tk, os⟩ := by
  unfold tagObj at hx
  x_run
theorem c177 (hx : h.get? a = some (tagObj dx code t1 v t2)) (lo : -10 ≤ code) (hi : code ≤ 1110) :
   wpAny (model prog w) AX (call (.ref 177) [.ref a]) (fun v s' => v = .bool (decide (360 ≤ code ∧ code ≤ 369)) ∧ Pure ⟨h, g, d, tk, os⟩ s') (fun _ _ => False) ⟨h, g, d, tk, os⟩ := by
  unfold tagObj at hx
  x_run
end
end Mine
end -- X4

section -- X5
open PySem PySem.W PySem.W.X PySem.W.XRun PyProof.Rows
namespace Mine
structure NewList (s : Shared) (items : List Value) (r : Value) (s' : Shared) : Prop where
  at_ : ∃ l n, r = .ref l ∧ s'.heap.get? l = some (W.listOf items.toArray n) ∧ s.heap.get? l = none
  pure : Pure s s'
theorem NewList.of_mem {h h' : Heap} {g d t t' os} {l : Addr} {n : Nat} {items : List Value} {fr : Addr × Obj} (D : Mem h h' [] [(l, W.listOf items.toArray n), fr]) : NewList ⟨h, g, d, t, os⟩ items (.ref l) ⟨h', g, d, t', os⟩ :=
  ⟨⟨l, n, rfl, (D.nw _ (.head _)).1, (D.nw _ (.head _)).2⟩, Pure.of_mem D⟩
theorem bool5 {b1 b2 b3 b4 b5 c1 c2 c3 c4 c5 : Bool} (h1 : b1 = c1) (h2 : b2 = c2) (h3 : b3 = c3) (h4 : b4 = c4) (h5 : b5 = c5) : [Value.bool b1, .bool b2, .bool b3, .bool b4, .bool b5] = [Value.bool c1, .bool c2, .bool c3, .bool c4, .bool c5] := by
  rw [h1, h2, h3, h4, h5]
theorem dec_is {p : Prop} [Decidable p] {b : Bool} (h : p ↔ b = true) : decide p = b := by
  by_cases q : p
  · rw [decide_eq_true q, h.mp q]
  · rw [decide_eq_false q]
    cases b with
    | false => rfl
    | true => exact absurd (h.mpr rfl) q
theorem NewList.of5 {h h' : Heap} {g d t t' os} {l : Addr} {n : Nat} {fr : Addr × Obj} {b1 b2 b3 b4 b5 c1 c2 c3 c4 c5 : Bool} (D : Mem h h' [] [(l, W.listOf [Value.bool b1, .bool b2, .bool b3, .bool b4, .bool b5].toArray n), fr])
    (h1 : c1 = b1) (h2 : c2 = b2) (h3 : c3 = b3) (h4 : c4 = b4) (h5 : c5 = b5) : NewList ⟨h, g, d, t, os⟩ [Value.bool c1, .bool c2, .bool c3, .bool c4, .bool c5] (.ref l) ⟨h', g, d, t', os⟩ := by
  rw [h1, h2, h3, h4, h5]
  exact NewList.of_mem D
local macro_rules | `(tactic| x_close) => `(tactic| (refine NewList.of5 (by assumption) (dec_is ?_) (dec_is ?_) (dec_is ?_) (dec_is ?_) (dec_is ?_) <;> (first | ((try dsimp only); (try simp only [beq_iff_eq, decide_eq_true_eq, Bool.false_eq_true, iff_false, iff_true]); omega) | (trace_state; fail "no"))))
section
variable (w : World) (h : Heap) (g : Array GenState) (d : Drawn) (tk : Nat) (os : OsState) (K : (hd.heap_39 w.params).In h) (a dx : Addr) (code : Int) (v : PySem.Str) (t1 t2 : Tok)
include K
theorem c465 (lo : -10 ≤ code) (hi : code ≤ 1110) :
   wpAny (model prog w) AX (call (.ref 465) [.int code t1]) (fun r s' => NewList ⟨h, g, d, tk, os⟩ [.bool (decide (320 ≤ code ∧ code ≤ 329)), .bool (decide ((330 ≤ code ∧ code ≤ 339) ∨ code = 1005)), .bool (decide ((340 ≤ code ∧ code ≤ 349) ∨ (390 ≤ code ∧ code ≤ 399) ∨ code = 480 ∨ code = 481)), .bool (decide (350 ≤ code ∧ code ≤ 359)), .bool (decide (360 ≤ code ∧ code ≤ 369))] r s') (fun _ _ => False) ⟨h, g, d, tk, os⟩ := by
  x_run
end
end Mine
end -- X5

section -- X8
open PySem PySem.W PySem.W.X PySem.W.XRun PyProof.Rows
namespace Mine
theorem str_ext {a b : PySem.Str} (h : a.cps = b.cps) : a = b := by
  cases a; cases b; congr
theorem emb_lit : (PySem.Str.ofString "Embedded Object").cps.toList = [69, 109, 98, 101, 100, 100, 101, 100, 32, 79, 98, 106, 101, 99, 116] := by decide +kernel
theorem emb_tt {v : PySem.Str} (hv : List.beq v.cps.toList [69, 109, 98, 101, 100, 100, 101, 100, 32, 79, 98, 106, 101, 99, 116] = true) : v = PySem.Str.ofString "Embedded Object" := by
  have e : v.cps.toList = (PySem.Str.ofString "Embedded Object").cps.toList := (eq_of_beq (α := List Nat) hv).trans emb_lit.symm
  exact str_ext (Array.ext' e)
theorem emb_ff {v : PySem.Str} (hv : List.beq v.cps.toList [69, 109, 98, 101, 100, 100, 101, 100, 32, 79, 98, 106, 101, 99, 116] = false) : ¬ v = PySem.Str.ofString "Embedded Object" := by
  intro e
  rw [e, emb_lit] at hv
  exact Bool.noConfusion hv
section
variable (w : World) (h : Heap) (g : Array GenState) (d : Drawn) (tk : Nat) (os : OsState) (K : (hd.heap_39 w.params).In h) (a t dt dx : Addr) (code : Int) (n : Nat) (v : PySem.Str) (t1 t2 : Tok)
include K
section
local macro_rules | `(tactic| x_close) => `(tactic| (refine And.intro ?_ (Pure.of_mem (by assumption)); first | exact congrArg Value.bool (decide_eq_false (fun q => absurd q.1 (by assumption))).symm | exact congrArg Value.bool (decide_eq_true (And.intro (by assumption) (emb_tt (by set_option smartUnfolding false in with_unfolding_all assumption)))).symm | exact congrArg Value.bool (decide_eq_false (fun q => emb_ff (by set_option smartUnfolding false in with_unfolding_all assumption) q.2)).symm))
theorem c384 (ht : h.get? t = some (tagsObj dt #[.ref a] n)) (hdt : h.get? dt = some (dictOf [] 0)) (hx : h.get? a = some (tagObj dx code t1 v t2)) (hdx : h.get? dx = some (dictOf [] 0)) :
   wpAny (model prog w) AX (call (.ref 384) [.ref t]) (fun r s' => r = .bool (decide (code = 101 ∧ v = PySem.Str.ofString "Embedded Object")) ∧ Pure ⟨h, g, d, tk, os⟩ s') (fun _ _ => False) ⟨h, g, d, tk, os⟩ := by
  unfold tagObj at hx
  unfold tagsObj at ht
  x_run
end
end
end Mine
end -- X8

section -- N4
open PySem PySem.W PyProof.Rows PySem.Calls
namespace Mine
section
variable {w : World} {A : Around} {E : Value → Shared → Prop} {s : Shared} {x dx y dy t dt l L : Addr} {hr h₀ : Heap} {m : PySem.Str → Option Value} {c : Int} {v : PySem.Str} {t1 t2 : Tok} {n : Nat} {news : List (Addr × Obj)} {Q : Value → Shared → Prop}
theorem pureK {M : Model} {tm : Sem Value} {r : Value} (f : Fit A) (F : Fr h₀ L s.heap m) (N : News h₀ L s.heap news) (cc : wpAny M AX tm (fun v s' => v = r ∧ Pure s s') (fun _ _ => False) s)
    (h : ∀ h' tk, Fr h₀ L h' m → News h₀ L h' news → Q r { s with heap := h', toks := tk }) : wpAny M A tm Q E s :=
  f.pure cc fun h' tk k => h h' tk (F.keeps k) (N.grown k)
theorem k149 (f : Fit A) (F : Fr h₀ L s.heap m) (X : (hd.heap_39 w.params).In h₀) (N : News h₀ L s.heap news) (hx : (x, tagObj dx c t1 v t2) ∈ news) (lo : -10 ≤ c) (hi : c ≤ 1110)
    (h : ∀ h' tk, Fr h₀ L h' m → News h₀ L h' news → Q (.bool (decide (320 ≤ c ∧ c ≤ 329))) { s with heap := h', toks := tk }) : wpAny (model prog w) A (PySem.call (.ref 149) [.ref x]) Q E s :=
  pureK f F N (c149 w s.heap s.gens s.drawn s.toks s.os (X.keeps F.keep) x dx c v t1 t2 (N.get hx) lo hi) h
theorem k156 (f : Fit A) (F : Fr h₀ L s.heap m) (X : (hd.heap_39 w.params).In h₀) (N : News h₀ L s.heap news) (hx : (x, tagObj dx c t1 v t2) ∈ news) (lo : -10 ≤ c) (hi : c ≤ 1110)
    (h : ∀ h' tk, Fr h₀ L h' m → News h₀ L h' news → Q (.bool (decide ((330 ≤ c ∧ c ≤ 339) ∨ c = 1005))) { s with heap := h', toks := tk }) : wpAny (model prog w) A (PySem.call (.ref 156) [.ref x]) Q E s :=
  pureK f F N (c156 w s.heap s.gens s.drawn s.toks s.os (X.keeps F.keep) x dx c v t1 t2 (N.get hx) lo hi) h
theorem k163 (f : Fit A) (F : Fr h₀ L s.heap m) (X : (hd.heap_39 w.params).In h₀) (N : News h₀ L s.heap news) (hx : (x, tagObj dx c t1 v t2) ∈ news) (lo : -10 ≤ c) (hi : c ≤ 1110)
    (h : ∀ h' tk, Fr h₀ L h' m → News h₀ L h' news → Q (.bool (decide ((340 ≤ c ∧ c ≤ 349) ∨ (390 ≤ c ∧ c ≤ 399) ∨ c = 480 ∨ c = 481))) { s with heap := h', toks := tk }) : wpAny (model prog w) A (PySem.call (.ref 163) [.ref x]) Q E s :=
  pureK f F N (c163 w s.heap s.gens s.drawn s.toks s.os (X.keeps F.keep) x dx c v t1 t2 (N.get hx) lo hi) h
theorem k170 (f : Fit A) (F : Fr h₀ L s.heap m) (X : (hd.heap_39 w.params).In h₀) (N : News h₀ L s.heap news) (hx : (x, tagObj dx c t1 v t2) ∈ news) (lo : -10 ≤ c) (hi : c ≤ 1110)
    (h : ∀ h' tk, Fr h₀ L h' m → News h₀ L h' news → Q (.bool (decide (350 ≤ c ∧ c ≤ 359))) { s with heap := h', toks := tk }) : wpAny (model prog w) A (PySem.call (.ref 170) [.ref x]) Q E s :=
  pureK f F N (c170 w s.heap s.gens s.drawn s.toks s.os (X.keeps F.keep) x dx c v t1 t2 (N.get hx) lo hi) h
theorem k177 (f : Fit A) (F : Fr h₀ L s.heap m) (X : (hd.heap_39 w.params).In h₀) (N : News h₀ L s.heap news) (hx : (x, tagObj dx c t1 v t2) ∈ news) (lo : -10 ≤ c) (hi : c ≤ 1110)
    (h : ∀ h' tk, Fr h₀ L h' m → News h₀ L h' news → Q (.bool (decide (360 ≤ c ∧ c ≤ 369))) { s with heap := h', toks := tk }) : wpAny (model prog w) A (PySem.call (.ref 177) [.ref x]) Q E s :=
  pureK f F N (c177 w s.heap s.gens s.drawn s.toks s.os (X.keeps F.keep) x dx c v t1 t2 (N.get hx) lo hi) h
theorem k384 (f : Fit A) (F : Fr h₀ L s.heap m) (X : (hd.heap_39 w.params).In h₀) (N : News h₀ L s.heap news) (ht : (t, tagsObj dt #[.ref x] n) ∈ news) (hdt : (dt, dictOf [] 0) ∈ news) (hx : (x, tagObj dx c t1 v t2) ∈ news) (hdx : (dx, dictOf [] 0) ∈ news)
    (h : ∀ h' tk, Fr h₀ L h' m → News h₀ L h' news → Q (.bool (decide (c = 101 ∧ v = PySem.Str.ofString "Embedded Object"))) { s with heap := h', toks := tk }) : wpAny (model prog w) A (PySem.call (.ref 384) [.ref t]) Q E s :=
  pureK f F N (c384 w s.heap s.gens s.drawn s.toks s.os (X.keeps F.keep) x t dt dx c n v t1 t2 (N.get ht) (N.get hdt) (N.get hx) (N.get hdx)) h
abbrev kinds (c : Int) : List Value := [.bool (decide (320 ≤ c ∧ c ≤ 329)), .bool (decide ((330 ≤ c ∧ c ≤ 339) ∨ c = 1005)), .bool (decide ((340 ≤ c ∧ c ≤ 349) ∨ (390 ≤ c ∧ c ≤ 399) ∨ c = 480 ∨ c = 481)), .bool (decide (350 ≤ c ∧ c ≤ 359)), .bool (decide (360 ≤ c ∧ c ≤ 369))]
theorem k465 (f : Fit A) (F : Fr h₀ L s.heap m) (X : (hd.heap_39 w.params).In h₀) (N : News h₀ L s.heap news) (lo : -10 ≤ c) (hi : c ≤ 1110)
    (h : ∀ l n h' tk, Fr h₀ L h' m → News h₀ L h' ((l, ({ cls := .type "list", data := .seq (kinds c).toArray n } : Obj)) :: news) → Q (.ref l) { s with heap := h', toks := tk }) : wpAny (model prog w) A (PySem.call (.ref 465) [.int c t1]) Q E s :=
  f.any (wpAny_mono (c465 w s.heap s.gens s.drawn s.toks s.os (X.keeps F.keep) c t1 lo hi) (fun r s' nl => by
    obtain ⟨⟨l, n, rfl, h1, h2⟩, p⟩ := nl
    rw [p.eq]
    refine h l n _ _ (F.keeps p.ext) (fun q hq => ?_)
    rcases List.mem_cons.mp hq with rfl | hq
    · exact ⟨h1, fresh_news F fun o e => by rw [h2] at e; cases e⟩
    · exact N.grown p.ext q hq) fun _ _ x => x.elim)
theorem k425 {Q : Value → Shared → Prop} (f : Fit A) (F : Fr h₀ L s.heap m) (X : (hd.heap_39 w.params).In h₀) (N : News h₀ L s.heap news) (hl : (l, W.listOf #[.ref x] n) ∈ news)
    (h : ∀ t dt n h' tk, Fr h₀ L h' m → News h₀ L h' ((t, tagsObj dt #[.ref x] n) :: (dt, dictOf [] 0) :: news) → Q (.ref t) { s with heap := h', toks := tk }) : wpAny (model prog w) A (PySem.call (.ref 425) [.ref l]) Q E s :=
  f.any (wpAny_mono (c425 w s.heap s.gens s.drawn s.toks s.os (X.keeps F.keep) l x n (N.get hl)) (fun r s' nl => by
    obtain ⟨⟨t, dt, n, rfl, h1, h2, h3, h4⟩, p⟩ := nl
    rw [p.eq]
    refine h t dt n _ _ (F.keeps p.ext) (fun q hq => ?_)
    rcases List.mem_cons.mp hq with rfl | hq
    · exact ⟨h1, fresh_news F fun o e => by rw [h3] at e; cases e⟩
    rcases List.mem_cons.mp hq with rfl | hq
    · exact ⟨h2, fresh_news F fun o e => by rw [h4] at e; cases e⟩
    · exact N.grown p.ext q hq) fun _ _ x => x.elim)
theorem k425b {Q : Value → Shared → Prop} (f : Fit A) (F : Fr h₀ L s.heap m) (X : (hd.heap_39 w.params).In h₀) (N : News h₀ L s.heap news) (hl : (l, W.listOf #[.ref x, .ref y] n) ∈ news)
    (h : ∀ t dt n h' tk, Fr h₀ L h' m → News h₀ L h' ((t, tagsObj dt #[.ref x, .ref y] n) :: (dt, dictOf [] 0) :: news) → Q (.ref t) { s with heap := h', toks := tk }) : wpAny (model prog w) A (PySem.call (.ref 425) [.ref l]) Q E s :=
  f.any (wpAny_mono (c425b w s.heap s.gens s.drawn s.toks s.os (X.keeps F.keep) l x y n (N.get hl)) (fun r s' nl => by
    obtain ⟨⟨t, dt, n, rfl, h1, h2, h3, h4⟩, p⟩ := nl
    rw [p.eq]
    refine h t dt n _ _ (F.keeps p.ext) (fun q hq => ?_)
    rcases List.mem_cons.mp hq with rfl | hq
    · exact ⟨h1, fresh_news F fun o e => by rw [h3] at e; cases e⟩
    rcases List.mem_cons.mp hq with rfl | hq
    · exact ⟨h2, fresh_news F fun o e => by rw [h4] at e; cases e⟩
    · exact N.grown p.ext q hq) fun _ _ x => x.elim)
/-- lists of five truth values that are the same -/
theorem ne_kinds {a b : Addr} {n1 n2 : Nat} (N : News h₀ L s.heap news) (h1 : (a, ({ cls := .type "list", data := .seq (kinds c).toArray n1 } : Obj)) ∈ news) (h2 : (b, ({ cls := .type "list", data := .seq (kinds c).toArray n2 } : Obj)) ∈ news)
    (hu : A.units + 64 < cLine) (h : Q (.bool false) s) : wpAny (model prog w) A (compareOp .NotEq (.ref a) (.ref b)) Q E s := by
  refine ne_dataH (reads_list_at (N.get h1) rfl rfl (ReadsAll.cons (Reads.bool _) (ReadsAll.cons (Reads.bool _) (ReadsAll.cons (Reads.bool _) (ReadsAll.cons (Reads.bool _) (ReadsAll.cons (Reads.bool _) ReadsAll.nil))))))
    (reads_list_at (N.get h2) rfl rfl (ReadsAll.cons (Reads.bool _) (ReadsAll.cons (Reads.bool _) (ReadsAll.cons (Reads.bool _) (ReadsAll.cons (Reads.bool _) (ReadsAll.cons (Reads.bool _) ReadsAll.nil)))))) ?_ ?_ hu ?_
  · simp [SeqAt.shaped, PyData.canLay0, PyData.canLayAll0, PyData.depth, PyData.depthAll]
  · simp [SeqAt.shaped, PyData.canLay0, PyData.canLayAll0, PyData.depth, PyData.depthAll]
  · simpa [PyData.eqv, PyData.eqvAll] using h
theorem ne_bool_same {b : Bool} (h : Q (.bool false) s) : wpAny (model prog w) A (compareOp .NotEq (.bool b) (.bool b)) Q E s := by
  exact ne_bool (by rw [bne_self_eq_false]; exact h)
theorem eq_bool_same {b : Bool} (h : Q (.bool true) s) : wpAny (model prog w) A (compareOp .Eq (.bool b) (.bool b)) Q E s := by
  exact eq_bool (by rw [beq_self_eq_true]; exact h)
end
end Mine
end -- N4

section -- N5
open PySem PySem.W PyProof.Rows PySem.Calls
namespace Mine
/-- the paths of a part of the walk meet again: one value, the ledger as it was -/
def JoinV (h₀ : Heap) (L : Addr) (m : PySem.Str → Option Value) (news : List (Addr × Obj)) (s : Shared) (b : Bool) : Value → Shared → Prop := fun v s' => v = .bool b ∧ ∃ h' tk, s' = { s with heap := h', toks := tk } ∧ Fr h₀ L h' m ∧ News h₀ L h' news
def JV (k : Int) (b : Bool) : Prop := True
theorem join_begin {M : Model} {A : Around} {tm : Sem Value} {h₀ : Heap} {L : Addr} {m : PySem.Str → Option Value} {news : List (Addr × Obj)} {s : Shared} {b : Bool} {k : Int} {Q E : Value → Shared → Prop} (J : JV k b) (F : Fr h₀ L s.heap m) (N : News h₀ L s.heap news)
    (hj : wpAny M A tm (JoinV h₀ L m news s b) E s) (h : ∀ h' tk, Fr h₀ L h' m → News h₀ L h' news → Q (.bool b) { s with heap := h', toks := tk }) : wpAny M A tm Q E s :=
  wpAny_mono hj (fun v s' z => by obtain ⟨rfl, h', tk, rfl, F', N'⟩ := z; exact h h' tk F' N') fun _ _ e => e
theorem join_end {h₀ h' : Heap} {L : Addr} {m : PySem.Str → Option Value} {news news' : List (Addr × Obj)} {s s' : Shared} {b b' : Bool} (F : Fr h₀ L h' m) (N : News h₀ L h' news') (hs : s' = { s with heap := h', toks := s'.toks }) (hb : b' = b) (sub : ∀ p ∈ news, p ∈ news') : JoinV h₀ L m news s b (.bool b') s' :=
  ⟨by rw [hb], h', s'.toks, hs, F, news_sub N sub⟩
def JoinF (h₀ : Heap) (L : Addr) (m : PySem.Str → Option Value) (news : Array Value → List (Addr × Obj)) (s : Shared) : Flow → Shared → Prop := fun f s' => f = .next ∧ ∃ ps h' tk gs, TriplesOk ps.toList ∧ s' = { s with heap := h', toks := tk, gens := gs } ∧ Fr h₀ L h' m ∧ News h₀ L h' (news ps) ∧ AllBare gs
theorem joinf_begin {M : Model} {A : Around} {tm : Sem Flow} {h₀ : Heap} {L : Addr} {m : PySem.Str → Option Value} {news : List (Addr × Obj)} {news' : Array Value → List (Addr × Obj)} {ps : Array Value} {s : Shared} {Q : Flow → Shared → Prop} {E : Value → Shared → Prop} (N : News h₀ L s.heap news) (U : ∀ ps', Upd 221 (tabO ps) (tabO ps') news (news' ps'))
    (hj : wpAny M A tm (JoinF h₀ L m news' s) E s) (h : ∀ ps' h' tk gs, TriplesOk ps'.toList → Fr h₀ L h' m → News h₀ L h' (news' ps') → AllBare gs → Q .next { s with heap := h', toks := tk, gens := gs }) (F : Fr h₀ L s.heap m) : wpAny M A tm Q E s :=
  wpAny_mono hj (fun v s' z => by obtain ⟨rfl, ps', h', tk, gs, ok, rfl, F', N', G'⟩ := z; exact h ps' h' tk gs ok F' N' G') fun _ _ e => e
theorem joinf_end {h₀ h' : Heap} {L : Addr} {m : PySem.Str → Option Value} {news : Array Value → List (Addr × Obj)} {news' : List (Addr × Obj)} {s s' : Shared} {ps : Array Value} (F : Fr h₀ L h' m) (N : News h₀ L h' news') (ok : TriplesOk ps.toList) (hs : s' = { s with heap := h', toks := s'.toks, gens := s'.gens }) (G : AllBare s'.gens)
    (sub : ∀ p ∈ news ps, p ∈ news') : JoinF h₀ L m news s .next s' :=
  ⟨rfl, ps, h', s'.toks, s'.gens, ok, hs, F, news_sub N sub, G⟩
section
variable {w : World} {A : Around} {E : Value → Shared → Prop} {s : Shared} {L a b u1 u2 q1 q2 : Addr} {h₀ : Heap} {news : List (Addr × Obj)} {Q : Value → Shared → Prop} {c1 c2 : Int} {v1 v2 : PySem.Str} {t1 t2 t3 t4 t5 t6 t7 t8 : Tok} {n1 n2 n3 n4 n5 n6 : Nat}
theorem rd_tup {a : Addr} {n : Nat} (N : News h₀ L s.heap news) (h : (a, ({ cls := .type "tuple", data := .seq [.int c1 t1, .str v1 t2].toArray n } : Obj)) ∈ news) : ∃ as, Reads s.heap (.ref a) (.tuple [.int c1, .str v1]) as :=
  ⟨_, reads_tuple_at (N.get h) rfl rfl (ReadsAll.cons (Reads.int _ _) (ReadsAll.cons (Reads.str _ _) ReadsAll.nil))⟩
theorem ne_pairs1 (N : News h₀ L s.heap news) (h1 : (a, ({ cls := .type "list", data := .seq [Value.ref u1].toArray n1 } : Obj)) ∈ news) (h2 : (b, ({ cls := .type "list", data := .seq [Value.ref q1].toArray n2 } : Obj)) ∈ news)
    (hu1 : (u1, ({ cls := .type "tuple", data := .seq [.int c1 t1, .str v1 t2].toArray n3 } : Obj)) ∈ news) (hq1 : (q1, ({ cls := .type "tuple", data := .seq [.int c1 t3, .str v1 t4].toArray n4 } : Obj)) ∈ news)
    (s1 : PyData.strOk v1 = true) (hu : A.units + 64 < cLine) (h : Q (.bool false) s) : wpAny (model prog w) A (compareOp .NotEq (.ref a) (.ref b)) Q E s := by
  obtain ⟨_, r1⟩ := rd_tup N hu1
  obtain ⟨_, r2⟩ := rd_tup N hq1
  refine ne_dataH (reads_list_at (N.get h1) rfl rfl (ReadsAll.cons r1 ReadsAll.nil)) (reads_list_at (N.get h2) rfl rfl (ReadsAll.cons r2 ReadsAll.nil)) ?_ ?_ hu ?_
  · simp [SeqAt.shaped, PyData.canLay0, PyData.canLayAll0, PyData.depth, PyData.depthAll, s1]
  · simp [SeqAt.shaped, PyData.canLay0, PyData.canLayAll0, PyData.depth, PyData.depthAll, s1]
  · simpa [PyData.eqv, PyData.eqvAll] using h
theorem ne_pairs2 (N : News h₀ L s.heap news) (h1 : (a, ({ cls := .type "list", data := .seq [Value.ref u1, .ref u2].toArray n1 } : Obj)) ∈ news) (h2 : (b, ({ cls := .type "list", data := .seq [Value.ref q1, .ref q2].toArray n2 } : Obj)) ∈ news)
    (hu1 : (u1, ({ cls := .type "tuple", data := .seq [.int c1 t1, .str v1 t2].toArray n3 } : Obj)) ∈ news) (hq1 : (q1, ({ cls := .type "tuple", data := .seq [.int c1 t3, .str v1 t4].toArray n4 } : Obj)) ∈ news)
    (hu2 : (u2, ({ cls := .type "tuple", data := .seq [.int c2 t5, .str v2 t6].toArray n5 } : Obj)) ∈ news) (hq2 : (q2, ({ cls := .type "tuple", data := .seq [.int c2 t7, .str v2 t8].toArray n6 } : Obj)) ∈ news)
    (s1 : PyData.strOk v1 = true) (s2 : PyData.strOk v2 = true) (hu : A.units + 64 < cLine) (h : Q (.bool false) s) : wpAny (model prog w) A (compareOp .NotEq (.ref a) (.ref b)) Q E s := by
  obtain ⟨_, r1⟩ := rd_tup N hu1
  obtain ⟨_, r2⟩ := rd_tup N hq1
  obtain ⟨_, r3⟩ := rd_tup N hu2
  obtain ⟨_, r4⟩ := rd_tup N hq2
  refine ne_dataH (reads_list_at (N.get h1) rfl rfl (ReadsAll.cons r1 (ReadsAll.cons r3 ReadsAll.nil))) (reads_list_at (N.get h2) rfl rfl (ReadsAll.cons r2 (ReadsAll.cons r4 ReadsAll.nil))) ?_ ?_ hu ?_
  · simp [SeqAt.shaped, PyData.canLay0, PyData.canLayAll0, PyData.depth, PyData.depthAll, s1, s2]
  · simp [SeqAt.shaped, PyData.canLay0, PyData.canLayAll0, PyData.depth, PyData.depthAll, s1, s2]
  · simpa [PyData.eqv, PyData.eqvAll] using h
end
end Mine
end -- N5

section -- N6
open PySem PySem.W PyProof.Rows PySem.Calls
namespace Mine
/-- whether the code may stand in XDATA, as a letter -/
def XD (c : Int) (b : Bool) : Prop := decide (c ∈ xdL) = b
theorem xd_cases {c : Int} {b : Bool} {P : Prop} (_h : XD c b) (h1 : b = true → P) (h2 : b = false → P) : P := by
  cases b with
  | true => exact h1 rfl
  | false => exact h2 rfl
def notNone : Value → Bool
  | .none => false
  | _ => true
theorem not_tab' {h₀ h : Heap} {L d x : Addr} {o : Obj} {ps : Array Value} {news : List (Addr × Obj)} (N : News h₀ L h news) (hd : (d, tabO ps) ∈ news) (hx : (x, o) ∈ news) (hc : notNone o.cls = true) : x ≠ d :=
  not_tab N hd hx fun z => by rw [z] at hc; cases hc
theorem tags_of_news {h₀ h : Heap} {L t d : Addr} {its : Array Value} {n : Nat} {od : Obj} {news : List (Addr × Obj)} (N : News h₀ L h news) (h1 : (t, tagsObj d its n) ∈ news) (h2 : (d, od) ∈ news) : W.InstAt h t (tagsObj d its n) 425 (some od) := ⟨N.get h1, rfl, rfl, N.get h2⟩
theorem any_mem {c : Int} {l : List Int} : (l.any fun x => x == c) = decide (c ∈ l) := by
  by_cases h : c ∈ l
  · rw [decide_eq_true h]; exact List.any_eq_true.mpr ⟨c, h, beq_self_eq_true c⟩
  · rw [decide_eq_false h]
    exact List.any_eq_false.mpr fun x hx hb => h ((eq_of_beq hb) ▸ hx)
def intsV : List Value → Option (List Int)
  | [] => some []
  | .int n _ :: r => (intsV r).map (n :: ·)
  | _ => none
theorem intsV_are : ∀ {vs : List Value} {ns : List Int}, intsV vs = some ns → IntsAre vs ns
  | [], ns, h => by cases h; exact .nil
  | .int n t :: r, ns, h => by
    simp only [intsV, Option.map_eq_some_iff] at h
    obtain ⟨q, hq, rfl⟩ := h
    exact .cons n t (intsV_are hq)
section
variable {w : World} {A : Around} {E : Value → Shared → Prop} {s : Shared} {x dx y dy t dt I C a L l : Addr} {hr h₀ : Heap} {m : PySem.Str → Option Value} {c c2 : Int} {v v2 : PySem.Str} {t1 t2 t3 t4 : Tok} {ps : Array Value} {n : Nat} {news : List (Addr × Obj)} {news' : Array Value → List (Addr × Obj)} {b : Bool}
variable {p : Program} {loose : List PySem.Str} {mean : ExcName → Option Value} {mg mb : PySem.Str → Option Value}
theorem call_219X {Q : Value → Shared → Prop} (hb : XD c b) (r : Room A 8 40) (F : Fr h₀ L s.heap m) (X : (hd.heap_39 w.params).In h₀) (T : Top p loose mean mg mb h₀) (N : News h₀ L s.heap news) (U : ∀ ps', Upd 214 (tabO ps) (tabO ps') news (news' ps')) (ok : TriplesOk ps.toList)
    (ht : (t, tagsObj dt #[.ref x] n) ∈ news) (hdt : (dt, dictOf [] 0) ∈ news) (hx : (x, tagObj dx c t1 v t2) ∈ news) (hdx : (dx, dictOf [] 0) ∈ news) (G : AllBare s.gens)
    (h : ∀ ps' h' tk gs, TriplesOk ps'.toList → Fr h₀ L h' m → News h₀ L h' (news' ps') → AllBare gs → Q (.bool b) { s with heap := h', toks := tk, gens := gs }) :
    wpAny (model prog w) A (PySem.call (.ref 219) [.ref t]) Q E s := by
  refine call_219K r F X T N U ok ht hdt hx hdx G fun ps' h' tk gs o F' N' G' => ?_
  rw [hb]; exact h ps' h' tk gs o F' N' G'
theorem in_ptsM {vs : List Value} {Q : Value → Shared → Prop} (N : News h₀ L s.heap news) (hm : (l, W.listOf vs.toArray n) ∈ news) (hi : intsV vs = some ptsL) (h : Q (.bool (decide (c ∈ ptsL))) s) : wpAny (model prog w) A (compareOp .In (.int c t1) (.ref l)) Q E s :=
  in_list_ints ⟨_, N.get hm, rfl, _, rfl⟩ (intsV_are hi) (by rw [any_mem]; exact h)
theorem in_xdM {vs : List Value} {Q : Value → Shared → Prop} (hb : XD c b) (N : News h₀ L s.heap news) (hm : (l, W.listOf vs.toArray n) ∈ news) (hi : intsV vs = some xdL) (h : Q (.bool b) s) : wpAny (model prog w) A (compareOp .In (.int c t1) (.ref l)) Q E s :=
  in_list_ints ⟨_, N.get hm, rfl, _, rfl⟩ (intsV_are hi) (by rw [any_mem, hb]; exact h)
variable {env : Env} {scope : Scope} {p1 p2 p3 p4 p5 p6 p7 : Pos} {k : Nat} {iter : PySem.Expr} {Q : Value → Shared → Prop}
theorem comp_fin1 (hb : XD c true) (hcell : ∀ x ∈ scope.names, x.2 ≠ .cell) (hkind : scope.kind = .function) (hx : scope.names.lookup (PySem.Str.ofString "one") = some .local) (r : Room A 8 40) (F : Fr h₀ L s.heap m) (N : News h₀ L s.heap news) (G : AllBare s.gens) (R : GenK w h₀ L news c t1 v t2 c2 t3 v2 t4 s a)
    (h1 : ∀ l n u1 u2 h' tk gs, Fr h₀ L h' m → News h₀ L h' ((l, ({ cls := .type "list", data := .seq [Value.ref u1, .ref u2].toArray n } : Obj)) :: (u1, ({ cls := .type "tuple", data := .seq [Value.int c t1, .str v t2].toArray } : Obj)) :: (u2, ({ cls := .type "tuple", data := .seq [Value.int c2 t3, .str v2 t4].toArray } : Obj)) :: news) → AllBare gs → Q (.ref l) { s with heap := h', toks := tk, gens := gs }) :
    CompK w A env scope p1 p2 p3 p4 p5 p6 p7 k iter Q E (.ref a) s :=
  comp_fin hcell hkind hx r F N G R (fun _ => h1) (fun hn => absurd (of_decide_eq_true hb) hn)
theorem comp_fin2 (hb : XD c false) (hcell : ∀ x ∈ scope.names, x.2 ≠ .cell) (hkind : scope.kind = .function) (hx : scope.names.lookup (PySem.Str.ofString "one") = some .local) (r : Room A 8 40) (F : Fr h₀ L s.heap m) (N : News h₀ L s.heap news) (G : AllBare s.gens) (R : GenK w h₀ L news c t1 v t2 c2 t3 v2 t4 s a)
    (h2 : ∀ l n u2 h' tk gs, Fr h₀ L h' m → News h₀ L h' ((l, ({ cls := .type "list", data := .seq [Value.ref u2].toArray n } : Obj)) :: (u2, ({ cls := .type "tuple", data := .seq [Value.int c2 t3, .str v2 t4].toArray } : Obj)) :: news) → AllBare gs → Q (.ref l) { s with heap := h', toks := tk, gens := gs }) :
    CompK w A env scope p1 p2 p3 p4 p5 p6 p7 k iter Q E (.ref a) s :=
  comp_fin hcell hkind hx r F N G R (fun hy => absurd hy (of_decide_eq_false hb)) (fun _ => h2)
end
end Mine
end -- N6

section -- N7
open PySem PySem.W PyProof.Rows PySem.Calls
namespace Mine
theorem jv_tt {c k : Int} {sw x : Bool} (h : c = k) (e : x = sw) : x = (decide (c = k) && sw) := by rw [decide_eq_true h, e, Bool.true_and]
theorem jv_ff {c k : Int} {sw : Bool} (h : c ≠ k) : (c == k) = (decide (c = k) && sw) := by rw [decide_eq_false h, Bool.false_and]; exact beq_eq_false_iff_ne.mpr h
theorem jv_tt' {c k : Int} {v l : PySem.Str} (h : c = k) : (v == l) = decide (c = k ∧ v = l) := by
  by_cases q : v = l
  · rw [decide_eq_true ⟨h, q⟩, q]; exact beq_self_eq_true l
  · rw [decide_eq_false fun z => q z.2]; exact beq_eq_false_iff_ne.mpr q
theorem jv_ff' {c k : Int} {P : Prop} [Decidable P] (h : c ≠ k) : (c == k) = decide (c = k ∧ P) := by rw [decide_eq_false fun z => h z.1]; exact beq_eq_false_iff_ne.mpr h
section
variable {w : World} {A : Around} {E : Value → Shared → Prop} {s : Shared} {t dt L : Addr} {h₀ : Heap} {m : PySem.Str → Option Value} {n : Nat} {news : List (Addr × Obj)} {its : Array Value}
theorem method_384 {pl : Sem Bool} {Q : Value × List Value → Shared → Prop} (F : Fr h₀ L s.heap m) (X : (hd.heap_39 w.params).In h₀) (N : News h₀ L s.heap news) (ht : (t, tagsObj dt its n) ∈ news) (hdt : (dt, dictOf [] 0) ∈ news) (h : Q (.ref 384, [.ref t]) s) :
    wpAny (model prog w) A (getMethod (.ref t) (PySem.Str.ofString "has_embedded_objects") pl) Q E s := by
  have X' := X.keeps F.keep
  have I := tags_of_news N ht hdt
  have hcan : Manifest.canonical "list.__getattribute__" = "object.__getattribute__" := by decide +kernel
  unfold getMethod specialOf
  refine wpAny_bind (wpAny_bind (I.type.here ((looks_findIn X' (r := some (.builtin "list.__getattribute__")) (by k_is)).here ?_)))
  dsimp only
  rw [hcan, if_neg (by decide)]
  refine wpAny_bind (wpAny_bind (I.type.here ((looks_findIn X' (r := none) (by k_is)).here ?_)))
  refine wpAny_bind (wpAny_bind (I.type.here ((looks_findIn X' (r := some (.ref 384)) (by k_is)).here (wpAny_bind ((looks_typeIn X' (show typeIn (hd.heap_39 w.params) (.ref 384) = some (.type "function") by k_is)).here ?_)))))
  rw [if_neg (by decide +kernel)]
  refine wpAny_bind (wpAny_loadPart I.at_ ?_)
  refine wpAny_bind (wpAny_bind (wpAny_loadPart (N.get hdt) ?_))
  have a : lookIn (PySem.Str.ofString "has_embedded_objects") (dictOf [] 0) = some none := rfl
  rw [nsLook_of a]
  refine wpAny_pure ?_
  exact wpAny_bind (wpAny_rule (wpAny_pure h))
end
end Mine
end -- N7

section -- T0
open PySem PySem.W PyProof.Rows
namespace Mine
local macro_rules | `(tactic| k_in) => `(tactic| (refine' in_of_fr ?inF ?inX; (case inF => with_reducible assumption); (case inX => with_reducible assumption)))
local macro_rules | `(tactic| walk_at "compareOp Eq ref") => `(tactic| (k_here; (with_reducible show wpAny _ _ (compareOp CmpOp.Eq (Value.ref _) (Value.ref _)) _ _ _); (refine cmp_ofEq ?_); k_dflt (refine' eq_own ?k1 ?k2 ?k3 ?k4 ?k5 ?k6 ?k7 ?k8 ?k9 ?_; (case k1 => k_units); (case k2 => k_asm); (case k3 => k_asm); (case k4 => k_inst); (case k5 => k_asm); (case k6 => k_mem); (case k7 => k_is); (case k8 => k_is); (case k9 => k_is); k_whole)))
local macro_rules | `(tactic| walk_at "getAttr ref") => `(tactic| (k_here; (with_reducible show wpAny _ _ (getAttr (Value.ref _) (PySem.Str.ofString "code") _) _ _ _); k_dflt (refine' prop_codeK ?k1 ?k2 ?k3 ?k4 ?k5 ?k6 ?k7 ?_; (case k1 => exact ⟨rfl, Nat.le_of_ble_eq_true rfl, Nat.le_of_ble_eq_true rfl⟩); (case k2 => k_asm); (case k3 => k_asm); (case k4 => exact Top.nolimit (by with_reducible assumption)); (case k5 => k_asm); (case k6 => k_mem); (case k7 => k_mem); k_whole; intro h' tk' F' N'; (try dsimp only))))
local macro_rules | `(tactic| walk_at "getAttr ref") => `(tactic| (k_here; (with_reducible show wpAny _ _ (getAttr (Value.ref _) (PySem.Str.ofString "value") _) _ _ _); k_dflt (refine' prop_valueK ?k1 ?k2 ?k3 ?k4 ?k5 ?k6 ?k7 ?_; (case k1 => exact ⟨rfl, Nat.le_of_ble_eq_true rfl, Nat.le_of_ble_eq_true rfl⟩); (case k2 => k_asm); (case k3 => k_asm); (case k4 => exact Top.nolimit (by with_reducible assumption)); (case k5 => k_asm); (case k6 => k_mem); (case k7 => k_mem); k_whole; intro h' tk' F' N'; (try dsimp only))))
local macro_rules | `(tactic| walk_at "compareOp Eq ref ref") => `(tactic| (k_here; (with_reducible show wpAny _ _ (compareOp CmpOp.Eq (Value.ref _) (Value.ref _)) _ _ _); k_dflt (refine' eq_tup2 ?k1 ?k2 ?k3 ?k4 ?k5 ?k6 ?k7 ?_; (case k1 => k_asm); (case k2 => k_mem); (case k3 => k_mem); (case k4 => with_reducible assumption); (case k5 => with_reducible assumption); (case k6 => ke_room); (case k7 => with_reducible first | exact and_tt | exact and_cf (int_succ _) | exact and_cf (int_succ' _) | exact and_vf (by assumption)); k_whole; (try dsimp only))))
local macro_rules | `(tactic| walk_at "compareOp Eq ref") => `(tactic| (k_here; (with_reducible show wpAny _ _ (compareOp CmpOp.Eq (Value.ref _) (Value.ref _)) _ _ _); (refine cmp_ofEq ?_); k_dflt (refine' eq_turned ?k1 ?k2 ?k3 ?k4 ?k5 ?k6 ?k7 ?k8 ?k9 ?_; (case k1 => k_units); (case k2 => k_asm); (case k3 => k_asm); (case k4 => k_inst); (case k5 => k_asm); (case k6 => k_mem); (case k7 => k_is); (case k8 => k_is); (case k9 => k_is); k_whole; (try dsimp only))))
local macro_rules | `(tactic| walk_at "compareOp NotEq ref") => `(tactic| (k_here; (with_reducible show wpAny _ _ (compareOp CmpOp.NotEq (Value.ref _) (Value.ref _)) _ _ _); (refine cmp_ofNotEq ?_); k_dflt (refine' ne_own ?k1 ?k2 ?k3 ?k4 ?k5 ?k6 ?k7 ?ka ?k8 ?k9 ?kb ?_; (case k1 => k_units); (case k2 => k_asm); (case k3 => k_asm); (case k4 => k_inst); (case k5 => k_asm); (case k6 => k_mem); (case k7 => k_is); (case ka => k_is); (case k8 => k_is); (case k9 => k_is); (case kb => k_is); k_whole; (try dsimp only))))
local macro_rules | `(tactic| walk_at "callWith ref") => `(tactic| (k_here; k_dflt (refine' cw0 ?F ?X ?k ?_; (case F => k_asm); (case X => k_asm); (case k => k_is); k_whole; (try dsimp only))))
local macro_rules | `(tactic| walk_at "compareOp Eq int int") => `(tactic| (k_here; first | with_reducible refine eq_int_same ?_ | k_dflt (refine' eq_int_tt ?k ?_; (case k => exact rfl))))
local macro_rules | `(tactic| walk_at "compareOp NotEq int int") => `(tactic| (k_here; with_reducible refine ne_int_same ?_))
local macro_rules | `(tactic| walk_at "compareOp Eq str str") => `(tactic| (k_here; with_reducible refine eq_str_same ?_))
local macro_rules | `(tactic| walk_at "compareOp NotEq str str") => `(tactic| (k_here; first | with_reducible refine ne_str_same ?_ | k_dflt (refine' ne_str_eq ?k ?_; (case k => simp only [PySem.Str.empty_append, PySem.Str.append_assoc]))))
local macro_rules | `(tactic| walk_at "compareOp NotEq ref ref") => `(tactic| (k_here; (with_reducible show wpAny _ _ (compareOp CmpOp.NotEq (Value.ref _) (Value.ref _)) _ _ _); k_dflt (refine' ne_list2 ?k1 ?k2 ?k3 ?k4 ?k5 ?k6 ?k7 ?_; (case k1 => k_asm); (case k2 => k_mem); (case k3 => k_mem); (case k4 => with_reducible assumption); (case k5 => with_reducible assumption); (case k6 => ke_room); (case k7 => with_reducible first | exact and_tt | exact and_cf (int_succ _) | exact and_cf (int_succ' _) | exact and_vf (by assumption)); k_whole; (try dsimp only))))
local macro_rules | `(tactic| walk_at "execs cons") => `(tactic| (k_here; (try dsimp only); (with_reducible refine execs_tk ?_); intro _; (with_reducible refine wpAny_execs_cons ?_); (try dsimp only)))
local macro_rules | `(tactic| k_ne) => `(tactic| (k_dflt (refine' not_tab' ?kN ?ka ?kb ?kc; (case kN => k_asm); (case ka => k_mem); (case kb => k_mem); (case kc => exact rfl))))
local macro_rules | `(tactic| k_inst) => `(tactic| (refine' tags_of_news ?kN ?ka ?kb; (case kN => k_asm); (case ka => k_mem); (case kb => k_mem)))
local macro_rules | `(tactic| walk_at "call ref") => `(tactic| (k_here; (with_reducible show wpAny _ _ (PySem.call (Value.ref 149) [Value.ref _]) _ _ _); k_dflt (refine' k149 ?k1 ?k2 ?k3 ?k4 ?k5 ?k6 ?k7 ?_; (case k1 => exact ⟨rfl, Nat.le_of_ble_eq_true rfl, Nat.le_of_ble_eq_true rfl⟩); (case k2 => k_asm); (case k3 => k_asm); (case k4 => k_asm); (case k5 => k_mem); (case k6 => omega); (case k7 => omega); k_whole; intro h' tk' F' N'; (try dsimp only))))
local macro_rules | `(tactic| walk_at "call ref") => `(tactic| (k_here; (with_reducible show wpAny _ _ (PySem.call (Value.ref 156) [Value.ref _]) _ _ _); k_dflt (refine' k156 ?k1 ?k2 ?k3 ?k4 ?k5 ?k6 ?k7 ?_; (case k1 => exact ⟨rfl, Nat.le_of_ble_eq_true rfl, Nat.le_of_ble_eq_true rfl⟩); (case k2 => k_asm); (case k3 => k_asm); (case k4 => k_asm); (case k5 => k_mem); (case k6 => omega); (case k7 => omega); k_whole; intro h' tk' F' N'; (try dsimp only))))
local macro_rules | `(tactic| walk_at "call ref") => `(tactic| (k_here; (with_reducible show wpAny _ _ (PySem.call (Value.ref 163) [Value.ref _]) _ _ _); k_dflt (refine' k163 ?k1 ?k2 ?k3 ?k4 ?k5 ?k6 ?k7 ?_; (case k1 => exact ⟨rfl, Nat.le_of_ble_eq_true rfl, Nat.le_of_ble_eq_true rfl⟩); (case k2 => k_asm); (case k3 => k_asm); (case k4 => k_asm); (case k5 => k_mem); (case k6 => omega); (case k7 => omega); k_whole; intro h' tk' F' N'; (try dsimp only))))
local macro_rules | `(tactic| walk_at "call ref") => `(tactic| (k_here; (with_reducible show wpAny _ _ (PySem.call (Value.ref 170) [Value.ref _]) _ _ _); k_dflt (refine' k170 ?k1 ?k2 ?k3 ?k4 ?k5 ?k6 ?k7 ?_; (case k1 => exact ⟨rfl, Nat.le_of_ble_eq_true rfl, Nat.le_of_ble_eq_true rfl⟩); (case k2 => k_asm); (case k3 => k_asm); (case k4 => k_asm); (case k5 => k_mem); (case k6 => omega); (case k7 => omega); k_whole; intro h' tk' F' N'; (try dsimp only))))
local macro_rules | `(tactic| walk_at "call ref") => `(tactic| (k_here; (with_reducible show wpAny _ _ (PySem.call (Value.ref 177) [Value.ref _]) _ _ _); k_dflt (refine' k177 ?k1 ?k2 ?k3 ?k4 ?k5 ?k6 ?k7 ?_; (case k1 => exact ⟨rfl, Nat.le_of_ble_eq_true rfl, Nat.le_of_ble_eq_true rfl⟩); (case k2 => k_asm); (case k3 => k_asm); (case k4 => k_asm); (case k5 => k_mem); (case k6 => omega); (case k7 => omega); k_whole; intro h' tk' F' N'; (try dsimp only))))
local macro_rules | `(tactic| walk_at "call ref") => `(tactic| (k_here; (with_reducible show wpAny _ _ (PySem.call (Value.ref 384) _) _ _ _); k_dflt (refine' k384 ?k1 ?k2 ?k3 ?k4 ?k5 ?k6 ?k7 ?k8 ?_; (case k1 => exact ⟨rfl, Nat.le_of_ble_eq_true rfl, Nat.le_of_ble_eq_true rfl⟩); (case k2 => k_asm); (case k3 => k_asm); (case k4 => k_asm); (case k5 => k_mem); (case k6 => k_mem); (case k7 => k_mem); (case k8 => k_mem); k_whole; intro h' tk' F' N'; (try dsimp only))))
local macro_rules | `(tactic| walk_at "call ref") => `(tactic| (k_here; (with_reducible show wpAny _ _ (PySem.call (Value.ref 465) [Value.int _ _]) _ _ _); k_dflt (refine' k465 ?k1 ?k2 ?k3 ?k4 ?k6 ?k7 ?_; (case k1 => exact ⟨rfl, Nat.le_of_ble_eq_true rfl, Nat.le_of_ble_eq_true rfl⟩); (case k2 => k_asm); (case k3 => k_asm); (case k4 => k_asm); (case k6 => omega); (case k7 => omega); k_whole; intro l' n' h' tk' F' N'; (try dsimp only))))
local macro_rules | `(tactic| walk_at "call ref") => `(tactic| (k_here; (with_reducible show wpAny _ _ (PySem.call (Value.ref 425) [Value.ref _]) _ _ _); k_dflt (refine' k425 ?k1 ?k2 ?k3 ?k4 ?k5 ?_; (case k1 => exact ⟨rfl, Nat.le_of_ble_eq_true rfl, Nat.le_of_ble_eq_true rfl⟩); (case k2 => k_asm); (case k3 => k_asm); (case k4 => k_asm); (case k5 => k_mem); k_whole; intro t' d' n' h' tk' F' N'; (try dsimp only))))
local macro_rules | `(tactic| walk_at "call ref") => `(tactic| (k_here; (with_reducible show wpAny _ _ (PySem.call (Value.ref 425) [Value.ref _]) _ _ _); k_dflt (refine' k425b ?k1 ?k2 ?k3 ?k4 ?k5 ?_; (case k1 => exact ⟨rfl, Nat.le_of_ble_eq_true rfl, Nat.le_of_ble_eq_true rfl⟩); (case k2 => k_asm); (case k3 => k_asm); (case k4 => k_asm); (case k5 => k_mem); k_whole; intro t' d' n' h' tk' F' N'; (try dsimp only))))
local macro_rules | `(tactic| walk_at "call ref") => `(tactic| (k_here; (with_reducible show wpAny _ _ (PySem.call (Value.ref 219) [Value.ref _]) _ _ _); k_dflt (refine' call_219X ?kb ?k1 ?k2 ?k3 ?kT ?k4 ?kU ?ko ?k5 ?k6 ?k7 ?k8 ?kG ?_; (case kb => with_reducible assumption); (case k1 => exact ⟨rfl, Nat.le_of_ble_eq_true rfl, Nat.le_of_ble_eq_true rfl⟩); (case k2 => k_asm); (case k3 => k_asm); (case k4 => k_asm); (case kT => with_reducible assumption); (case kU => (intro ps'; k_upd)); (case ko => with_reducible assumption); (case k5 => k_mem); (case k6 => k_mem); (case k7 => k_mem); (case k8 => k_mem); (case kG => k_asm); k_whole; intro ps' h' tk' gs' ok' F' N' G'; (try dsimp only at N'); (try dsimp only))))
local macro_rules | `(tactic| walk_at "call ref") => `(tactic| (k_here; (with_reducible show wpAny _ _ (PySem.call (Value.ref 226) [Value.ref _]) _ _ _); k_dflt (refine' call_226K ?k1 ?k2 ?k3 ?kT ?k4 ?kU ?ko ?k5 ?k6 ?k7 ?k8 ?k9 ?ka ?kc ?kG ?_; (case k1 => exact ⟨rfl, Nat.le_of_ble_eq_true rfl, Nat.le_of_ble_eq_true rfl⟩); (case k2 => k_asm); (case k3 => k_asm); (case k4 => k_asm); (case kT => with_reducible assumption); (case kU => (intro ps'; k_upd)); (case ko => with_reducible assumption); (case k5 => k_mem); (case k6 => k_mem); (case k7 => k_mem); (case k8 => k_mem); (case k9 => k_mem); (case ka => k_mem); (case kc => decide); (case kG => k_asm); k_whole; intro a' ps' h' tk' gs' ok' F' N' G' R'; (try dsimp only at N'); (try dsimp only))))
local macro_rules | `(tactic| walk_at "compareOp NotEq ref ref") => `(tactic| (k_here; (with_reducible show wpAny _ _ (compareOp CmpOp.NotEq (Value.ref _) (Value.ref _)) _ _ _); k_dflt (refine' ne_kinds ?k4 ?k5 ?k6 ?k7 ?_; (case k4 => k_asm); (case k5 => k_mem); (case k6 => k_mem); (case k7 => ke_room); k_whole; (try dsimp only))))
local macro_rules | `(tactic| walk_at "compareOp NotEq ref ref") => `(tactic| (k_here; (with_reducible show wpAny _ _ (compareOp CmpOp.NotEq (Value.ref _) (Value.ref _)) _ _ _); k_dflt (refine' ne_pairs1 ?k4 ?k5 ?k6 ?k8 ?k9 ?ka ?k7 ?_; (case k4 => k_asm); (case k5 => k_mem); (case k6 => k_mem); (case k8 => k_mem); (case k9 => k_mem); (case ka => first | with_reducible assumption | decide +kernel); (case k7 => ke_room); k_whole; (try dsimp only))))
local macro_rules | `(tactic| walk_at "compareOp NotEq ref ref") => `(tactic| (k_here; (with_reducible show wpAny _ _ (compareOp CmpOp.NotEq (Value.ref _) (Value.ref _)) _ _ _); k_dflt (refine' ne_pairs2 ?k4 ?k5 ?k6 ?k8 ?k9 ?kb ?kc ?ka ?kd ?k7 ?_; (case k4 => k_asm); (case k5 => k_mem); (case k6 => k_mem); (case k8 => k_mem); (case k9 => k_mem); (case kb => k_mem); (case kc => k_mem); (case ka => first | with_reducible assumption | decide +kernel); (case kd => first | with_reducible assumption | decide +kernel); (case k7 => ke_room); k_whole; (try dsimp only))))
local macro_rules | `(tactic| walk_at "compareOp NotEq bool bool") => `(tactic| (k_here; with_reducible refine ne_bool_same ?_))
local macro_rules | `(tactic| walk_at "compareOp Eq bool bool") => `(tactic| (k_here; with_reducible refine eq_bool_same ?_))
local macro_rules | `(tactic| walk_at "compareOp In int ref") => `(tactic| (k_here; (with_reducible show wpAny _ _ (compareOp CmpOp.In (Value.int _ _) (Value.ref _)) _ _ _); k_dflt (refine' in_xdM ?kb ?k1 ?k2 ?k3 ?_; (case kb => with_reducible assumption); (case k1 => k_asm); (case k2 => k_mem); (case k3 => exact rfl); k_whole; (try dsimp only))))
local macro_rules | `(tactic| walk_at "compareOp In int ref") => `(tactic| (k_here; (with_reducible show wpAny _ _ (compareOp CmpOp.In (Value.int _ _) (Value.ref _)) _ _ _); k_dflt (refine' in_ptsM ?k1 ?k2 ?k3 ?_; (case k1 => k_asm); (case k2 => k_mem); (case k3 => exact rfl); k_whole; (try dsimp only))))
local macro_rules | `(tactic| walk_at "getMethod ref") => `(tactic| (k_here; (with_reducible show wpAny _ _ (getMethod (Value.ref _) (PySem.Str.ofString "has_embedded_objects") _) _ _ _); k_dflt (refine' method_384 ?k2 ?k3 ?k4 ?k5 ?k6 ?_; (case k2 => k_asm); (case k3 => k_asm); (case k4 => k_asm); (case k5 => k_mem); (case k6 => k_mem); k_whole; (try dsimp only))))
local macro_rules | `(tactic| walk_at "JoinF") => `(tactic| (k_dflt (refine' joinf_end ?kF ?kN ?ko ?kh ?kG ?ks; (case kF => k_asm); (case kN => k_asm); (case ko => with_reducible assumption); (case kh => exact rfl); (case kG => k_asm); (case ks => (repeat' first | exact List.forall_mem_nil _ | (refine List.forall_mem_cons.mpr ⟨by k_mem, ?_⟩))))))
local macro_rules | `(tactic| walk_at "JoinV") => `(tactic| (k_dflt (refine' join_end ?kF ?kN ?kh ?kb ?ks; (case kF => k_asm); (case kN => k_asm); (case kh => exact rfl); (case ks => (repeat' first | exact List.forall_mem_nil _ | (refine List.forall_mem_cons.mpr ⟨by k_mem, ?_⟩))); (case kb => first | exact jv_ff (by with_reducible assumption) | exact jv_ff' (by with_reducible assumption) | exact jv_tt (by with_reducible assumption) (by with_reducible assumption) | exact jv_tt' (by with_reducible assumption)))))
local macro_rules | `(tactic| walk_at "eval ListComp") => `(tactic| (k_here; (with_reducible show wpAny _ _ (eval (PySem.Expr.ListComp _ _ _ _) _) _ _ _); k_dflt (refine' comp_begin ?k1 ?k2 ?k3 ?k4 ?_; (case k1 => decide); (case k2 => exact rfl); (case k3 => decide); (case k4 => (intro _; with_unfolding_all rfl)); k_whole; (try dsimp only))))
local macro_rules | `(tactic| walk_at "CompK") => `(tactic| (k_here; (with_reducible show CompK _ _ _ _ _ _ _ _ _ _ _ _ _ _ _ _ _); k_dflt (refine' comp_fin1 ?kb ?k1 ?k2 ?k3 ?k4 ?k5 ?k6 ?k7 ?k8 ?_; (case kb => with_reducible assumption); (case k1 => decide); (case k2 => exact rfl); (case k3 => exact rfl); (case k4 => exact ⟨rfl, Nat.le_of_ble_eq_true rfl, Nat.le_of_ble_eq_true rfl⟩); (case k5 => k_asm); (case k6 => k_asm); (case k7 => k_asm); (case k8 => with_reducible assumption); k_whole; intro l' n' u1' u2' h' tk' gs' F' N' G'; (try dsimp only))))
local macro_rules | `(tactic| walk_at "CompK") => `(tactic| (k_here; (with_reducible show CompK _ _ _ _ _ _ _ _ _ _ _ _ _ _ _ _ _); k_dflt (refine' comp_fin2 ?kb ?k1 ?k2 ?k3 ?k4 ?k5 ?k6 ?k7 ?k8 ?_; (case kb => with_reducible assumption); (case k1 => decide); (case k2 => exact rfl); (case k3 => exact rfl); (case k4 => exact ⟨rfl, Nat.le_of_ble_eq_true rfl, Nat.le_of_ble_eq_true rfl⟩); (case k5 => k_asm); (case k6 => k_asm); (case k7 => k_asm); (case k8 => with_reducible assumption); k_whole; intro l' n' u2' h' tk' gs' F' N' G'; (try dsimp only))))
local macro_rules | `(tactic| walk_at "call ref") => `(tactic| (k_here; (with_reducible show wpAny _ _ (PySem.call (Value.ref 135) [Value.ref _]) _ _ _); (fail_if_success (with_reducible show wpAny _ _ _ (JoinV _ _ _ _ _ _) _ _)); k_dflt (refine' join_begin (k := 102) ?kJ ?kF ?kN ?_ ?_; (case kJ => with_reducible assumption); (case kF => k_asm); (case kN => k_asm)); (rotate_left; k_whole; (intro h' tk' F' N'; (try dsimp only)); rotate_left)))
local macro_rules | `(tactic| walk_at "call ref") => `(tactic| (k_here; (with_reducible show wpAny _ _ (PySem.call (Value.ref 142) [Value.ref _]) _ _ _); (fail_if_success (with_reducible show wpAny _ _ _ (JoinV _ _ _ _ _ _) _ _)); k_dflt (refine' join_begin (k := 101) ?kJ ?kF ?kN ?_ ?_; (case kJ => with_reducible assumption); (case kF => k_asm); (case kN => k_asm)); (rotate_left; k_whole; (intro h' tk' F' N'; (try dsimp only)); rotate_left)))
local macro_rules | `(tactic| walk_at "eval BoolOp") => `(tactic| (k_here; (with_reducible show wpAny _ _ (eval (PySem.Expr.BoolOp PySem.BoolOp.And [PySem.Expr.Compare (PySem.Expr.Name _ _) [CmpOp.Eq] [PySem.Expr.Constant (PySem.Const.int 102) _ _] _, _] _) _) _ _ _); (fail_if_success (with_reducible show wpAny _ _ _ (JoinV _ _ _ _ _ _) _ _)); k_dflt (refine' join_begin (k := 102) ?kJ ?kF ?kN ?_ ?_; (case kJ => with_reducible assumption); (case kF => k_asm); (case kN => k_asm)); (rotate_left; k_whole; (intro h' tk' F' N'; (try dsimp only)); rotate_left)))
local macro_rules | `(tactic| walk_at "eval BoolOp") => `(tactic| (k_here; (with_reducible show wpAny _ _ (eval (PySem.Expr.BoolOp PySem.BoolOp.And [PySem.Expr.Compare (PySem.Expr.Name _ _) [CmpOp.Eq] [PySem.Expr.Constant (PySem.Const.int 101) _ _] _, _] _) _) _ _ _); (fail_if_success (with_reducible show wpAny _ _ _ (JoinV _ _ _ _ _ _) _ _)); k_dflt (refine' join_begin (k := 101) ?kJ ?kF ?kN ?_ ?_; (case kJ => with_reducible assumption); (case kF => k_asm); (case kN => k_asm)); (rotate_left; k_whole; (intro h' tk' F' N'; (try dsimp only)); rotate_left)))
local macro_rules | `(tactic| walk_at "exec If") => `(tactic| (k_here; (with_reducible show wpAny _ _ (exec (PySem.Stmt.If (PySem.Expr.Compare (PySem.Expr.ListComp _ _ _ _) _ _ _) _ _ _) _) _ _ _); (fail_if_success (with_reducible show wpAny _ _ _ (JoinF _ _ _ _ _) _ _)); k_dflt (refine' joinf_begin ?kN ?kU ?_ ?_ ?kF; (case kN => k_asm); (case kU => (intro ps'; k_upd)); (case kF => k_asm)); (rotate_left; k_whole; (intro ps' h' tk' gs' ok' F' N' G'; (try dsimp only at N'); (try dsimp only)); rotate_left); (refine' xd_cases ?kb ?_ ?_; (case kb => with_reducible assumption)) <;> (intro hb'; subst hb')))
local macro_rules | `(tactic| walk_at "compareOp In int ref") => `(tactic| (k_here; (with_reducible show wpAny _ _ (compareOp CmpOp.In (Value.int _ _) (Value.ref 22)) _ _ _); k_dflt (refine' in22 ?k2 ?k3 ?_; (case k2 => k_asm); (case k3 => k_asm); k_whole; (try dsimp only))))
local macro_rules | `(tactic| walk_at "compareOp In int ref") => `(tactic| (k_here; (with_reducible show wpAny _ _ (compareOp CmpOp.In (Value.int _ _) (Value.ref 23)) _ _ _); k_dflt (refine' in23 ?k2 ?k3 ?_; (case k2 => k_asm); (case k3 => k_asm); k_whole; (try dsimp only))))
abbrev lawEnv (qn : PySem.Str) (nm : List (PySem.Str × NameKind)) (mr : List (PySem.Str × Const)) (L fa : Addr) (cd : Value) : Env := envOf qn { kind := ScopeKind.function, names := nm, isGenerator := false, isCoroutine := false, more := mr } L fa cd
theorem table_walk {w : World} {base h₀ : Heap} {L fa : Addr} {cd : Value} {nm : List (PySem.Str × NameKind)} {mr : List (PySem.Str × Const)} {qn : PySem.Str} {m mg mb : PySem.Str → Option Value} {s : Shared} {cl it : Addr} {co io : Obj} {Q : Value → Shared → Prop} {E : Value → Shared → Prop}
   {p : Program} {loose : List PySem.Str} {mean : ExcName → Option Value} {ps1 ps2 : Array Value}
   (B : Below callerA base [] h₀) (F : Fr h₀ L s.heap m) (X : (hd.heap_39 w.params).In h₀) (N : News h₀ L s.heap [(it, io), (cl, co), (214, tabO ps1), (221, tabO ps2)]) (T : Top p loose mean mg mb h₀)
   (i1 : @Ne Nat it 214) (i2 : @Ne Nat it 221) (i3 : @Ne Nat cl 214) (i4 : @Ne Nat cl 221) (ok1 : TriplesOk ps1.toList) (ok2 : TriplesOk ps2.toList)
   (sw : Bool) (code : Int) (b : Bool) (hb : XD code b) (lo : -10 ≤ code) (hi : code ≤ 1109) (v : PySem.Str) (t1 t2 : Tok) (G : AllBare s.gens) (vlen : v.length ≤ 20) (vok : PyData.strOk v = true)
   (hs1 : Txt.startswith v (PySem.Str.ofString "{") = sw) (hs2 : (Txt.slice v none (some 1) == PySem.Str.ofString "{") = sw)
   (J102 : JV 102 (decide (code = 102) && sw)) (J101 : JV 101 (decide (code = 101 ∧ v = PySem.Str.ofString "Embedded Object")))
   (h : ∀ ps1' ps2' h' tk gs, TriplesOk ps1'.toList → TriplesOk ps2'.toList → Fr h₀ L h' m → News h₀ L h' [(it, io), (cl, co), (214, tabO ps1'), (221, tabO ps2')] → AllBare gs → Q (.bool true) { s with heap := h', toks := tk, gens := gs }) :
   wpAny (model prog w) (callerA.deeper (lawEnv qn nm mr L fa cd)) (PySem.call (.ref 470) [.int code t1, .str v t2]) Q E s := by
  obtain ⟨hh, g, d, t, os⟩ := s
  k_steps
  all_goals first
    | (refine' h ?p1 ?p2 ?hh ?tk ?gs ?o1 ?o2 ?hF ?hN ?hG
       case hF => with_reducible assumption
       case hN => exact news_sub (by with_reducible assumption) (List.forall_mem_cons.mpr ⟨by k_mem, List.forall_mem_cons.mpr ⟨by k_mem, List.forall_mem_cons.mpr ⟨by k_mem, List.forall_mem_cons.mpr ⟨by k_mem, List.forall_mem_nil _⟩⟩⟩⟩)
       case hG => with_reducible assumption
       case o1 => with_reducible assumption
       case o2 => with_reducible assumption)
end Mine
end -- T0

section -- CT5
open PySem PySem.W PyProof.Rows
namespace Mine
local macro_rules | `(tactic| k_in) => `(tactic| (refine' in_of_fr ?inF ?inX; (case inF => with_reducible assumption); (case inX => with_reducible assumption)))
local macro_rules | `(tactic| walk_at "compareOp Eq ref") => `(tactic| (k_here; (with_reducible show wpAny _ _ (compareOp CmpOp.Eq (Value.ref _) (Value.ref _)) _ _ _); (refine cmp_ofEq ?_); k_dflt (refine' eq_own ?k1 ?k2 ?k3 ?k4 ?k5 ?k6 ?k7 ?k8 ?k9 ?_; (case k1 => k_units); (case k2 => k_asm); (case k3 => k_asm); (case k4 => k_inst); (case k5 => k_asm); (case k6 => k_mem); (case k7 => k_is); (case k8 => k_is); (case k9 => k_is); k_whole)))
local macro_rules | `(tactic| walk_at "getAttr ref") => `(tactic| (k_here; (with_reducible show wpAny _ _ (getAttr (Value.ref _) (PySem.Str.ofString "code") _) _ _ _); k_dflt (refine' prop_codeK ?k1 ?k2 ?k3 ?k4 ?k5 ?k6 ?k7 ?_; (case k1 => exact ⟨rfl, Nat.le_of_ble_eq_true rfl, Nat.le_of_ble_eq_true rfl⟩); (case k2 => k_asm); (case k3 => k_asm); (case k4 => exact Top.nolimit (by with_reducible assumption)); (case k5 => k_asm); (case k6 => k_mem); (case k7 => k_mem); k_whole; intro h' tk' F' N'; (try dsimp only))))
local macro_rules | `(tactic| walk_at "getAttr ref") => `(tactic| (k_here; (with_reducible show wpAny _ _ (getAttr (Value.ref _) (PySem.Str.ofString "value") _) _ _ _); k_dflt (refine' prop_valueK ?k1 ?k2 ?k3 ?k4 ?k5 ?k6 ?k7 ?_; (case k1 => exact ⟨rfl, Nat.le_of_ble_eq_true rfl, Nat.le_of_ble_eq_true rfl⟩); (case k2 => k_asm); (case k3 => k_asm); (case k4 => exact Top.nolimit (by with_reducible assumption)); (case k5 => k_asm); (case k6 => k_mem); (case k7 => k_mem); k_whole; intro h' tk' F' N'; (try dsimp only))))
local macro_rules | `(tactic| walk_at "compareOp Eq ref ref") => `(tactic| (k_here; (with_reducible show wpAny _ _ (compareOp CmpOp.Eq (Value.ref _) (Value.ref _)) _ _ _); k_dflt (refine' eq_tup2 ?k1 ?k2 ?k3 ?k4 ?k5 ?k6 ?k7 ?_; (case k1 => k_asm); (case k2 => k_mem); (case k3 => k_mem); (case k4 => with_reducible assumption); (case k5 => with_reducible assumption); (case k6 => ke_room); (case k7 => with_reducible first | exact and_tt | exact and_cf (int_succ _) | exact and_cf (int_succ' _) | exact and_vf (by assumption)); k_whole; (try dsimp only))))
local macro_rules | `(tactic| walk_at "compareOp Eq ref") => `(tactic| (k_here; (with_reducible show wpAny _ _ (compareOp CmpOp.Eq (Value.ref _) (Value.ref _)) _ _ _); (refine cmp_ofEq ?_); k_dflt (refine' eq_turned ?k1 ?k2 ?k3 ?k4 ?k5 ?k6 ?k7 ?k8 ?k9 ?_; (case k1 => k_units); (case k2 => k_asm); (case k3 => k_asm); (case k4 => k_inst); (case k5 => k_asm); (case k6 => k_mem); (case k7 => k_is); (case k8 => k_is); (case k9 => k_is); k_whole; (try dsimp only))))
local macro_rules | `(tactic| walk_at "compareOp NotEq ref") => `(tactic| (k_here; (with_reducible show wpAny _ _ (compareOp CmpOp.NotEq (Value.ref _) (Value.ref _)) _ _ _); (refine cmp_ofNotEq ?_); k_dflt (refine' ne_own ?k1 ?k2 ?k3 ?k4 ?k5 ?k6 ?k7 ?ka ?k8 ?k9 ?kb ?_; (case k1 => k_units); (case k2 => k_asm); (case k3 => k_asm); (case k4 => k_inst); (case k5 => k_asm); (case k6 => k_mem); (case k7 => k_is); (case ka => k_is); (case k8 => k_is); (case k9 => k_is); (case kb => k_is); k_whole; (try dsimp only))))
local macro_rules | `(tactic| walk_at "binaryOp Add str str") => `(tactic| (k_here; k_dflt (refine' PyProof.Rows.add_str ?_ ?hsz; (case hsz => (simp only [PySem.Str.length_append, lit1, lit2, lit3, lit4, lit5, PySem.sizeLine_eq]; omega)); k_whole; intro _ _; (try dsimp only))))
local macro_rules | `(tactic| walk_at "callWith ref") => `(tactic| (k_here; k_dflt (refine' cw0 ?F ?X ?k ?_; (case F => k_asm); (case X => k_asm); (case k => k_is); k_whole; (try dsimp only))))
local macro_rules | `(tactic| walk_at "call type:str") => `(tactic| (k_here; (with_reducible show wpAny _ _ (PySem.call (Value.type "str") [Value.int _ _]) _ _ _); refine str_code (by omega) (by omega) ?_; intro _ _; (try dsimp only)))
local macro_rules | `(tactic| walk_at "call type:str") => `(tactic| (k_here; (with_reducible show wpAny _ _ (PySem.call (Value.type "str") [Value.ref _]) _ _ _); k_dflt (refine' str_tup ?ka ?kb ?k1 ?k2 ?k3 ?k4 ?k5 ?kc ?kd ?_; (case ka => exact rfl); (case kb => exact Nat.le_of_ble_eq_true rfl); (case k1 => k_asm); (case k2 => k_asm); (case k3 => k_mem); (case k4 => omega); (case k5 => omega); (case kc => with_reducible assumption); (case kd => with_reducible assumption); k_whole; intro _ _ h' F' N'; (try dsimp only))))
local macro_rules | `(tactic| walk_at "compareOp Eq int int") => `(tactic| (k_here; first | with_reducible refine eq_int_same ?_ | k_dflt (refine' eq_int_tt ?k ?_; (case k => exact rfl))))
local macro_rules | `(tactic| walk_at "compareOp NotEq int int") => `(tactic| (k_here; with_reducible refine ne_int_same ?_))
local macro_rules | `(tactic| walk_at "compareOp Eq str str") => `(tactic| (k_here; with_reducible refine eq_str_same ?_))
local macro_rules | `(tactic| walk_at "compareOp NotEq str str") => `(tactic| (k_here; first | with_reducible refine ne_str_same ?_ | k_dflt (refine' ne_str_eq ?k ?_; (case k => simp only [PySem.Str.empty_append, PySem.Str.append_assoc]))))
local macro_rules | `(tactic| walk_at "compareOp NotEq ref ref") => `(tactic| (k_here; (with_reducible show wpAny _ _ (compareOp CmpOp.NotEq (Value.ref _) (Value.ref _)) _ _ _); k_dflt (refine' ne_list2 ?k1 ?k2 ?k3 ?k4 ?k5 ?k6 ?k7 ?_; (case k1 => k_asm); (case k2 => k_mem); (case k3 => k_mem); (case k4 => with_reducible assumption); (case k5 => with_reducible assumption); (case k6 => ke_room); (case k7 => with_reducible first | exact and_tt | exact and_cf (int_succ _) | exact and_cf (int_succ' _) | exact and_vf (by assumption)); k_whole; (try dsimp only))))
local macro_rules | `(tactic| walk_at "call type:list") => `(tactic| (k_here; (with_reducible show wpAny _ _ (PySem.call (Value.type "list") [Value.ref _]) _ _ _); k_dflt (refine' list_tagK ?ka ?k1 ?k2 ?kb ?k3 ?k4 ?k5 ?k6 ?_; (case ka => exact ⟨rfl, Nat.le_of_ble_eq_true rfl, Nat.le_of_ble_eq_true rfl⟩); (case kb => exact Top.nolimit (by with_reducible assumption)); (case k1 => k_asm); (case k2 => k_asm); (case k3 => k_asm); (case k4 => k_mem); (case k5 => k_mem); (case k6 => k_asm); k_whole; intro l' n' h' tk' gs' F' N' l1 G'; (try k_lt l1); (try dsimp only))))
local macro_rules | `(tactic| walk_at "assign Tuple") => `(tactic| (k_here; (with_reducible show wpAny _ _ (assign (PySem.Expr.Tuple _ _ _) _ (Value.ref _)) _ _ _); k_dflt (refine' unpack_tagK ?ka ?k1 ?k2 ?kb ?k3 ?k4 ?k5 ?k6 ?k7 ?k8 ?_; (case ka => exact ⟨rfl, Nat.le_of_ble_eq_true rfl, Nat.le_of_ble_eq_true rfl⟩); (case kb => exact Top.nolimit (by with_reducible assumption)); (case k1 => k_asm); (case k2 => k_asm); (case k3 => k_asm); (case k4 => k_mem); (case k5 => k_mem); (case k6 => k_asm); (case k7 => exact rfl); (case k8 => exact rfl); k_whole; intro h' tk' gs' F' N' G'; (try dsimp only))))
local macro_rules | `(tactic| walk_at "execs cons") => `(tactic| (k_here; (try dsimp only); (with_reducible refine execs_tk ?_); intro _; (with_reducible refine wpAny_execs_cons ?_); (try dsimp only)))
local macro_rules | `(tactic| walk_at "binaryOp Mod str ref") => `(tactic| (k_here; k_dflt (refine' fmt_tup ?k2 ?k3 ?k4 ?k5 ?k6 ?_; (case k2 => k_asm); (case k3 => k_mem); (case k4 => omega); (case k5 => omega); (case k6 => with_reducible assumption); k_whole; intro _ _; (try dsimp only))))
local macro_rules | `(tactic| walk_at "call type:tuple") => `(tactic| (k_here; (with_reducible show wpAny _ _ (PySem.call (Value.type "tuple") [Value.ref _]) _ _ _); k_dflt (first
  | (refine' tuple_tagK ?ka ?k1 ?k2 ?kb ?k3 ?k4 ?k5 ?k6 ?_; (case ka => exact ⟨rfl, Nat.le_of_ble_eq_true rfl, Nat.le_of_ble_eq_true rfl⟩); (case kb => exact Top.nolimit (by with_reducible assumption)); (case k1 => k_asm); (case k2 => k_asm); (case k3 => k_asm); (case k4 => k_mem); (case k5 => k_mem); (case k6 => k_asm); k_whole; intro l' h' tk' gs' F' N' l1 G'; (try k_lt l1); (try dsimp only))
  | (refine' tuple_same ?k3 ?k4 ?_; (case k3 => k_asm); (case k4 => k_mem); k_whole; (try dsimp only)))))
local macro_rules | `(tactic| walk_at "call ref") => `(tactic| (k_here; (with_reducible show wpAny _ _ (PySem.call (Value.ref _) [Value.ref _]) _ _ _); k_dflt (refine' call_191 ?ka ?k1 ?k2 ?kb ?kc ?k3 ?k4 ?kd ?ke ?k5 ?_; (case ka => exact ⟨rfl, Nat.le_of_ble_eq_true rfl, Nat.le_of_ble_eq_true rfl⟩); (case kb => exact Top.nolimit (by with_reducible assumption)); (case kc => exact Top.g (by with_reducible assumption)); (case k1 => k_asm); (case k2 => k_asm); (case k3 => k_asm); (case k4 => k_mem); (case kd => k_mem); (case ke => k_mem); (case k5 => k_asm); k_whole; intro a' h' tk' gs' F' N' G' R'; (try dsimp only))))
local macro_rules | `(tactic| walk_at "call type:list") => `(tactic| (k_here; (with_reducible show wpAny _ _ (PySem.call (Value.type "list") [Value.ref _]) _ _ _); k_dflt (refine' list_191 (R := ?k8) ?ka ?k1 ?k3 ?k7 ?_; (case k8 => with_reducible assumption); (case ka => exact ⟨rfl, Nat.le_of_ble_eq_true rfl, Nat.le_of_ble_eq_true rfl⟩); (case k1 => k_asm); (case k3 => k_asm); (case k7 => k_asm); k_whole; intro l' n' y1' d1' y2' d2' h' tk' gs' F' N' G'; (try dsimp only))))
local macro_rules | `(tactic| walk_at "subscriptTail") => `(tactic| (k_here; (with_reducible show wpAny _ _ (subscriptTail (PySem.Expr.Name _ _) (PySem.Expr.Constant _ _ _) (Value.ref _) (Value.int _ _)) _ _ _); k_dflt (refine' item_made ?k1 ?k2 ?k3 ?k4 ?k5 ?_ ?k6; (case k1 => k_asm); (case k2 => k_mem); (case k3 => decide); (case k4 => decide); (case k5 => exact rfl); (case k6 => with_unfolding_all rfl); k_whole; (try dsimp only))))
local macro_rules | `(tactic| walk_at "subscriptTail Name Constant ref int") => `(tactic| (k_here; (with_reducible show wpAny _ _ (subscriptTail (PySem.Expr.Name _ _) (PySem.Expr.Constant _ _ _) (Value.ref _) (Value.int _ _)) _ _ _); k_dflt (refine' item_made ?k1 ?k2 ?k3 ?k4 ?k5 ?_ ?k6; (case k1 => k_asm); (case k2 => k_mem); (case k3 => decide); (case k4 => decide); (case k5 => exact rfl); (case k6 => with_unfolding_all rfl); k_whole; (try dsimp only))))
theorem lit1 : (PySem.Str.ofString "(").length = 1 := by decide +kernel
theorem lit2 : (PySem.Str.ofString ", '").length = 3 := by decide +kernel
theorem lit3 : (PySem.Str.ofString "')").length = 2 := by decide +kernel
theorem lit4 : (PySem.Str.ofString "x").length = 1 := by decide +kernel
theorem lit5 : (PySem.Str.ofString "\n").length = 1 := by decide +kernel
abbrev lawEnvP (qn : PySem.Str) (nm : List (PySem.Str × NameKind)) (mr : List (PySem.Str × Const)) (L fa : Addr) (cd : Value) : Env := envOf qn { kind := ScopeKind.function, names := nm, isGenerator := false, isCoroutine := false, more := mr } L fa cd
theorem pair_walk {w : World} {base h₀ : Heap} {L fa : Addr} {cd : Value} {nm : List (PySem.Str × NameKind)} {mr : List (PySem.Str × Const)} {qn : PySem.Str} {m mg mb : PySem.Str → Option Value} {s : Shared} {cl it : Addr} {co io ta tb : Obj} {Q : Value → Shared → Prop} {E : Value → Shared → Prop}
   {p : Program} {loose : List PySem.Str} {mean : ExcName → Option Value}
   (B : Below callerA base [] h₀) (F : Fr h₀ L s.heap m) (X : (hd.heap_39 w.params).In h₀) (N : News h₀ L s.heap [(it, io), (cl, co), (214, ta), (221, tb)]) (T : Top p loose mean mg mb h₀)
   (code : Int) (lo : -10 ≤ code) (hi : code ≤ 1109) (v : PySem.Str) (t1 t2 : Tok) (G : AllBare s.gens) (vlen : v.length ≤ 20) (nl1 : 1 ≤ (numT code).length) (nl2 : (numT code).length ≤ 4) (vrep : reprText v = PySem.Str.ofString "'" ++ v ++ PySem.Str.ofString "'") (vok : PyData.strOk v = true) (vxok : PyData.strOk (v ++ PySem.Str.ofString "x") = true) (vx : (v == v ++ PySem.Str.ofString "x") = false) (vx' : (v ++ PySem.Str.ofString "x" == v) = false)
   (h : ∀ h' tk gs, Fr h₀ L h' m → News h₀ L h' [(it, io), (cl, co), (214, ta), (221, tb)] → AllBare gs → Q (.bool true) { s with heap := h', toks := tk, gens := gs }) :
   wpAny (model prog w) (callerA.deeper (lawEnvP qn nm mr L fa cd)) (PySem.call (.ref 477) [.int code t1, .str v t2]) Q E s := by
  obtain ⟨hh, g, d, t, os⟩ := s
  k_steps
  all_goals first
    | (refine h _ _ _ (by with_reducible assumption) (news_sub (by with_reducible assumption) (List.forall_mem_cons.mpr ⟨by k_mem, List.forall_mem_cons.mpr ⟨by k_mem, List.forall_mem_cons.mpr ⟨by k_mem, List.forall_mem_cons.mpr ⟨by k_mem, List.forall_mem_nil _⟩⟩⟩⟩)) (by with_reducible assumption))
end Mine
end -- CT5

section -- Z0
open PySem PySem.W PyProof.Rows PySem.Calls
namespace Mine
abbrev ledg (cl : Addr) (co : Obj) (ps1 ps2 : Array Value) : List (Addr × Obj) := [(cl, co), (214, tabO ps1), (221, tabO ps2)]
/-- a for loop, once its source is known -/
def LoopL (w : World) (A : Around) (env : Env) (x : PySem.Str) (px : Pos) (body : List Stmt) (Q : Flow → Shared → Prop) (E : Value → Shared → Prop) (v : Value) (s : Shared) : Prop :=
  wpAny (model prog w) A (pyIter v) (fun it s₂ => codeAny (model prog w) A (.forLoop (.Name x px) it body [] env) (fun r s' => match r with | .ok f => Q f s' | .error e => cameBackBy (model prog w) A env E e s') s₂) E s
/-- the end of a turn: the tables may have grown -/
def TurnL (h₀ : Heap) (L : Addr) (x : PySem.Str) (stored : List PySem.Str) (m₀ : PySem.Str → Option Value) (I : Addr) (o : Obj) (cl : Addr) (co : Obj) (s : Shared) : Flow → Shared → Prop := fun f s' =>
  f = .next ∧ ∃ h' tk gs ps1 ps2 m', s' = { s with heap := h', toks := tk, gens := gs } ∧ Fr h₀ L h' m' ∧ (∀ y, y ≠ x → stored.contains y = false → m' y = m₀ y) ∧ News h₀ L h' ((I, o) :: ledg cl co ps1 ps2) ∧ TriplesOk ps1.toList ∧ TriplesOk ps2.toList ∧ AllBare gs
theorem turnL_end {h₀ h' : Heap} {L I cl : Addr} {x : PySem.Str} {stored : List PySem.Str} {m₀ m' : PySem.Str → Option Value} {o co : Obj} {s s' : Shared} {ps1 ps2 : Array Value} {news : List (Addr × Obj)} (F : Fr h₀ L h' m') (N : News h₀ L h' news) (hs : s' = { s with heap := h', toks := s'.toks, gens := s'.gens })
    (sub : ∀ p ∈ (I, o) :: ledg cl co ps1 ps2, p ∈ news) (o1 : TriplesOk ps1.toList) (o2 : TriplesOk ps2.toList) (G : AllBare s'.gens) (same : ∀ y, y ≠ x → stored.contains y = false → m' y = m₀ y) : TurnL h₀ L x stored m₀ I o cl co s .next s' :=
  ⟨rfl, h', s'.toks, s'.gens, ps1, ps2, m', hs, F, same, news_sub N sub, o1, o2, G⟩
section
variable {w : World} {A : Around} {E : Value → Shared → Prop} {s : Shared} {env : Env} {x : PySem.Str} {px pos : Pos} {iter : PySem.Expr} {body : List Stmt} {Q : Flow → Shared → Prop} {L cl r : Addr} {h₀ : Heap} {m₀ : PySem.Str → Option Value} {co : Obj} {ps1 ps2 : Array Value}
theorem loopL_begin (hs : ∀ x, foldedSetIterable iter env x = pure x) (h : wpAny (model prog w) A (eval iter env) (LoopL w A env x px body Q E) E s) : wpAny (model prog w) A (exec (.For (.Name x px) iter body [] pos) env) Q E s :=
  wpAny_For h hs
theorem fr_eqv {h₀ h : Heap} {L : Addr} {m m' : PySem.Str → Option Value} (F : Fr h₀ L h m) (e : ∀ y, m y = m' y) : Fr h₀ L h m' := by
  rw [show m' = m from funext fun y => (e y).symm]; exact F
theorem loopL_range {a b : Int} {t u v : Tok} {n : Nat} {news : List (Addr × Obj)} (stored : List PySem.Str) (hh : A.handled = none) (hx : env.kindOf x = some .local) (hL : env.locals = L) (hcls : (env.scope.kind == .class || (env.scope.kind == .module && env.locals != env.globals)) = false)
    (hr : IsRange s.heap r 0 b 1 t u v) (hsm : Builtin.Range.small 0 b 1 = true) (hn : Builtin.Range.rangeSize 0 b 1 = (n : Int)) (F : Fr h₀ L s.heap m₀) (N : News h₀ L s.heap news) (sub : ∀ p ∈ ledg cl co ps1 ps2, p ∈ news) (o1 : TriplesOk ps1.toList) (o2 : TriplesOk ps2.toList) (G : AllBare s.gens)
    (turn : ∀ (k : Nat) t (um : PySem.Str → Option Value) h tk gs q1 q2 I o, @LT.lt Nat _ cl I → @LT.lt Nat _ 214 I → @LT.lt Nat _ 221 I → k < n → Fr h₀ L h (fun y => if y = x then some (.int (k : Int) t) else if stored.contains y then um y else m₀ y) → News h₀ L h [(I, o), (cl, co), (214, tabO q1), (221, tabO q2)] → TriplesOk q1.toList → TriplesOk q2.toList → AllBare gs →
      wpAny (model prog w) A (execs body env) (TurnL h₀ L x stored m₀ I o cl co { s with heap := h, toks := tk, gens := gs }) (fun _ _ => False) { s with heap := h, toks := tk, gens := gs })
    (done : ∀ (um : PySem.Str → Option Value) h tk gs q1 q2, Fr h₀ L h (fun y => if y = x then um y else if stored.contains y then um y else m₀ y) → News h₀ L h (ledg cl co q1 q2) → TriplesOk q1.toList → TriplesOk q2.toList → AllBare gs → Q .next { s with heap := h, toks := tk, gens := gs }) :
    LoopL w A env x px body Q E (.ref r) s := by
  subst hL
  unfold LoopL
  have NS := news_sub N sub
  refine wpAny_pyIter_range hr hsm ?_
  have gI : (s.heap.push { cls := .type "range_iterator", data := .fields #[rawInt 0, rawInt (Builtin.Range.rangeSize 0 b 1), rawInt 1] }).get? s.heap.objs.size = some { cls := .type "range_iterator", data := .fields #[rawInt 0, rawInt (Builtin.Range.rangeSize 0 b 1), rawInt 1] } := Heap.get?_push_size _ rfl
  have up : Ext s.heap (s.heap.push { cls := .type "range_iterator", data := .fields #[rawInt 0, rawInt (Builtin.Range.rangeSize 0 b 1), rawInt 1] }) := fun b o e => Heap.get?_push_of_some _ e
  generalize s.heap.push { cls := .type "range_iterator", data := .fields #[rawInt 0, rawInt (Builtin.Range.rangeSize 0 b 1), rawInt 1] } = H at gI up ⊢
  rw [hn] at gI
  obtain ⟨oL, _, _, hoL, _⟩ := id F.ns
  have IL : s.heap.objs.size ≠ env.locals := Nat.ne_of_gt (Heap.lt_size hoL)
  have I0 : h₀.get? s.heap.objs.size = none := by
    cases e : h₀.get? s.heap.objs.size with
    | none => rfl
    | some o => exact absurd (Heap.lt_size (F.keep _ _ e)) (Nat.lt_irrefl _)
  have ltI : ∀ p ∈ ledg cl co ps1 ps2, p.1 < s.heap.objs.size := fun p hp => Heap.lt_size (NS p hp).1
  have h1 : @LT.lt Nat _ cl s.heap.objs.size := ltI (cl, co) (by simp [ledg])
  have h2 : @LT.lt Nat _ 214 s.heap.objs.size := ltI (214, tabO ps1) (by simp [ledg])
  have h3 : @LT.lt Nat _ 221 s.heap.objs.size := ltI (221, tabO ps2) (by simp [ledg])
  generalize s.heap.objs.size = I at *
  refine codeAny_forLoop (R := fun r s' => match r with | .ok f => Q f s' | .error e => cameBackBy (model prog w) A env E e s')
    (fun j s' => ∃ (k : Nat) (h' : Heap) (tk : Nat) (gs : Array GenState) (q1 q2 : Array Value) (m' : PySem.Str → Option Value), j = n - k ∧ k ≤ n ∧ s' = { s with heap := h', toks := tk, gens := gs } ∧ Fr h₀ env.locals h' m' ∧ (∀ y, y ≠ x → stored.contains y = false → m' y = m₀ y) ∧ IsRangeIter h' I (k : Int) ((n : Int) - (k : Int)) 1 ∧ News h₀ env.locals h' (ledg cl co q1 q2) ∧ TriplesOk q1.toList ∧ TriplesOk q2.toList ∧ AllBare gs) ?_ n ?_
  · rintro j s' ⟨k, h', tk, gs, q1, q2, m', rfl, hk, rfl, F', same, hit, N', p1, p2, G'⟩
    have un : ∀ b o, h₀.get? b = some o → b ≠ I := fun b o e z => by rw [z, I0] at e; cases e
    by_cases hkn : k = n
    · subst hkn
      refine wpAny_pyNext_range_end hh hit (by omega) fun h₁ hs₁ => ?_
      refine wpAny_execs_nil ?_
      have F'' : Fr h₀ env.locals h' (fun y => if y = x then m' y else if stored.contains y then m' y else m₀ y) := fr_eqv F' fun y => by
        by_cases hy : y = x
        · rw [if_pos hy]
        · rw [if_neg hy]
          by_cases hc : stored.contains y = true
          · rw [if_pos hc]
          · rw [if_neg hc]; exact same y hy (by simpa using hc)
      refine done m' h₁ tk gs q1 q2 ⟨F''.ns.at' fun o e => hs₁ _ o (Ne.symm IL) e, fun b o e => hs₁ b o (un b o e) (F'.keep b o e), F'.above⟩ (fun p hp => ⟨hs₁ _ _ (fun z => ?_) (N' p hp).1, (N' p hp).2⟩) p1 p2 G'
      · have e := (N' p hp).1
        rcases List.mem_cons.mp hp with rfl | hp
        · exact absurd z (Nat.ne_of_lt h1)
        rcases List.mem_cons.mp hp with rfl | hp
        · exact absurd z (Nat.ne_of_lt h2)
        rcases List.mem_cons.mp hp with rfl | hp
        · exact absurd z (Nat.ne_of_lt h3)
        · cases hp
    · refine wpAny_pyNext_range_item hit (by omega) fun h₁ hit₁ hs₁ => ?_
      have F₁ : Fr h₀ env.locals h₁ m' := ⟨F'.ns.at' fun o e => hs₁.extBut _ o (Ne.symm IL) e, fun b o e => hs₁.extBut b o (un b o e) (F'.keep b o e), F'.above⟩
      refine wpAny_assign_Name (wpAny_storeName_local hx F₁.ns (fun h₂ hn₂ hs₂ => ?_) hcls)
      have F₂ : Fr h₀ env.locals h₂ _ := F₁.set hn₂ hs₂
      have hit₂ : IsRangeIter h₂ I ((k : Int) + 1) ((n : Int) - k - 1) 1 := hs₂.extBut _ _ IL hit₁
      have nI : ∀ p ∈ ledg cl co q1 q2, p.1 ≠ I := fun p hp z => by
        rcases List.mem_cons.mp hp with rfl | hp
        · exact absurd z (Nat.ne_of_lt h1)
        rcases List.mem_cons.mp hp with rfl | hp
        · exact absurd z (Nat.ne_of_lt h2)
        rcases List.mem_cons.mp hp with rfl | hp
        · exact absurd z (Nat.ne_of_lt h3)
        · cases hp
      have N₂ : News h₀ env.locals h₂ ((I, _) :: ledg cl co q1 q2) := fun p hp => by
        rcases List.mem_cons.mp hp with rfl | hp
        · exact ⟨hit₂, IL, I0⟩
        · exact ⟨hs₂.extBut _ _ (N' p hp).2.1 (hs₁.extBut _ _ (nI p hp) (N' p hp).1), (N' p hp).2⟩
      refine wpAny_mono (turn k tk m' h₂ _ gs q1 q2 I _ h1 h2 h3 (by omega) (fr_eqv F₂ fun y => ?_) N₂ p1 p2 G') (fun f s₃ hf => ?_) fun _ _ z => z.elim
      · by_cases hy : y = x
        · rw [if_pos hy, if_pos hy]
        · rw [if_neg hy, if_neg hy]
          by_cases hc : stored.contains y = true
          · rw [if_pos hc]
          · rw [if_neg hc]; exact same y hy (by simpa using hc)
      · obtain ⟨rfl, h₃, tk₃, gs₃, r1, r2, m₃, rfl, F₃, same₃, N₃, w1, w2, G₃⟩ := hf
        refine ⟨n - (k + 1), by omega, k + 1, h₃, tk₃, gs₃, r1, r2, m₃, rfl, by omega, rfl, F₃, same₃, ?_, fun p hp => N₃ p (.tail _ hp), w1, w2, G₃⟩
        have e := (N₃ (I, _) (.head _)).1
        show h₃.get? I = _
        rw [e]
        congr 1
        simp only [Obj.mk.injEq, true_and, and_true]
        have : ((n : Int) - (k : Int) - 1) = (n : Int) - ((k + 1 : Nat) : Int) := by omega
        rw [this]
        rfl
  · exact ⟨0, H, _, s.gens, ps1, ps2, m₀, by omega, Nat.zero_le _, rfl, F.keeps up, fun _ _ _ => rfl, by simpa using gI, fun p hp => ⟨up _ _ (NS p hp).1, (NS p hp).2⟩, o1, o2, G⟩
end
end Mine
end -- Z0

section -- Z2
open PySem PySem.W PyProof.Rows PySem.Calls
namespace Mine
def noProg : Program := { (default : Program) with main := { (default : Program).main with body := [] } }
theorem noProg_recs : recsOf noProg = [] := rfl
theorem hid_get {h : Heap} {b : Addr} {o : Obj} (e : h.get? b = some o) (h1 : b ≠ 214) (h2 : b ≠ 221) : (hideAll h [214, 221]).get? b = some o :=
  hideAll_get _ e fun hm => by
    rcases List.mem_cons.mp hm with z | hm
    · exact h1 z
    rcases List.mem_cons.mp hm with z | hm
    · exact h2 z
    · cases hm
theorem hid_top {p : Program} {loose : List PySem.Str} {mean : ExcName → Option Value} {mg mb : PySem.Str → Option Value} {h : Heap} {o1 o2 : Obj} (T : Top p loose mean mg mb h) (i : importsNone p = true) (e1 : h.get? 214 = some o1) (e2 : h.get? 221 = some o2) (n1 : o1.cls = .none) (n2 : o2.cls = .none) :
    Top noProg (loose ++ (recsOf p).map (·.name) ++ (litsOf p).map (·.1) ++ (clssOf p loose).map (·.name)) (fun _ => none) mg mb (hideAll h [214, 221]) where
  g := T.g.at' fun o e => hid_get e (by decide) (by decide)
  b := T.b.at' fun o e => hid_get e (by decide) (by decide)
  nolimit := by
    obtain ⟨mc, a, b⟩ := T.nolimit
    exact ⟨mc, a.at' fun o e => hid_get e (by decide) (by decide), b⟩
  nodigits := by
    obtain ⟨mc, a, b⟩ := T.nodigits
    exact ⟨mc, a.at' fun o e => hid_get e (by decide) (by decide), b⟩
  fn := fun d hd => nomatch hd
  own := fun d hd => nomatch hd
  const := fun x d hd => nomatch hd
  free := fun x a b _ _ _ => T.free x a (fun z => b (by simp [z])) (fun z => b (List.mem_append_left _ (List.mem_append_left _ (List.mem_append_right _ z)))) (fun z => b (List.mem_append_left _ (List.mem_append_right _ z))) (fun z => b (List.mem_append_right _ z))
  builtins := T.builtins
  tab := fun d hd => nomatch hd
  bmain := by
    obtain ⟨bm, ob, a1, a2, a3, a4, a5⟩ := T.bmain
    exact ⟨bm, ob, a1, a2, hid_get a3 (fun z => by rw [z, e1] at a3; cases a3; rw [n1] at a4; cases a4) (fun z => by rw [z, e2] at a3; cases a3; rw [n2] at a4; cases a4), a4, a5⟩
  seer := fun _ => by
    have S := T.seer i
    refine ⟨?_, ?_, ?_, ?_⟩
    · obtain ⟨mc, a, b⟩ := S.statics
      exact ⟨mc, a.at' fun o e => hid_get e (by decide) (by decide), b⟩
    · obtain ⟨mc, a, b⟩ := S.mods
      exact ⟨mc, a.at' fun o e => hid_get e (by decide) (by decide), b⟩
    · obtain ⟨mc, a, b⟩ := S.imp
      exact ⟨mc, a.at' fun o e => hid_get e (by decide) (by decide), b⟩
    · obtain ⟨mg, bm, ob, a, b, c, d, e⟩ := S.main
      exact ⟨mg, bm, ob, a.at' fun o e => hid_get e (by decide) (by decide), b, hid_get c (fun z => by rw [z, e1] at c; cases c; rw [n1] at d; cases d) (fun z => by rw [z, e2] at c; cases c; rw [n2] at d; cases d), d, e⟩
theorem hid_in {w : World} {h : Heap} (X : (hd.heap_39 w.params).In h) : (hd.heap_39 w.params).In (hideAll h [214, 221]) := fun b o e =>
  hid_get (X b o e) (fun z => by rw [z] at e; exact absurd e (by rw [show (hd.heap_39 w.params).lookup 214 = none from rfl]; exact nofun)) (fun z => by rw [z] at e; exact absurd e (by rw [show (hd.heap_39 w.params).lookup 221 = none from rfl]; exact nofun))
theorem hid_fr {h h' : Heap} {L : Addr} {m : PySem.Str → Option Value} (F : Fr h L h' m) : Fr (hideAll h [214, 221]) L h' m := ⟨F.ns, fun b o e => F.keep b o (of_hideAll _ e), by rw [hideAll_size]; exact F.above⟩
theorem hid_news {h h' : Heap} {L : Addr} {m : PySem.Str → Option Value} {q1 q2 : Array Value} (F : Fr h L h' m) (e1 : h.get? 214 = some (tabO q1)) (e2 : h.get? 221 = some (tabO q2)) : News (hideAll h [214, 221]) L h' [(214, tabO q1), (221, tabO q2)] := fun p hp => by
  rcases List.mem_cons.mp hp with rfl | hp
  · exact ⟨F.keep _ _ e1, Nat.ne_of_lt (Nat.lt_of_lt_of_le (Heap.lt_size e1) F.above), hideAll_none _ (by simp)⟩
  rcases List.mem_cons.mp hp with rfl | hp
  · exact ⟨F.keep _ _ e2, Nat.ne_of_lt (Nat.lt_of_lt_of_le (Heap.lt_size e2) F.above), hideAll_none _ (by simp)⟩
  · cases hp
end Mine
end -- Z2

section -- Z3
open PySem PySem.W PyProof.Rows PySem.Calls
namespace Mine
theorem tab_named {w : World} {p : Program} {loose : List PySem.Str} {mean : ExcName → Option Value} {mg mb : PySem.Str → Option Value} {h : Heap} {f c : Addr} {oc : Value} {od : Option Addr} {fd : FuncData} {sl : Array (Option Value)} (x : PySem.Str) (T : Top p loose mean mg mb h) (hm : (recsOf p).any (fun e => e.name == x) = true) (hf : mg x = some (.ref f))
    (X : (hd.heap_39 w.params).In h) (hl : (hd.heap_39 w.params).lookup f = some ⟨oc, od, .func fd, sl⟩) (hc : fd.code = .ref c) : ∃ P, h.IsCode c P #[] ∧ h.TableAt c P #[] := by
  obtain ⟨d, hd', hx⟩ := List.any_eq_true.mp hm
  obtain ⟨a, o, fd', c', P', e1, e2, e3, e4, e5, e6⟩ := T.tab d hd'
  rw [beq_iff_eq.mp hx, hf] at e1
  cases e1
  have e := X _ _ hl
  rw [e2] at e
  cases e
  cases e3
  rw [hc] at e4
  cases e4
  exact ⟨P', e5, e6⟩
section
variable {w : World} {loose : List PySem.Str} {mean : ExcName → Option Value} {mg mb : PySem.Str → Option Value} {h : Heap}
theorem tab219 (T : Top hd.view_39 loose mean mg mb h) (X : (hd.heap_39 w.params).In h) : h.TableAt 218 214 #[] := by
  obtain ⟨P, e, t⟩ := tab_named (f := 219) (c := 218) "has_valid_xdata_group_codes" T (by decide +kernel) (mg_of X T.g (by k_is)) X rfl rfl
  obtain ⟨⟨o, vs, a1, a2, a3, a4⟩, a5⟩ := id t
  have z := X 218 _ rfl
  rw [a1] at z
  cases z
  cases a3
  cases a4
  exact t
theorem tab226 (T : Top hd.view_39 loose mean mg mb h) (X : (hd.heap_39 w.params).In h) : h.TableAt 225 221 #[] := by
  obtain ⟨P, e, t⟩ := tab_named (f := 226) (c := 225) "filter_invalid_xdata_group_codes" T (by decide +kernel) (mg_of X T.g (by k_is)) X rfl rfl
  obtain ⟨⟨o, vs, a1, a2, a3, a4⟩, a5⟩ := id t
  have z := X 225 _ rfl
  rw [a1] at z
  cases z
  cases a3
  cases a4
  exact t
end
end Mine
end -- Z3

section -- Y0
open PySem PySem.W PyProof.Rows
namespace Mine
theorem and_pow (n i : Nat) : n &&& 2 ^ i = (n.testBit i).toNat * 2 ^ i := by
  apply Nat.eq_of_testBit_eq
  intro j
  rw [Nat.testBit_and, Nat.testBit_two_pow]
  by_cases e : i = j
  · subst e
    cases h : n.testBit i
    · simp
    · simp [Nat.testBit_two_pow]
  · cases h : n.testBit i
    · simp [e]
    · simp [e, Nat.testBit_two_pow]
theorem bit_nat (m : Nat) : ((m &&& 33554432) = 0) ↔ m / 33554432 % 2 = 0 := by
  have h := and_pow m 25
  rw [show (2 : Nat) ^ 25 = 33554432 from rfl] at h
  rw [h, Nat.testBit_eq_decide_div_mod_eq, show (2 : Nat) ^ 25 = 33554432 from rfl]
  by_cases q : m / 33554432 % 2 = 1
  · simp [q]
  · simp [q]
    omega
theorem bit_nat' (m : Nat) : ((33554432 &&& m) = 0 ∨ (33554432 &&& m) = 33554432) := by
  have h := and_pow m 25
  rw [show (2 : Nat) ^ 25 = 33554432 from rfl] at h
  rw [Nat.and_comm, h]
  cases m.testBit 25 <;> simp
theorem bit_law (n : Int) : (Builtin.bitAnd n 33554432 != 0) = ((n.fdiv 33554432).fmod 2 == 1) := by
  rw [Int.fdiv_eq_ediv_of_nonneg n (by omega), Int.fmod_eq_emod_of_nonneg _ (by omega)]
  by_cases h : 0 ≤ n
  · rw [PyProof.Rows.bitAnd_pp h (by omega)]
    have b := bit_nat n.toNat
    rw [show (33554432 : Int).toNat = 33554432 from rfl]
    by_cases q : n.toNat &&& 33554432 = 0
    · have := b.mp q
      rw [q]
      have e : (n / 33554432 % 2 == 1) = false := by rw [beq_eq_false_iff_ne]; omega
      rw [e]; rfl
    · have b' := fun z => q (b.mpr z)
      have e : (n / 33554432 % 2 == 1) = true := by rw [beq_iff_eq]; omega
      rw [e, bne_iff_ne]
      intro z
      exact q (by exact_mod_cast z)
  · rw [PyProof.Rows.bitAnd_np h (by omega)]
    rw [show (33554432 : Int).toNat = 33554432 from rfl]
    have hm : (Builtin.bitNot n).toNat = (-n - 1).toNat := by
      congr 1
    rw [hm]
    have b := bit_nat (-n - 1).toNat
    rw [Nat.and_comm] at b
    by_cases q : 33554432 &&& (-n - 1).toNat = 0
    · have := b.mp q
      rw [q]
      have e : (n / 33554432 % 2 == 1) = true := by rw [beq_iff_eq]; omega
      rw [e]; rfl
    · have b' := fun z => q (b.mpr z)
      have q2 := (bit_nat' (-n - 1).toNat).resolve_left q
      rw [q2]
      have e : (n / 33554432 % 2 == 1) = false := by rw [beq_eq_false_iff_ne]; omega
      rw [e]; rfl
end Mine
end -- Y0

section -- Z4
open PySem PySem.W PyProof.Rows PySem.Calls
namespace Mine
theorem old_end {h₁ h' : Heap} {L : Addr} {m : PySem.Str → Option Value} {news : List (Addr × Obj)} {q1 q2 : Array Value} (F : Fr (hideAll h₁ [214, 221]) L h' m) (N : News (hideAll h₁ [214, 221]) L h' news) (m1 : (214, tabO q1) ∈ news) (m2 : (221, tabO q2) ∈ news) (t1 : h₁.TableAt 218 214 #[]) (t2 : h₁.TableAt 225 221 #[]) : OldK h₁ h' where
  old := fun b o e => by
    by_cases e1 : b = 214
    · subst e1
      rw [t1.2] at e
      cases e
      exact .inr (.inl ⟨t1.isCodeTable, rfl, #[], q1, rfl, by rw [(N _ m1).1, Array.empty_append]⟩)
    by_cases e2 : b = 221
    · subst e2
      rw [t2.2] at e
      cases e
      exact .inr (.inl ⟨t2.isCodeTable, rfl, #[], q2, rfl, by rw [(N _ m2).1, Array.empty_append]⟩)
    exact .inl (F.keep b o (hid_get e e1 e2))
  there := fun b o e => by
    by_cases e1 : b = 214
    · subst e1; exact ⟨_, (N _ m1).1⟩
    by_cases e2 : b = 221
    · subst e2; exact ⟨_, (N _ m2).1⟩
    exact ⟨o, F.keep b o (hid_get e e1 e2)⟩
theorem good_end {c : ClaimW} {cl : PySem.Str → Option Addr} {mean : ExcName → Option Value} {args : List WData} {s₁ s' : Shared} {L : Addr} {m : PySem.Str → Option Value} {news : List (Addr × Obj)} {q1 q2 : Array Value} (F : Fr (hideAll s₁.heap [214, 221]) L s'.heap m) (N : News (hideAll s₁.heap [214, 221]) L s'.heap news)
    (m1 : (214, tabO q1) ∈ news) (m2 : (221, tabO q2) ∈ news) (t1 : s₁.heap.TableAt 218 214 #[]) (t2 : s₁.heap.TableAt 225 221 #[]) (hos : s'.os = s₁.os) (G : AllBare s'.gens) (hn : ∀ cls, c.raises args cls = false) (hp : c.post args (.bool true) args = true) :
    GoodWG c cl mean args s₁ (.ok (.ret (.bool true))) s' :=
  ⟨.inl ⟨_, _, _, rfl, hn, .bool _, hp, fun _ => ⟨List.nodup_nil, fun a ha => nomatch ha⟩⟩, old_end F N m1 m2 t1 t2, hos, G⟩
theorem hid_list {h : Heap} {a : Addr} {items : Array Value} (l : h.IsList a items) (t1 : h.TableAt 218 214 #[]) (t2 : h.TableAt 225 221 #[]) : (hideAll h [214, 221]).IsList a items := by
  obtain ⟨o, e, hc, r⟩ := l
  refine ⟨o, hid_get e (fun z => ?_) (fun z => ?_), hc, r⟩
  · rw [z, t1.2] at e; cases e; cases hc
  · rw [z, t2.2] at e; cases e; cases hc
end Mine
end -- Z4

section -- S1
open PySem PySem.W PyProof.Rows
namespace Mine
abbrev clearN (n : Int) : Bool := n == 16777216 || (n.fdiv 33554432).fmod 2 == 1
theorem clear_tt {n : Int} (h : n = 16777216) : (n == 16777216) = clearN n := by rw [clearN, h]; rfl
theorem clear_f1 {n : Int} (h : n ≠ 16777216) : (Builtin.bitAnd n 33554432 != 0) = clearN n := by rw [clearN, beq_eq_false_iff_ne.mpr h, Bool.false_or, bit_law]
theorem clear_f2 {n : Int} (h : n ≠ 16777216) : ((n.fdiv 33554432).fmod 2 == 1) = clearN n := by rw [clearN, beq_eq_false_iff_ne.mpr h, Bool.false_or]
local macro_rules | `(tactic| k_in) => `(tactic| (refine' in_of_fr ?inF ?inX; (case inF => with_reducible assumption); (case inX => with_reducible assumption)))
local macro_rules | `(tactic| walk_at "callWith ref") => `(tactic| (k_here; k_dflt (refine' cw0 ?F ?X ?k ?_; (case F => k_asm); (case X => k_asm); (case k => k_is); k_whole; (try dsimp only))))
local macro_rules | `(tactic| walk_at "execs cons") => `(tactic| (k_here; (try dsimp only); (with_reducible refine execs_tk ?_); intro _; (with_reducible refine wpAny_execs_cons ?_); (try dsimp only)))
abbrev lawEnvS (qn : PySem.Str) (nm : List (PySem.Str × NameKind)) (mr : List (PySem.Str × Const)) (L fa : Addr) (cd : Value) : Env := envOf qn { kind := ScopeKind.function, names := nm, isGenerator := false, isCoroutine := false, more := mr } L fa cd
theorem clear436 {w : World} {base h₀ : Heap} {L fa : Addr} {cd : Value} {nm : List (PySem.Str × NameKind)} {mr : List (PySem.Str × Const)} {qn : PySem.Str} {m mg mb : PySem.Str → Option Value} {s : Shared} {Q : Value → Shared → Prop} {E : Value → Shared → Prop}
   {p : Program} {loose : List PySem.Str} {mean : ExcName → Option Value}
   (B : Below callerA base [] h₀) (F : Fr h₀ L s.heap m) (X : (hd.heap_39 w.params).In h₀) (N : News h₀ L s.heap []) (T : Top p loose mean mg mb h₀)
   (n : Int) (t1 : Tok)
   (h : ∀ h' tk, Fr h₀ L h' m → Q (.bool (clearN n)) { s with heap := h', toks := tk }) :
   wpAny (model prog w) (callerA.deeper (lawEnvS qn nm mr L fa cd)) (PySem.call (.ref 436) [.int n t1]) Q E s := by
  obtain ⟨hh, g, d, t, os⟩ := s
  k_steps
  all_goals first
    | (rw [clear_tt (by with_reducible assumption)]; exact h _ _ (by with_reducible assumption))
    | (rw [clear_f1 (by with_reducible assumption)]; exact h _ _ (by with_reducible assumption))
    | (rw [clear_f2 (by with_reducible assumption)]; exact h _ _ (by with_reducible assumption))
theorem clear484 {w : World} {base h₀ : Heap} {L fa : Addr} {cd : Value} {nm : List (PySem.Str × NameKind)} {mr : List (PySem.Str × Const)} {qn : PySem.Str} {m mg mb : PySem.Str → Option Value} {s : Shared} {Q : Value → Shared → Prop} {E : Value → Shared → Prop}
   {p : Program} {loose : List PySem.Str} {mean : ExcName → Option Value}
   (B : Below callerA base [] h₀) (F : Fr h₀ L s.heap m) (X : (hd.heap_39 w.params).In h₀) (N : News h₀ L s.heap []) (T : Top p loose mean mg mb h₀)
   (n : Int) (t1 : Tok)
   (h : ∀ h' tk, Fr h₀ L h' m → Q (.bool (clearN n)) { s with heap := h', toks := tk }) :
   wpAny (model prog w) (callerA.deeper (lawEnvS qn nm mr L fa cd)) (PySem.call (.ref 484) [.int n t1]) Q E s := by
  obtain ⟨hh, g, d, t, os⟩ := s
  k_steps
  all_goals first
    | (rw [clear_tt (by with_reducible assumption)]; exact h _ _ (by with_reducible assumption))
    | (rw [clear_f1 (by with_reducible assumption)]; exact h _ _ (by with_reducible assumption))
    | (rw [clear_f2 (by with_reducible assumption)]; exact h _ _ (by with_reducible assumption))
theorem join_clear {M : Model} {A : Around} {f : Addr} {n : Int} {t : Tok} {h₀ : Heap} {L : Addr} {m : PySem.Str → Option Value} {news : List (Addr × Obj)} {s : Shared} {Q E : Value → Shared → Prop} (F : Fr h₀ L s.heap m) (N : News h₀ L s.heap news)
    (hj : wpAny M A (PySem.call (.ref f) [.int n t]) (JoinV h₀ L m news s (clearN n)) E s) (h : ∀ h' tk, Fr h₀ L h' m → News h₀ L h' news → Q (.bool (clearN n)) { s with heap := h', toks := tk }) : wpAny M A (PySem.call (.ref f) [.int n t]) Q E s :=
  join_begin (k := 0) (b := clearN n) trivial F N hj h
end Mine
end -- S1

section -- Z5
open PySem PySem.W PyProof.Rows PySem.Calls
namespace Mine
abbrev edgesL : List Int := [319, 320, 329, 330, 339, 340, 349, 350, 359, 360, 369, 370, 389, 390, 399, 400, 479, 480, 481, 482, 9, 10, 18, 19, 109, 110, 112, 113, 209, 210, 213, 214, 999, 1000, 1005, 1006, 1009, 1010, 1013, 1014, 1039, 1040, 1042, 1043, 1069, 1070, 1071, 1072, 101, 102]
theorem edges_at {w : World} {h : Heap} (X : (hd.heap_39 w.params).In h) : ∃ ws, h.IsList 437 ws.toArray ∧ IntsAre ws edgesL := by
  have e := X 437 _ rfl
  exact ⟨_, ⟨_, e, rfl, _, rfl⟩, intsV_are rfl⟩
structure CodesOk (cs : List Int) : Prop where
  bounds : ∀ c ∈ cs, -10 ≤ c ∧ c ≤ 1109
  len : cs.length ≤ 1000
theorem codes_ok (l : List Int) (hl : l.length ≤ 63) : CodesOk ((l.map fun k' => k'.fmod 1120 - 10) ++ edgesL) where
  bounds := fun c hc => by
    rcases List.mem_append.mp hc with h | h
    · obtain ⟨k, _, rfl⟩ := List.mem_map.mp h
      have h1 := fmod_lo k (n := 1120) (by decide)
      have h2 := fmod_hi k (n := 1120) (by decide)
      omega
    · have : edgesL.all (fun c => decide (-10 ≤ c) && decide (c ≤ 1109)) = true := by decide +kernel
      have := List.all_eq_true.mp this c h
      simpa using this
  len := by
    rw [List.length_append, List.length_map, show edgesL.length = 50 from rfl]
    omega
section
variable {w : World} {A : Around} {E : Value → Shared → Prop} {s : Shared} {D L : Addr} {h₀ : Heap} {m : PySem.Str → Option Value} {news : List (Addr × Obj)} {Q : Value → Shared → Prop} {ys : List Value} {l : List Int} {n : Nat}
theorem add_edges (F : Fr h₀ L s.heap m) (X : (hd.heap_39 w.params).In h₀) (N : News h₀ L s.heap news) (hm : (D, W.listOf ys.toArray n) ∈ news) (hi : IntsAre ys (l.map fun k' => k'.fmod 1120 - 10)) (hz : l.length ≤ 63)
    (h : ∀ D2 vs cs h', IntsAre vs cs → CodesOk cs → Fr h₀ L h' m → News h₀ L h' ((D2, W.listOf vs.toArray 0) :: news) → (∀ p ∈ news, p.1 < D2) → Q (.ref D2) { s with heap := h' }) : wpAny (model prog w) A (binaryOp .Add (.ref D) (.ref 437)) Q E s := by
  obtain ⟨ws, hw, hi2⟩ := edges_at (X.keeps F.keep)
  have hl : s.heap.IsList D ys.toArray := ⟨_, N.get hm, rfl, _, rfl⟩
  refine add_lists F N hl hw (fun h' F' N' => h _ _ _ h' (hi.append hi2) (codes_ok l hz) F' N' fun p hp => Heap.lt_size (N p hp).1) ?_
  rw [hi.length, hi2.length, List.length_map, show edgesL.length = 50 from rfl, sizeLine_eq]
  omega
end
end Mine
namespace Mine
section
variable {w : World} {A : Around} {E : Value → Shared → Prop} {s : Shared} {D L : Addr} {h₀ : Heap} {m : PySem.Str → Option Value} {news : List (Addr × Obj)} {Q : Value → Shared → Prop} {vs : List Value} {cs : List Int} {n : Nat}
theorem len_codes (N : News h₀ L s.heap news) (hm : (D, W.listOf vs.toArray n) ∈ news) (hi : IntsAre vs cs) (oc : CodesOk cs) (h : Q (.int (cs.length : Nat) (s.toks + 1)) { s with toks := s.toks + 1 + 1 }) : wpAny (model prog w) A (PySem.call (.builtin "len") [.ref D]) Q E s :=
  len_ints_fit ⟨_, N.get hm, rfl, _, rfl⟩ hi (Nat.lt_of_le_of_lt oc.len (by decide)) h
end
end Mine
namespace Mine
theorem range_codes {cs : List Int} (oc : CodesOk cs) : Builtin.Range.small 0 (cs.length : Nat) 1 = true ∧ Builtin.Range.rangeSize 0 (cs.length : Nat) 1 = ((cs.length : Nat) : Int) := by
  have h := oc.len
  have e : Builtin.Range.rangeSize 0 (cs.length : Nat) 1 = ((cs.length : Nat) : Int) := by
    rw [rangeSize_one]
    split <;> omega
  refine ⟨?_, e⟩
  exact small_one (a := 0) (b := (cs.length : Nat)) (by omega) (by omega) (by omega) (by omega)
end Mine
namespace Mine
section
variable {w : World} {A : Around} {E : Value → Shared → Prop} {s : Shared} {env : Env} {x : PySem.Str} {px pos : Pos} {iter : PySem.Expr} {body : List Stmt} {Q : Flow → Shared → Prop} {L cl r : Addr} {h₀ : Heap} {m₀ : PySem.Str → Option Value} {co : Obj} {ps1 ps2 : Array Value} {cs : List Int} {vs : List Value} {c : Nat}
theorem loopL_codes {t u v : Tok} {news : List (Addr × Obj)} {stored : List PySem.Str} (hh : A.handled = none) (hx : env.kindOf x = some .local) (hL : env.locals = L) (hcls : (env.scope.kind == .class || (env.scope.kind == .module && env.locals != env.globals)) = false)
    (hr : IsRange s.heap r 0 (cs.length : Nat) 1 t u v) (oc : CodesOk cs) (F : Fr h₀ L s.heap m₀) (N : News h₀ L s.heap news) (hm : (cl, W.listOf vs.toArray c) ∈ news) (sub : (214, tabO ps1) ∈ news ∧ (221, tabO ps2) ∈ news) (o1 : TriplesOk ps1.toList) (o2 : TriplesOk ps2.toList) (G : AllBare s.gens)
    (turn : ∀ (k : Nat) t (um : PySem.Str → Option Value) h tk gs q1 q2 I o, @LT.lt Nat _ cl I → @LT.lt Nat _ 214 I → @LT.lt Nat _ 221 I → k < cs.length → Fr h₀ L h (fun y => if y = x then some (.int (k : Int) t) else if stored.contains y then um y else m₀ y) → News h₀ L h [(I, o), (cl, W.listOf vs.toArray c), (214, tabO q1), (221, tabO q2)] → TriplesOk q1.toList → TriplesOk q2.toList → AllBare gs →
      wpAny (model prog w) A (execs body env) (TurnL h₀ L x stored m₀ I o cl (W.listOf vs.toArray c) { s with heap := h, toks := tk, gens := gs }) (fun _ _ => False) { s with heap := h, toks := tk, gens := gs })
    (done : ∀ (um : PySem.Str → Option Value) h tk gs q1 q2, Fr h₀ L h (fun y => if y = x then um y else if stored.contains y then um y else m₀ y) → News h₀ L h [(cl, W.listOf vs.toArray c), (214, tabO q1), (221, tabO q2)] → TriplesOk q1.toList → TriplesOk q2.toList → AllBare gs → Q .next { s with heap := h, toks := tk, gens := gs }) :
    LoopL w A env x px body Q E (.ref r) s :=
  loopL_range (a := 0) stored hh hx hL hcls hr (range_codes oc).1 (range_codes oc).2 F N (List.forall_mem_cons.mpr ⟨hm, List.forall_mem_cons.mpr ⟨sub.1, List.forall_mem_cons.mpr ⟨sub.2, List.forall_mem_nil _⟩⟩⟩) o1 o2 G turn done
end
end Mine
namespace Mine
theorem ints_get : ∀ {vs : List Value} {cs : List Int} {k : Nat}, IntsAre vs cs → k < cs.length → ∃ n t, vs[k]? = some (.int n t) ∧ n ∈ cs
  | _, _, 0, .cons n t _, _ => ⟨n, t, rfl, .head _⟩
  | _, _, k + 1, .cons n t r, h => by
    obtain ⟨n', t', e, m⟩ := ints_get (k := k) r (by simpa using h)
    exact ⟨n', t', by simpa using e, .tail _ m⟩
section
variable {w : World} {A : Around} {E : Value → Shared → Prop} {s : Shared} {L l : Addr} {h₀ : Heap} {news : List (Addr × Obj)} {Q : Value → Shared → Prop} {value slice : PySem.Expr} {vs : List Value} {cs : List Int} {n k : Nat} {u : Tok}
theorem item_codes (N : News h₀ L s.heap news) (hm : (l, W.listOf vs.toArray n) ∈ news) (hi : IntsAre vs cs) (oc : CodesOk cs) (hk : k < cs.length) (h : ∀ c t, -10 ≤ c → c ≤ 1109 → Q (.int c t) s)
    (hs : subscripted slice false (.ref l) (.int (k : Int) u) = operate [.ref l, .int (k : Int) u] (getItem (.ref l) (.int (k : Int) u))) :
    wpAny (model prog w) A (subscriptTail value slice (.ref l) (.int (k : Int) u)) Q E s := by
  obtain ⟨c, t, e, m⟩ := ints_get hi hk
  have b := oc.bounds c m
  have hl : s.heap.IsList l vs.toArray := ⟨_, N.get hm, rfl, _, rfl⟩
  have z := oc.len
  exact tail_any hl.typeIs slot_list_getitem.lookup (wpAny_getItem_list hl (by omega) (by omega) (by simpa using e) (h c t b.1 b.2)) hs
end
end Mine
end -- Z5

section -- Z6
open PySem PySem.W PyProof.Rows PySem.Calls
namespace Mine
def menu : List PySem.Str := [PySem.Str.ofString "", PySem.Str.ofString "a", PySem.Str.ofString "{A", PySem.Str.ofString "}", PySem.Str.ofString "Embedded Object", PySem.Str.ofString "12 b", PySem.Str.ofString "$X", PySem.Str.ofString "{"]
def menuOk (v : PySem.Str) : Bool := decide (v.length ≤ 20) && (reprText v == PySem.Str.ofString "'" ++ v ++ PySem.Str.ofString "'") && PyData.strOk v && PyData.strOk (v ++ PySem.Str.ofString "x") && !(v == v ++ PySem.Str.ofString "x") && !(v ++ PySem.Str.ofString "x" == v) &&
  ((Txt.slice v none (some 1) == PySem.Str.ofString "{") == Txt.startswith v (PySem.Str.ofString "{"))
theorem menu_ok : menu.all menuOk = true := by decide +kernel
section
variable {w : World} {base h₀ : Heap} {L fa : Addr} {cd : Value} {nm : List (PySem.Str × NameKind)} {mr : List (PySem.Str × Const)} {qn : PySem.Str} {m mg mb : PySem.Str → Option Value} {s : Shared} {cl it : Addr} {co io : Obj} {Q : Value → Shared → Prop} {E : Value → Shared → Prop} {p : Program} {loose : List PySem.Str} {mean : ExcName → Option Value} {ps1 ps2 : Array Value} {news : List (Addr × Obj)}
theorem table_call (B : Below callerA base [] h₀) (F : Fr h₀ L s.heap m) (X : (hd.heap_39 w.params).In h₀) (N : News h₀ L s.heap news) (T : Top p loose mean mg mb h₀) (m1 : (it, io) ∈ news) (m2 : (cl, co) ∈ news) (m3 : (214, tabO ps1) ∈ news) (m4 : (221, tabO ps2) ∈ news)
   (i1 : @Ne Nat it 214) (i2 : @Ne Nat it 221) (i3 : @Ne Nat cl 214) (i4 : @Ne Nat cl 221) (ok1 : TriplesOk ps1.toList) (ok2 : TriplesOk ps2.toList) (code : Int) (lo : -10 ≤ code) (hi : code ≤ 1109) (v : PySem.Str) (hv : v ∈ menu) (t1 t2 : Tok) (G : AllBare s.gens)
   (h : ∀ ps1' ps2' h' tk gs, TriplesOk ps1'.toList → TriplesOk ps2'.toList → Fr h₀ L h' m → News h₀ L h' [(it, io), (cl, co), (214, tabO ps1'), (221, tabO ps2')] → AllBare gs → Q (.bool true) { s with heap := h', toks := tk, gens := gs }) :
   wpAny (model prog w) (callerA.deeper (lawEnv qn nm mr L fa cd)) (PySem.call (.ref 470) [.int code t1, .str v t2]) Q E s := by
  have ok := List.all_eq_true.mp menu_ok v hv
  simp only [menuOk, Bool.and_eq_true, decide_eq_true_eq, Bool.not_eq_true', beq_iff_eq] at ok
  obtain ⟨⟨⟨⟨⟨⟨a1, a2⟩, a3⟩, a4⟩, a5⟩, a6⟩, a7⟩ := ok
  have NS : News h₀ L s.heap [(it, io), (cl, co), (214, tabO ps1), (221, tabO ps2)] := news_sub N (List.forall_mem_cons.mpr ⟨m1, List.forall_mem_cons.mpr ⟨m2, List.forall_mem_cons.mpr ⟨m3, List.forall_mem_cons.mpr ⟨m4, List.forall_mem_nil _⟩⟩⟩⟩)
  exact table_walk B F X NS T i1 i2 i3 i4 ok1 ok2 (Txt.startswith v (PySem.Str.ofString "{")) code (decide (code ∈ xdL)) rfl lo hi v t1 t2 G a1 a3 rfl a7 trivial trivial h
theorem pair_call (B : Below callerA base [] h₀) (F : Fr h₀ L s.heap m) (X : (hd.heap_39 w.params).In h₀) (N : News h₀ L s.heap news) (T : Top p loose mean mg mb h₀) (m1 : (it, io) ∈ news) (m2 : (cl, co) ∈ news) (m3 : (214, tabO ps1) ∈ news) (m4 : (221, tabO ps2) ∈ news)
   (code : Int) (lo : -10 ≤ code) (hi : code ≤ 1109) (v : PySem.Str) (hv : v ∈ menu) (t1 t2 : Tok) (G : AllBare s.gens)
   (h : ∀ h' tk gs, Fr h₀ L h' m → News h₀ L h' [(it, io), (cl, co), (214, tabO ps1), (221, tabO ps2)] → AllBare gs → Q (.bool true) { s with heap := h', toks := tk, gens := gs }) :
   wpAny (model prog w) (callerA.deeper (lawEnv qn nm mr L fa cd)) (PySem.call (.ref 477) [.int code t1, .str v t2]) Q E s := by
  have ok := List.all_eq_true.mp menu_ok v hv
  simp only [menuOk, Bool.and_eq_true, decide_eq_true_eq, Bool.not_eq_true', beq_iff_eq] at ok
  obtain ⟨⟨⟨⟨⟨⟨a1, a2⟩, a3⟩, a4⟩, a5⟩, a6⟩, a7⟩ := ok
  have NS : News h₀ L s.heap [(it, io), (cl, co), (214, tabO ps1), (221, tabO ps2)] := news_sub N (List.forall_mem_cons.mpr ⟨m1, List.forall_mem_cons.mpr ⟨m2, List.forall_mem_cons.mpr ⟨m3, List.forall_mem_cons.mpr ⟨m4, List.forall_mem_nil _⟩⟩⟩⟩)
  exact pair_walk B F X NS T code lo hi v t1 t2 G a1 (numT_len lo (by omega)).1 (numT_len lo (by omega)).2 a2 a3 a4 a5 a6 h
end
end Mine
end -- Z6

section -- Z7
open PySem PySem.W PyProof.Rows PySem.Calls
namespace Mine
def strsV : List Value → Option (List PySem.Str)
  | [] => some []
  | .str x _ :: r => (strsV r).map (x :: ·)
  | _ => none
theorem strs_get : ∀ {vs : List Value} {xs : List PySem.Str} {k : Nat}, strsV vs = some xs → k < xs.length → ∃ x t, vs[k]? = some (.str x t) ∧ x ∈ xs
  | [], xs, k, h, hk => by cases h; exact absurd hk (Nat.not_lt_zero _)
  | .str x t :: r, xs, k, h, hk => by
    simp only [strsV, Option.map_eq_some_iff] at h
    obtain ⟨q, hq, rfl⟩ := h
    cases k with
    | zero => exact ⟨x, t, rfl, .head _⟩
    | succ k =>
      obtain ⟨x', t', e, m⟩ := strs_get (k := k) hq (by simpa using hk)
      exact ⟨x', t', by simpa using e, .tail _ m⟩
section
variable {w : World} {A : Around} {E : Value → Shared → Prop} {s : Shared} {L l : Addr} {h₀ : Heap} {news : List (Addr × Obj)} {Q : Value → Shared → Prop} {value slice : PySem.Expr} {vs : List Value} {n : Nat} {k : Int} {u : Tok}
theorem item_menu (N : News h₀ L s.heap news) (hm : (l, W.listOf vs.toArray n) ∈ news) (hv : strsV vs = some menu) (h : ∀ v t, v ∈ menu → Q (.str v t) s)
    (hs : subscripted slice false (.ref l) (.int (k.fmod 8) u) = operate [.ref l, .int (k.fmod 8) u] (getItem (.ref l) (.int (k.fmod 8) u))) :
    wpAny (model prog w) A (subscriptTail value slice (.ref l) (.int (k.fmod 8) u)) Q E s := by
  have h1 := fmod_lo k (n := 8) (by decide)
  have h2 := fmod_hi k (n := 8) (by decide)
  obtain ⟨x, t, e, m⟩ := strs_get (k := (k.fmod 8).toNat) hv (by rw [show menu.length = 8 from rfl]; omega)
  have hl : s.heap.IsList l vs.toArray := ⟨_, N.get hm, rfl, _, rfl⟩
  exact tail_any hl.typeIs slot_list_getitem.lookup (wpAny_getItem_list hl h1 (by omega) (by simpa using e) (h x t m)) hs
end
end Mine
end -- Z7

section -- Z8
open PySem PySem.W PyProof.Rows PySem.Calls
namespace Mine
/-- in a turn of the first loop: its iterator and the list of the codes -/
structure TurnMark (I : Addr) (o : Obj) (cl : Addr) (co : Obj) : Prop where
  i1 : @Ne Nat I 214
  i2 : @Ne Nat I 221
  i3 : @Ne Nat cl 214
  i4 : @Ne Nat cl 221
theorem list_no_tab {h₀ h : Heap} {L : Addr} {news : List (Addr × Obj)} {c a : Addr} {n : Nat} {items ps : Array Value} (N : News h₀ L h news) (hm : (c, W.listOf items n) ∈ news) (ht : (a, tabO ps) ∈ news) : @Ne Nat c a := by
  intro z
  have z' : c = a := z
  subst z'
  have e1 := N.get hm
  have e2 := N.get ht
  rw [e1] at e2
  cases e2
section
variable {w : World} {base h₀ : Heap} {L fa : Addr} {cd : Value} {nm : List (PySem.Str × NameKind)} {mr : List (PySem.Str × Const)} {qn : PySem.Str} {m mg mb : PySem.Str → Option Value} {s : Shared} {cl it : Addr} {co io : Obj} {Q : Value → Shared → Prop} {E : Value → Shared → Prop} {p : Program} {loose : List PySem.Str} {mean : ExcName → Option Value} {ps1 ps2 : Array Value} {news : List (Addr × Obj)}
theorem table_callM (K : TurnMark it io cl co) (B : Below callerA base [] h₀) (F : Fr h₀ L s.heap m) (X : (hd.heap_39 w.params).In h₀) (N : News h₀ L s.heap news) (T : Top p loose mean mg mb h₀) (m1 : (it, io) ∈ news) (m2 : (cl, co) ∈ news) (m3 : (214, tabO ps1) ∈ news) (m4 : (221, tabO ps2) ∈ news)
   (ok1 : TriplesOk ps1.toList) (ok2 : TriplesOk ps2.toList) (code : Int) (lo : -10 ≤ code) (hi : code ≤ 1109) (v : PySem.Str) (hv : v ∈ menu) (t1 t2 : Tok) (G : AllBare s.gens)
   (h : ∀ ps1' ps2' h' tk gs, TriplesOk ps1'.toList → TriplesOk ps2'.toList → Fr h₀ L h' m → News h₀ L h' [(it, io), (cl, co), (214, tabO ps1'), (221, tabO ps2')] → AllBare gs → Q (.bool true) { s with heap := h', toks := tk, gens := gs }) :
   wpAny (model prog w) (callerA.deeper (lawEnv qn nm mr L fa cd)) (PySem.call (.ref 470) [.int code t1, .str v t2]) Q E s :=
  table_call B F X N T m1 m2 m3 m4 K.i1 K.i2 K.i3 K.i4 ok1 ok2 code lo hi v hv t1 t2 G h
theorem pair_callM (K : TurnMark it io cl co) (B : Below callerA base [] h₀) (F : Fr h₀ L s.heap m) (X : (hd.heap_39 w.params).In h₀) (N : News h₀ L s.heap news) (T : Top p loose mean mg mb h₀) (m1 : (it, io) ∈ news) (m2 : (cl, co) ∈ news) (m3 : (214, tabO ps1) ∈ news) (m4 : (221, tabO ps2) ∈ news)
   (code : Int) (lo : -10 ≤ code) (hi : code ≤ 1109) (v : PySem.Str) (hv : v ∈ menu) (t1 t2 : Tok) (G : AllBare s.gens)
   (h : ∀ h' tk gs, Fr h₀ L h' m → News h₀ L h' [(it, io), (cl, co), (214, tabO ps1), (221, tabO ps2)] → AllBare gs → Q (.bool true) { s with heap := h', toks := tk, gens := gs }) :
   wpAny (model prog w) (callerA.deeper (lawEnv qn nm mr L fa cd)) (PySem.call (.ref 477) [.int code t1, .str v t2]) Q E s :=
  pair_call B F X N T m1 m2 m3 m4 code lo hi v hv t1 t2 G h
end
section
variable {w : World} {A : Around} {E : Value → Shared → Prop} {s : Shared} {env : Env} {x : PySem.Str} {px pos : Pos} {iter : PySem.Expr} {body : List Stmt} {Q : Flow → Shared → Prop} {L cl r : Addr} {h₀ : Heap} {m₀ : PySem.Str → Option Value} {co : Obj} {ps1 ps2 : Array Value} {cs : List Int} {vs : List Value} {c : Nat}
theorem loopL_mark {t u v : Tok} {news : List (Addr × Obj)} {stored : List PySem.Str} (hh : A.handled = none) (hx : env.kindOf x = some .local) (hL : env.locals = L) (hcls : (env.scope.kind == .class || (env.scope.kind == .module && env.locals != env.globals)) = false)
    (hr : IsRange s.heap r 0 (cs.length : Nat) 1 t u v) (oc : CodesOk cs) (F : Fr h₀ L s.heap m₀) (N : News h₀ L s.heap news) (hm : (cl, W.listOf vs.toArray c) ∈ news) (sub : (214, tabO ps1) ∈ news ∧ (221, tabO ps2) ∈ news) (o1 : TriplesOk ps1.toList) (o2 : TriplesOk ps2.toList) (G : AllBare s.gens)
    (turn : ∀ (k : Nat) t (um : PySem.Str → Option Value) h tk gs q1 q2 I o, TurnMark I o cl (W.listOf vs.toArray c) → k < cs.length → Fr h₀ L h (fun y => if y = x then some (.int (k : Int) t) else if stored.contains y then um y else m₀ y) → News h₀ L h [(I, o), (cl, W.listOf vs.toArray c), (214, tabO q1), (221, tabO q2)] → TriplesOk q1.toList → TriplesOk q2.toList → AllBare gs →
      wpAny (model prog w) A (execs body env) (TurnL h₀ L x stored m₀ I o cl (W.listOf vs.toArray c) { s with heap := h, toks := tk, gens := gs }) (fun _ _ => False) { s with heap := h, toks := tk, gens := gs })
    (done : ∀ (um : PySem.Str → Option Value) h tk gs q1 q2, Fr h₀ L h (fun y => if y = x then um y else if stored.contains y then um y else m₀ y) → News h₀ L h [(cl, W.listOf vs.toArray c), (214, tabO q1), (221, tabO q2)] → TriplesOk q1.toList → TriplesOk q2.toList → AllBare gs → Q .next { s with heap := h, toks := tk, gens := gs }) :
    LoopL w A env x px body Q E (.ref r) s :=
  loopL_codes hh hx hL hcls hr oc F N hm sub o1 o2 G (fun k t um h tk gs q1 q2 I o _ l2 l3 hk F' N' p1 p2 G' => turn k t um h tk gs q1 q2 I o ⟨(Nat.ne_of_lt l2).symm, (Nat.ne_of_lt l3).symm, list_no_tab N hm sub.1, list_no_tab N hm sub.2⟩ hk F' N' p1 p2 G') done
end
/-- a value out of a list of numbers -/
def TurnS (h₀ : Heap) (L : Addr) (x : PySem.Str) (m₀ : PySem.Str → Option Value) (news : List (Addr × Obj)) (s : Shared) : Flow → Shared → Prop := fun f s' =>
  f = .next ∧ ∃ h' tk m', s' = { s with heap := h', toks := tk } ∧ Fr h₀ L h' m' ∧ (∀ y, y ≠ x → m' y = m₀ y) ∧ News h₀ L h' news
theorem turnS_end {h₀ h' : Heap} {L : Addr} {x : PySem.Str} {m₀ m' : PySem.Str → Option Value} {s s' : Shared} {news big : List (Addr × Obj)} (F : Fr h₀ L h' m') (N : News h₀ L h' big) (hs : s' = { s with heap := h', toks := s'.toks })
    (sub : ∀ p ∈ news, p ∈ big) (same : ∀ y, y ≠ x → m' y = m₀ y) : TurnS h₀ L x m₀ news s .next s' :=
  ⟨rfl, h', s'.toks, m', hs, F, same, news_sub N sub⟩
section
variable {w : World} {A : Around} {E : Value → Shared → Prop} {s : Shared} {env : Env} {x : PySem.Str} {px pos : Pos} {body : List Stmt} {Q : Flow → Shared → Prop} {L l : Addr} {h₀ : Heap} {m₀ : PySem.Str → Option Value} {ns : List Int} {vs : List Value} {c : Nat}
theorem loopL_ints {news : List (Addr × Obj)} (hh : A.handled = none) (hx : env.kindOf x = some .local) (hL : env.locals = L) (hcls : (env.scope.kind == .class || (env.scope.kind == .module && env.locals != env.globals)) = false)
    (F : Fr h₀ L s.heap m₀) (N : News h₀ L s.heap news) (hm : (l, W.listOf vs.toArray c) ∈ news) (hi : IntsAre vs ns)
    (turn : ∀ (n : Int) t h tk I o, n ∈ ns → Fr h₀ L h (fun y => if y = x then some (.int n t) else m₀ y) → News h₀ L h ((I, o) :: news) → (∀ p ∈ news, p.1 < I) →
      wpAny (model prog w) A (execs body env) (TurnS h₀ L x m₀ ((I, o) :: news) { s with heap := h, toks := tk }) (fun _ _ => False) { s with heap := h, toks := tk })
    (done : ∀ (um : PySem.Str → Option Value) h tk, Fr h₀ L h (fun y => if y = x then um y else m₀ y) → News h₀ L h news → Q .next { s with heap := h, toks := tk }) :
    LoopL w A env x px body Q E (.ref l) s := by
  subst hL
  unfold LoopL
  refine wpAny_pyIter_list (items := vs.toArray) ⟨_, N.get hm, rfl, _, rfl⟩ ?_
  have gI : (s.heap.push { cls := .type "list_iterator", data := .fields #[.ref l, .int 0 0] }).IsListIter s.heap.objs.size l 0 := ⟨_, Heap.get?_push_size _ rfl, rfl, rfl⟩
  have up : Ext s.heap (s.heap.push { cls := .type "list_iterator", data := .fields #[.ref l, .int 0 0] }) := fun b o e => Heap.get?_push_of_some _ e
  generalize s.heap.push { cls := .type "list_iterator", data := .fields #[.ref l, .int 0 0] } = H at gI up ⊢
  obtain ⟨oL, _, _, hoL, _⟩ := id F.ns
  have IL : s.heap.objs.size ≠ env.locals := Nat.ne_of_gt (Heap.lt_size hoL)
  have I0 : h₀.get? s.heap.objs.size = none := by
    cases e : h₀.get? s.heap.objs.size with
    | none => rfl
    | some o => exact absurd (Heap.lt_size (F.keep _ _ e)) (Nat.lt_irrefl _)
  have ltI : ∀ p ∈ news, p.1 < s.heap.objs.size := fun p hp => Heap.lt_size (N p hp).1
  generalize s.heap.objs.size = I at *
  have hlen := hi.length
  have un : ∀ b o, h₀.get? b = some o → b ≠ I := fun b o e z => by rw [z, I0] at e; cases e
  have nI : ∀ p ∈ news, p.1 ≠ I := fun p hp z => absurd (ltI p hp) (by rw [z]; exact Nat.lt_irrefl _)
  refine codeAny_forLoop (R := fun r s' => match r with | .ok f => Q f s' | .error e => cameBackBy (model prog w) A env E e s')
    (fun j s' => ∃ (k : Nat) (h' : Heap) (tk : Nat) (m' : PySem.Str → Option Value), j = ns.length - k ∧ k ≤ ns.length ∧ s' = { s with heap := h', toks := tk } ∧ Fr h₀ env.locals h' m' ∧ (∀ y, y ≠ x → m' y = m₀ y) ∧ h'.IsListIter I l k ∧ News h₀ env.locals h' news) ?_ ns.length ?_
  · rintro j s' ⟨k, h', tk, m', rfl, hk, rfl, F', same, hit, N'⟩
    have IsL : h'.IsList l vs.toArray := ⟨_, N'.get hm, rfl, _, rfl⟩
    by_cases hkn : k = ns.length
    · subst hkn
      refine wpAny_pyNext_list_end hh hit IsL (by simp [hlen]) fun h₁ hs₁ => ?_
      refine wpAny_execs_nil ?_
      have F'' : Fr h₀ env.locals h' (fun y => if y = x then m' y else m₀ y) := fr_eqv F' fun y => by
        by_cases hy : y = x
        · rw [if_pos hy]
        · rw [if_neg hy]; exact same y hy
      exact done m' h₁ tk ⟨F''.ns.at' fun o e => hs₁ _ o (Ne.symm IL) e, fun b o e => hs₁ b o (un b o e) (F'.keep b o e), F'.above⟩ (fun p hp => ⟨hs₁ _ _ (nI p hp) (N' p hp).1, (N' p hp).2⟩)
    · obtain ⟨n, t, en, nm⟩ := ints_get (k := k) hi (by omega)
      refine wpAny_pyNext_list_item hit IsL (x := .int n t) (by simpa using en) fun h₁ hit₁ hs₁ => ?_
      have F₁ : Fr h₀ env.locals h₁ m' := ⟨F'.ns.at' fun o e => hs₁.extBut _ o (Ne.symm IL) e, fun b o e => hs₁.extBut b o (un b o e) (F'.keep b o e), F'.above⟩
      refine wpAny_assign_Name (wpAny_storeName_local hx F₁.ns (fun h₂ hn₂ hs₂ => ?_) hcls)
      have F₂ : Fr h₀ env.locals h₂ _ := F₁.set hn₂ hs₂
      obtain ⟨io, e1, e2, e3⟩ := id hit₁
      have hit₂ : h₂.get? I = some io := hs₂.extBut _ _ IL e1
      have N₂ : News h₀ env.locals h₂ ((I, io) :: news) := fun p hp => by
        rcases List.mem_cons.mp hp with rfl | hp
        · exact ⟨hit₂, IL, I0⟩
        · exact ⟨hs₂.extBut _ _ (N' p hp).2.1 (hs₁.extBut _ _ (nI p hp) (N' p hp).1), (N' p hp).2⟩
      refine wpAny_mono (turn n t h₂ _ I io nm (fr_eqv F₂ fun y => ?_) N₂ ltI) (fun f s₃ hf => ?_) fun _ _ z => z.elim
      · by_cases hy : y = x
        · rw [if_pos hy, if_pos hy]
        · rw [if_neg hy, if_neg hy]; exact same y hy
      · obtain ⟨rfl, h₃, tk₃, m₃, rfl, F₃, same₃, N₃⟩ := hf
        exact ⟨ns.length - (k + 1), by omega, k + 1, h₃, tk₃, m₃, rfl, by omega, rfl, F₃, same₃, ⟨io, (N₃ (I, _) (.head _)).1, e2, e3⟩, fun p hp => N₃ p (.tail _ hp)⟩
  · exact ⟨0, H, _, m₀, by omega, Nat.zero_le _, rfl, F.keeps up, fun _ _ => rfl, gI, fun p hp => ⟨up _ _ (N p hp).1, (N p hp).2⟩⟩
end
end Mine
namespace Mine
section
variable {stored : List PySem.Str} {x n : PySem.Str} {m m₀ um : PySem.Str → Option Value} {v a : Option Value}
theorem same_base : ∀ y, y ≠ x → stored.contains y = false → (if y = x then a else if stored.contains y = true then um y else m₀ y) = m₀ y := fun y h1 h2 => by
  rw [if_neg h1, h2]; rfl
theorem same_set (hn : (stored.contains n || n == x) = true) (h : ∀ y, y ≠ x → stored.contains y = false → m y = m₀ y) : ∀ y, y ≠ x → stored.contains y = false → (if y = n then v else m y) = m₀ y := fun y h1 h2 => by
  by_cases e : y = n
  · subst e
    rw [h2, beq_eq_false_iff_ne.mpr h1] at hn
    cases hn
  · rw [if_neg e]; exact h y h1 h2
end
end Mine
end -- Z8

section -- Z9
open PySem PySem.W PyProof.Rows
namespace Mine
theorem gives_int_and_bool (a : Bool) (b : Int) (u : Tok) : Gives (Builtin.«int.__and__» ⟨[.bool a, .int b u], []⟩) (.int (Builtin.bitAnd (if a = true then (1 : Int) else 0) b)) :=
  .of_wp fun M A E s Q h => by obtain ⟨hp, g, d, tk, os⟩ := s; wp_walk; exact ⟨_, rfl, h⟩
theorem gives_bool_and_int (a : Bool) (b : Int) (u : Tok) : Gives (Builtin.«bool.__and__» ⟨[.bool a, .int b u], []⟩) (.int (Builtin.bitAnd (if a = true then (1 : Int) else 0) b)) := by
  show Gives (do rule "bool.bitwise.as-ints"; again (.builtin "int.__and__" ⟨[.bool a, .int b u], []⟩)) _
  exact .rule (.again rfl (by decide +kernel) F.entry_int_and (gives_int_and_bool a b u))
section
variable {w : World} {A : Around} {E : Value → Shared → Prop} {s : Shared} {Q : Value → Shared → Prop} {p : Program}
theorem and_bool_int {a : Bool} {b : Int} {u : Tok} (h : Q (.int (Builtin.bitAnd (if a = true then (1 : Int) else 0) b) s.toks) { s with toks := s.toks + 1 }) : wpAny (model p w) A (binaryOp .BitAnd (.bool a) (.int b u)) Q E s :=
  binaryOp_left_gives (op := .BitAnd) (T := "bool") (U := "int") (by decide) rfl (fun s' => typeIs_int s' b u) F.fills_bool_and F.fills_int_and F.sub_int_bool F.slot_bool_and F.slot_int_rand F.entry_bool_and (F.args_bool_and_2 _ _)
    (gives_bool_and_int a b u) trivial h
theorem and_true_bit {u : Tok} (h : Q (.int 0 s.toks) { s with toks := s.toks + 1 }) : wpAny (model p w) A (binaryOp .BitAnd (.bool true) (.int 33554432 u)) Q E s :=
  and_bool_int (by rw [show Builtin.bitAnd (if true = true then (1 : Int) else 0) 33554432 = 0 by decide +kernel]; exact h)
end
end Mine
end -- Z9

section -- X9
open PySem PySem.W PySem.W.X PySem.W.XRun PyProof.Rows
namespace Mine
section
variable (w : World) (h : Heap) (g : Array GenState) (d : Drawn) (tk : Nat) (os : OsState) (K : (hd.heap_39 w.params).In h) (D : Addr) (n : Nat) (t1 t2 : Tok)
include K
local macro_rules | `(tactic| x_close) => `(tactic| (refine And.intro ?_ (Pure.of_mem (by assumption)); rfl))
theorem c120 (hD : h.get? D = some (⟨.type "tuple", none, .seq #[.int 0 t1, .int 0 t2] n, #[]⟩)) :
   wpAny (model prog w) AX (call (.ref 89) [.ref 120, .ref D]) (fun r s' => r = .bool true ∧ Pure ⟨h, g, d, tk, os⟩ s') (fun _ _ => False) ⟨h, g, d, tk, os⟩ := by
  x_run
end
end Mine
end -- X9

section -- Za
open PySem PySem.W PyProof.Rows
namespace Mine
section
variable {w : World} {A : Around} {E : Value → Shared → Prop} {s : Shared} {L D : Addr} {h₀ : Heap} {m : PySem.Str → Option Value} {news : List (Addr × Obj)} {Q : Value → Shared → Prop} {n : Nat} {t1 t2 : Tok}
theorem none_eq (f : Fit A) (F : Fr h₀ L s.heap m) (X : (hd.heap_39 w.params).In h₀) (N : News h₀ L s.heap news) (hm : (D, ({ cls := .type "tuple", data := .seq #[.int 0 t1, .int 0 t2] n } : Obj)) ∈ news)
    (h : ∀ h' tk, Fr h₀ L h' m → News h₀ L h' news → Q (.bool true) { s with heap := h', toks := tk }) : wpAny (model prog w) A (compareOp .Eq (.ref 120) (.ref D)) Q E s := by
  have X' := X.keeps F.keep
  have I : W.InstAt s.heap 120 _ 114 (some (dictOf [] 0)) := ⟨X' 120 _ rfl, rfl, rfl, X' 119 _ rfl⟩
  refine cmp_ofEq (eq_own (C := 114) (f := 89) (Nat.lt_of_le_of_lt f.units (by decide)) F X I N hm (by k_is) (by k_is) (by k_is) ?_)
  exact pureK f F N (c120 w s.heap s.gens s.drawn s.toks s.os X' D n t1 t2 (N.get hm)) h
end
end Mine
end -- Za

section -- Zb
open PySem PySem.W PyProof.Rows
namespace Mine
theorem post_true {args : List WData} : PySem.Challenge.rw_bj5013_01.row.claim.post args (.bool true) args = true :=
  postW_of (by wrow_shape) (w_eq_bool (w_res rfl) w_lit) rfl
end Mine
end -- Zb

section -- M2
open PySem PySem.W PyProof.Rows
namespace Mine
local macro_rules | `(tactic| k_in) => `(tactic| (refine' in_of_fr ?inF ?inX; (case inF => with_reducible assumption); (case inX => with_reducible assumption)))
local macro_rules | `(tactic| walk_at "callWith ref") => `(tactic| (k_here; k_dflt (refine' cw0 ?F ?X ?k ?_; (case F => k_asm); (case X => k_asm); (case k => k_is); k_whole; (try dsimp only))))
local macro_rules | `(tactic| walk_at "execs cons") => `(tactic| (k_here; (try dsimp only); (with_reducible refine execs_tk ?_); intro _; (with_reducible refine wpAny_execs_cons ?_); (try dsimp only)))
local macro_rules | `(tactic| walk_at "exec For Name Call cons nil") => `(tactic| (k_here; k_dflt (refine loopL_begin (fun _ => rfl) ?_)))
local macro_rules | `(tactic| walk_at "binaryOp Add ref ref") => `(tactic| (k_here; (with_reducible show wpAny _ _ (binaryOp Operator.Add (Value.ref _) (Value.ref 437)) _ _ _); k_dflt (refine' add_edges ?k1 ?k2 ?k3 ?k4 ?k5 ?k6 ?_; (case k1 => k_asm); (case k2 => k_asm); (case k3 => k_asm); (case k4 => k_mem); (case k5 => with_reducible assumption); (case k6 => (simp only [List.length_take]; omega)); k_whole; intro D2' vs' cs' h' iC' oC' F' N' l1; (try k_lt l1); (try dsimp only))))
local macro_rules | `(tactic| walk_at "call builtin:len") => `(tactic| (k_here; (with_reducible show wpAny _ _ (PySem.call (Value.builtin "len") [Value.ref _]) _ _ _); k_dflt (refine' len_codes ?k1 ?k2 ?k3 ?k4 ?_; (case k1 => k_asm); (case k4 => with_reducible assumption); (case k2 => k_mem); (case k3 => with_reducible assumption); k_whole; (try dsimp only))))
local macro_rules | `(tactic| walk_at "call type:range") => `(tactic| (k_here; (with_reducible show wpAny _ _ (PySem.call (Value.type "range") [Value.int _ _]) _ _ _); k_dflt (refine' range1_rows ?k1 ?k2 ?_; (case k1 => k_asm); (case k2 => k_asm); k_whole; intro h' tk' t1' u1' v1' R' F' N' up'; clear up'; (try dsimp only))))
local macro_rules | `(tactic| walk_at "LoopL") => `(tactic| (k_dflt (refine' loopL_mark (stored := [PySem.Str.ofString "number", PySem.Str.ofString "value"]) ?kh ?kx ?kL ?kc ?kr ?ko ?kF ?kN ?km ?ks ?k1 ?k2 ?kG ?_ ?_; (case kh => exact rfl); (case kx => exact rfl); (case kc => exact rfl); (case kr => with_reducible assumption); (case ko => with_reducible assumption); (case kF => k_asm); (case kL => exact rfl); (case kN => k_asm); (case km => k_mem); (case ks => (refine And.intro ?_ ?_ <;> k_mem)); (case k1 => with_reducible assumption); (case k2 => with_reducible assumption); (case kG => with_reducible assumption)); (intro k' t' um' h' tk' gs' q1' q2' I' o' K' hk' F' N' ok1' ok2' G'; (try dsimp only)); rotate_left; (intro um' h' tk' gs' q1' q2' F' N' ok1' ok2' G'; (try dsimp only)); rotate_left))
local macro_rules | `(tactic| walk_at "subscriptTail Name Name ref int") => `(tactic| (k_here; (with_reducible show wpAny _ _ (subscriptTail (PySem.Expr.Name _ _) (PySem.Expr.Name _ _) (Value.ref _) (Value.int _ _)) _ _ _); k_dflt (refine' item_codes ?k1 ?k2 ?k3 ?k4 ?k5 ?_ ?k6; (case k1 => k_asm); (case k4 => with_reducible assumption); (case k2 => k_mem); (case k3 => with_reducible assumption); (case k5 => with_reducible assumption); (case k6 => with_unfolding_all rfl); k_whole; intro c' t' lo' hi'; (try dsimp only))))
local macro_rules | `(tactic| walk_at "subscriptTail") => `(tactic| (k_here; (with_reducible show wpAny _ _ (subscriptTail (PySem.Expr.Call _ _ _ _) _ (Value.ref _) (Value.int _ _)) _ _ _); k_dflt (refine' item_menu ?k1 ?k2 ?k3 ?_ ?k4; (case k1 => k_asm); (case k2 => k_mem); (case k3 => exact rfl); (case k4 => with_unfolding_all rfl); k_whole; intro v' t' hv'; (try dsimp only))))
local macro_rules | `(tactic| walk_at "call ref") => `(tactic| (k_here; (with_reducible show wpAny _ _ (PySem.call (Value.ref 470) [Value.int _ _, Value.str _ _]) _ _ _); k_dflt (refine' table_callM ?kK ?kB ?kF ?kX ?kN ?kT ?m1 ?m2 ?m3 ?m4 ?o1 ?o2 _ ?lo ?hi _ ?hv _ _ ?kG ?_; (case kK => with_reducible assumption); (case kB => with_reducible assumption); (case kF => k_asm); (case kX => k_asm); (case kN => k_asm); (case kT => with_reducible assumption); (case m1 => k_mem); (case m2 => k_mem); (case m3 => k_mem); (case m4 => k_mem); (case o1 => with_reducible assumption); (case o2 => with_reducible assumption); (case lo => with_reducible assumption); (case hi => with_reducible assumption); (case hv => with_reducible assumption); (case kG => with_reducible assumption); k_whole; intro p1' p2' h' tk' gs' o1' o2' F' N' G'; (try dsimp only))))
local macro_rules | `(tactic| walk_at "call ref") => `(tactic| (k_here; (with_reducible show wpAny _ _ (PySem.call (Value.ref 477) [Value.int _ _, Value.str _ _]) _ _ _); k_dflt (refine' pair_callM ?kK ?kB ?kF ?kX ?kN ?kT ?m1 ?m2 ?m3 ?m4 _ ?lo ?hi _ ?hv _ _ ?kG ?_; (case kK => with_reducible assumption); (case kB => with_reducible assumption); (case kF => k_asm); (case kX => k_asm); (case kN => k_asm); (case kT => with_reducible assumption); (case m1 => k_mem); (case m2 => k_mem); (case m3 => k_mem); (case m4 => k_mem); (case lo => with_reducible assumption); (case hi => with_reducible assumption); (case hv => with_reducible assumption); (case kG => with_reducible assumption); k_whole; intro h' tk' gs' F' N' G'; (try dsimp only))))
local macro_rules | `(tactic| walk_at "TurnL") => `(tactic| (k_dflt (refine' turnL_end ?kF ?kN ?kh ?ks ?k1 ?k2 ?kG ?ke; (case kF => k_asm); (case kN => k_asm); (case kh => exact rfl); (case ks => (repeat' first | exact List.forall_mem_nil _ | (refine List.forall_mem_cons.mpr ⟨by k_mem, ?_⟩))); (case k1 => with_reducible assumption); (case k2 => with_reducible assumption); (case kG => with_reducible assumption); (case ke => (repeat' first | exact same_base | refine same_set rfl ?_)))))
local macro_rules | `(tactic| walk_at "exec For Name BinOp cons nil") => `(tactic| (k_here; k_dflt (refine loopL_begin (fun _ => rfl) ?_)))
local macro_rules | `(tactic| walk_at "LoopL") => `(tactic| (k_dflt (refine' loopL_ints ?kh ?kx ?kL ?kc ?kF ?kN ?km ?ki ?_ ?_; (case kh => exact rfl); (case kx => exact rfl); (case kc => exact rfl); (case kF => k_asm); (case kL => exact rfl); (case kN => k_asm); (case km => k_mem); (case ki => with_reducible assumption)); (intro n' t' h' tk' I' o' hn' F' N' l1; (try k_lt l1); (try dsimp only)); rotate_left; (intro um' h' tk' F' N'; (try dsimp only)); rotate_left))
local macro_rules | `(tactic| walk_at "call ref") => `(tactic| (k_here; (with_reducible show wpAny _ _ (PySem.call (Value.ref 436) [Value.int _ _]) _ _ _); (fail_if_success (with_reducible show wpAny _ _ _ (JoinV _ _ _ _ _ _) _ _)); k_dflt (refine' join_clear ?kF ?kN ?_ ?_; (case kF => k_asm); (case kN => k_asm)); (rotate_left; k_whole; (intro h' tk' F' N'; (try dsimp only)); rotate_left)))
local macro_rules | `(tactic| walk_at "call ref") => `(tactic| (k_here; (with_reducible show wpAny _ _ (PySem.call (Value.ref 484) [Value.int _ _]) _ _ _); (fail_if_success (with_reducible show wpAny _ _ _ (JoinV _ _ _ _ _ _) _ _)); k_dflt (refine' join_clear ?kF ?kN ?_ ?_; (case kF => k_asm); (case kN => k_asm)); (rotate_left; k_whole; (intro h' tk' F' N'; (try dsimp only)); rotate_left)))
local macro_rules | `(tactic| walk_at "JoinV") => `(tactic| (k_dflt (refine' join_end ?kF ?kN ?kh ?kb ?ks; (case kF => k_asm); (case kN => k_asm); (case kh => exact rfl); (case ks => (repeat' first | exact List.forall_mem_nil _ | (refine List.forall_mem_cons.mpr ⟨by k_mem, ?_⟩))); (case kb => first | exact clear_tt (by with_reducible assumption) | exact clear_f1 (by with_reducible assumption) | exact clear_f2 (by with_reducible assumption)))))
local macro_rules | `(tactic| walk_at "compareOp NotEq bool bool") => `(tactic| (k_here; with_reducible refine ne_bool_same ?_))
local macro_rules | `(tactic| walk_at "TurnS") => `(tactic| (k_dflt (refine' turnS_end ?kF ?kN ?kh ?ks ?ke; (case kF => k_asm); (case kN => k_asm); (case kh => exact rfl); (case ks => (repeat' first | exact List.forall_mem_nil _ | (refine List.forall_mem_cons.mpr ⟨by k_mem, ?_⟩))); (case ke => exact fun y hy => if_neg hy))))
local macro_rules | `(tactic| walk_at "binaryOp BitAnd bool int") => `(tactic| (k_here; with_reducible refine and_true_bit ?_; (try dsimp only)))
local macro_rules | `(tactic| walk_at "compareOp Eq ref ref") => `(tactic| (k_here; (with_reducible show wpAny _ _ (compareOp CmpOp.Eq (Value.ref 120) (Value.ref _)) _ _ _); k_dflt (refine' none_eq ?k1 ?k2 ?k3 ?k4 ?k5 ?_; (case k1 => exact ⟨rfl, Nat.le_of_ble_eq_true rfl, Nat.le_of_ble_eq_true rfl⟩); (case k2 => k_asm); (case k3 => k_asm); (case k4 => k_asm); (case k5 => k_mem); k_whole; intro h' tk' F' N'; (try dsimp only))))
theorem main0 : PySem.Challenge.rw_bj5013_01.Holds := by
  refine hd ?_
  k_fill
  intro w s₀ s₁ mg mb G Y fa o pm cd doc dV kV ho hd' hcd hD hmg hg args vals as hpre hlay hrd hwl hlo
  have KX := kIn_of Y
  have X := (Ground.X G).1
  have V := (Ground.X G).2
  try w_nolog (first | (have GL := glob_more (Ground.glob G (by first | k_qdec | decide +kernel) (by first | k_qdec | decide +kernel)) V) | (have GL := glob_more (Ground.glob G (by decide +kernel)) V))
  refine Ground.open G ?_
  intro T B D TE TW
  try (refine guard_noD D (by decide +kernel) ?_; clear D)
  obtain ⟨_, _, M⟩ := bmod_of_top T
  have TA := at_of_top T
  try (obtain ⟨_, _, he, B0⟩ := based_of_top T rfl hmg ho hd'; have he' : cd = _ := he; subst he'; clear he)
  clear hmg
  wrow_args hpre hlay hrd hwl hlo
  all_goals (
    first | refine callC_kw (enter_call ?_) | refine enter_call ?_ | refine callC_kw (enter_callW ?_) | refine enter_callW ?_
    w_top on
    have K0 := below_caller (Top.heap T)
    w_call any ho hd' hcd hD T F
    clear hd' TA
    k_drop)
  rename Fr _ _ _ _ => F
  have t1 := tab219 T KX
  have t2 := tab226 T KX
  have FH := hid_fr F
  have NH := hid_news F t1.2 t2.2
  have XH := hid_in KX
  have TH := hid_top T (by decide +kernel) t1.2 t2.2 rfl rfl
  have HL := hid_list ‹s₁.heap.IsList _ _› t1 t2
  have BH : Below callerA (hideAll s₁.heap [214, 221]) [] (hideAll s₁.heap [214, 221]) := below_caller _
  have ok0 : TriplesOk (#[] : Array Value).toList := trivial
  have GB : AllBare s₁.gens := by rw [hg]; exact fun x hx => absurd hx (by simp)
  clear F K0 T KX X V GL TE TW M B
  all_goals (try k_fold)
  k_steps
  refine' good_end ?kF ?kN ?k1 ?k2 t1 t2 ?ko ?kG ?kn ?kp
  case kF => with_reducible assumption
  case kN => with_reducible assumption
  case k1 => k_mem
  case k2 => k_mem
  case ko => exact rfl
  case kG => assumption
  case kn => exact fun _ => rfl
  case kp => exact post_true
end Mine
end -- M2

theorem PySem.Challenge.cw_bj5013_01_holds : PySem.Challenge.rw_bj5013_01.Holds :=
  Mine.main0
