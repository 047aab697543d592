import PyProof.Rows.All
import Wide.All
import OpenK.AllK
import Wide.FinOn
import PySem.Challenge.RW_tr0031_01

set_option Elab.async false

namespace Mine
open PySem PySem.W PyProof.Rows
set_option maxRecDepth 100000
set_option maxHeartbeats 8000000
/-- the two methods' code objects and their tables, as they lie when the program has been read -/
def tabs : Frag :=
  [(84, { cls := .none, data := .fields #[] }), (91, { cls := .none, data := .fields #[] }),
   (88, { cls := .type "code", data := .fields #[.str (Str.ofString "__len__") 298, .str (Str.ofString "_Accumulator.__len__") 299, .str (Str.ofString "/claim/cut.py") 300, .int 64 0, .int 1 0, .int 0 0, .int 0 0, .int 3 0, .ref 83, .bool true, .int 181 0, .ref 84, .none, .ref 85, .ref 86, .ref 87, .int 302 0, .int 64 0, .str (Str.ofString "/claim/cut.py") 303] }),
   (95, { cls := .type "code", data := .fields #[.str (Str.ofString "__str__") 305, .str (Str.ofString "_Accumulator.__str__") 306, .str (Str.ofString "/claim/cut.py") 307, .int 67 0, .int 1 0, .int 0 0, .int 0 0, .int 3 0, .ref 90, .bool true, .int 181 0, .ref 91, .none, .ref 92, .ref 93, .ref 94, .int 309 0, .int 67 0, .str (Str.ofString "/claim/cut.py") 310] })]
structure Parts where
  K : Params → Frag
  as : List Addr
  e : ∀ P, as = (K P).map (·.1)
/-- the written part and the two tables with their code objects -/
def tabHook (x : Parts) : Hook := kHook (fun P => x.K P ++ tabs) (x.as ++ [84, 91, 88, 95]) (fun P => by rw [List.map_append, ← x.e P]; rfl)
theorem tabHook_K {x : Parts} {w : World} {h : Heap} (Y : (tabHook x).says w h) : (x.K w.params).In h ∧ ∀ a o, (x.K w.params).lookup a = none → tabs.lookup a = some o → h.get? a = some o := by
  have Y' : ((fun P => x.K P ++ tabs) w.params).In h := kIn_of Y
  refine ⟨fun a o e => Y' a o ?_, fun a o e e' => Y' a o ?_⟩
  · show List.lookup a (x.K w.params ++ tabs) = some o
    rw [List.lookup_append, e]; rfl
  · show List.lookup a (x.K w.params ++ tabs) = some o
    rw [List.lookup_append, e]; exact e'
local macro_rules | `(tactic| o_head ($_f $k $a $e)) => `(tactic| o_head (tabHook ⟨$k, $a, $e⟩))
open_top hd for PySem.Challenge.rw_tr0031_01

end Mine

namespace Mine
open PySem PySem.W PyProof.Rows PySem.Calls
set_option maxRecDepth 100000
set_option maxHeartbeats 8000000
theorem fillHD : (PySem.Challenge.rw_tr0031_01 = PySem.Challenge.rw_tr0031_01) ∧ (hd.heap_39 = hd.heap_39) := by k_fill; exact ⟨rfl, rfl⟩
end Mine

/-! ## E1 -/
namespace Mine
open PySem PySem.W PyProof.Rows PySem.Calls
open Sem (wp)
open Builtin Builtin.Str Builtin.Int Builtin.ObjectAttr
set_option maxRecDepth 100000
set_option maxHeartbeats 8000000
section
variable {prog : Program} {w : World} {A : Around} {E : Value → Shared → Prop} {s : Shared}
/-- a goal at which the walk is to stop -/
def Stop (P : Prop) : Prop := P
theorem of_stop {P : Prop} (h : Stop P) : P := h
/-- the counter of tokens, forgotten but for its being above nought -/
theorem tk_lift {α : Type} {M : Model} {t : Sem α} {Q : α → Shared → Prop} {h : Heap} {g : Array GenState} {d : Drawn} {n : Nat} {os : OsState} (h0 : 0 < n) (H : ∀ tk, 0 < tk → wpAny M A t Q E ⟨h, g, d, tk, os⟩) : wpAny M A t Q E ⟨h, g, d, n, os⟩ := H n h0
theorem tok_ne {u v : Tok} (h : u ≠ 0) (h' : v ≠ 0) : (u == 0 || v == 0) = false := by simp [h, h']
theorem wpAny_isSame_float {M : Model} {y : UInt64} {u v : Tok} {Q : Bool → Shared → Prop}
    (h0 : (u == 0 || v == 0) = false) (hb : NoneBooked s.heap) (hq : ∀ b, Q b s) : wpAny M A (isSame (.float y u) (.float y v)) Q E s := by
  show wpAny M A (isSame.created (y == y && !Float64.isNaN y) u v) Q E s
  unfold isSame.created
  refine wpAny_ite ?_
  split
  · rename_i h; rw [h0] at h; exact absurd h Bool.false_ne_true
  refine wpAny_ite ?_
  split
  · exact wpAny_pure (hq _)
  refine wpAny_ite ?_
  split
  · exact wpAny_pure (hq _)
  refine wpAny_bind (wpAny_sharingNotTold_none hb ?_)
  first | rw [if_neg Bool.false_ne_true] | simp only [Bool.false_eq_true, if_false]
  refine wpAny_bind (wpAny_sharingNotTold_none hb ?_)
  first | rw [if_neg Bool.false_ne_true] | simp only [Bool.false_eq_true, if_false]
  exact wpAny_bind (wpAny_rule (wpAny_bind (wpAny_askSetting (wpAny_pure (hq _)))))
theorem eqAt_float {y : UInt64} {u v : Tok} (h0 : (u == 0 || v == 0) = false) (hb : NoneBooked s.heap) (hc : (Float64.cmp y y == some Ordering.eq) = true) : SeqAt.EqAt A s (.float y u) (.float y v) true := fun prog w E Q h => by
  unfold eqBool
  refine wpAny_holding ?_
  refine wpAny_ite_split (fun _ => wpAny_bind (wpAny_rule (wpAny_pure h))) (fun _ => ?_)
  refine wpAny_bind (wpAny_isSame_float h0 hb fun b => ?_)
  cases b
  · refine wpAny_bind ?_
    refine AutoFloatOps.eq_0 ?_
    rw [hc]
    exact wpAny_truthy_bool h
  · exact wpAny_pure h
theorem x2 (P : Params) : (hd.heap_39 P).lookup 2 = some { cls := .none, data := .dict #[] 0 } := by kernel_rfl
theorem none_booked_of {h : Heap} (X : (hd.heap_39 w.params).In h) : NoneBooked h :=
  ⟨fun _ => none, ⟨_, _, _, X 2 _ (x2 _), rfl, (fun e he => by simp at he), fun _ => rfl⟩, rfl⟩
theorem ne_hue {a b : Addr} {y z : UInt64} {k : Int} {u1 u2 u3 v1 v2 v3 : Tok} {Q : Value → Shared → Prop} (X : (hd.heap_39 w.params).In s.heap) (ha : s.heap.IsTuple a #[.float y u1, .float z u2, .int k u3]) (hb : s.heap.IsTuple b #[.float y v1, .float z v2, .int k v3])
    (hu : A.units < cLine) (h1 : (u1 == 0 || v1 == 0) = false) (h2 : (u2 == 0 || v2 == 0) = false) (hy : (Float64.cmp y y == some Ordering.eq) = true) (hz : (Float64.cmp z z == some Ordering.eq) = true) (hQ : Q (.bool false) s) :
    wpAny (model prog w) A (compareOp .NotEq (.ref a) (.ref b)) Q E s := by
  refine (fun h hq => (h : SeqAt.RcNeAt A s _ _ _) prog w E _ hq : SeqAt.RcNeAt A s (.ref a) (.ref b) _ → _ → _) (SeqAt.RcNeAt.tuples (e := fun _ => true) ha hb hu fun j hj1 hj2 => ?_) ?_
  · have : j = 0 ∨ j = 1 ∨ j = 2 := by simp at hj1; omega
    rcases this with rfl | rfl | rfl
    · exact eqAt_float h1 (none_booked_of X) hy
    · exact eqAt_float h2 (none_booked_of X) hz
    · have := SeqAt.EqAt.int_int (A := A.in1) (s := s) k u3 k v3
      rw [beq_self_eq_true] at this
      exact this
  · exact hQ
theorem ne_share {a b : Addr} {z : UInt64} {k : Int} {u2 u3 v2 v3 : Tok} {Q : Value → Shared → Prop} (X : (hd.heap_39 w.params).In s.heap) (ha : s.heap.IsTuple a #[.float z u2, .int k u3]) (hb : s.heap.IsTuple b #[.float z v2, .int k v3])
    (hu : A.units < cLine) (h2 : (u2 == 0 || v2 == 0) = false) (hz : (Float64.cmp z z == some Ordering.eq) = true) (hQ : Q (.bool false) s) :
    wpAny (model prog w) A (compareOp .NotEq (.ref a) (.ref b)) Q E s := by
  refine (fun h hq => (h : SeqAt.RcNeAt A s _ _ _) prog w E _ hq : SeqAt.RcNeAt A s (.ref a) (.ref b) _ → _ → _) (SeqAt.RcNeAt.tuples (e := fun _ => true) ha hb hu fun j hj1 hj2 => ?_) ?_
  · have : j = 0 ∨ j = 1 := by simp at hj1; omega
    rcases this with rfl | rfl
    · exact eqAt_float h2 (none_booked_of X) hz
    · have := SeqAt.EqAt.int_int (A := A.in1) (s := s) k u3 k v3
      rw [beq_self_eq_true] at this
      exact this
  · exact hQ
theorem tup_of {b h : Heap} {L a : Addr} {nw : List (Addr × Obj)} {vs : Array Value} {n : Nat} (N : News b L h nw) (hm : (a, ({ cls := .type "tuple", data := .seq vs n } : Obj)) ∈ nw) : h.IsTuple a vs := ⟨_, (N _ hm).1, rfl, n, rfl⟩
theorem ne_hueN {b0 : Heap} {L a b : Addr} {m : Str → Option Value} {nw : List (Addr × Obj)} {n n' : Nat} {y z : UInt64} {k k' : Int} {u1 u2 u3 v1 v2 v3 : Tok} {Q : Value → Shared → Prop} (F : Fr b0 L s.heap m) (X : (hd.heap_39 w.params).In b0) (N : News b0 L s.heap nw)
    (ha : (a, ({ cls := .type "tuple", data := .seq #[.float y u1, .float z u2, .int k u3] n } : Obj)) ∈ nw) (hb : (b, ({ cls := .type "tuple", data := .seq #[.float y v1, .float z v2, .int k' v3] n' } : Obj)) ∈ nw) (hk : k' = k)
    (hu : A.units < cLine) (h1 : (u1 == 0 || v1 == 0) = false) (h2 : (u2 == 0 || v2 == 0) = false) (hy : (Float64.cmp y y == some Ordering.eq) = true) (hz : (Float64.cmp z z == some Ordering.eq) = true) (hQ : Q (.bool false) s) :
    wpAny (model prog w) A (compareOp .NotEq (.ref a) (.ref b)) Q E s := by
  subst hk
  exact ne_hue (X.keeps F.keep) (tup_of N ha) (tup_of N hb) hu h1 h2 hy hz hQ
theorem ne_shareN {b0 : Heap} {L a b : Addr} {m : Str → Option Value} {nw : List (Addr × Obj)} {n n' : Nat} {z z' : UInt64} {k k' : Int} {u2 u3 v2 v3 : Tok} {Q : Value → Shared → Prop} (F : Fr b0 L s.heap m) (X : (hd.heap_39 w.params).In b0) (N : News b0 L s.heap nw)
    (ha : (a, ({ cls := .type "tuple", data := .seq #[.float z u2, .int k u3] n } : Obj)) ∈ nw) (hb : (b, ({ cls := .type "tuple", data := .seq #[.float z' v2, .int k' v3] n' } : Obj)) ∈ nw) (hk : k' = k) (hzz : z' = z)
    (hu : A.units < cLine) (h2 : (u2 == 0 || v2 == 0) = false) (hz : (Float64.cmp z z == some Ordering.eq) = true) (hQ : Q (.bool false) s) :
    wpAny (model prog w) A (compareOp .NotEq (.ref a) (.ref b)) Q E s := by
  subst hk
  subst hzz
  exact ne_share (X.keeps F.keep) (tup_of N ha) (tup_of N hb) hu h2 hz hQ
end

end Mine

/-! ## L1 -/
namespace Mine
open PySem PySem.W PyProof.Rows PySem.Calls
set_option maxRecDepth 100000
set_option maxHeartbeats 8000000
section
variable {prog : Program} {w : World} {A : Around} {E : Value → Shared → Prop} {s : Shared} {p : Program} {loose : List Str} {mg mb : Str → Option Value}

/-- a def of the text, entered on a heap that bears the written part -/
theorem enter_fn {K : Frag} {R : Result → Shared → Prop} {name qual : Str} {params : Arguments} {body : List Stmt} {scope : Scope} {dV kV doc pm cdv ct oc : Value} {an od : Option Addr} {osl : Array (Option Value)} {f : Addr} {args : Args} {binds : List (Str × Value)}
    (X : K.In s.heap) (hlim : s.heap.NoLimit)
    (ho : K.lookup f = some ⟨oc, od, .func (fnOf name qual params body scope dV kV doc pm an cdv ct), osl⟩) (hcd : codeIn K cdv qual = true) (hroom : A.depth < recursionLimit)
    (hbind : BindsTo s (fnOf name qual params body scope dV kV doc pm an cdv ct) args binds) (hloc : ∀ y ∈ binds, scope.names.lookup y.1 = some .local)
    (h : ∀ L' h₁, Fr s.heap L' h₁ (fun y => binds.reverse.lookup y) →
      wpAny (model prog w) (A.deeper (envOf qual scope L' f cdv)) (execs body (envOf qual scope L' f cdv))
        (fun fl s' => R (.ok (.ret (match fl with | .ret v => v | _ => .none))) s')
        (fun e s' => wpAny (model prog w) (A.deeper (envOf qual scope L' f cdv)) (leaving (envOf qual scope L' f cdv) e) (fun _ s'' => R (.error e) s'') (fun e' s'' => R (.error e') s'') s')
        { s with heap := h₁, toks := s.toks + binds.length })
    (hcell : ∀ x ∈ scope.names, x.2 ≠ .cell) (hco : scope.isCoroutine = false) (hgen : scope.isGenerator = false) (hk : scope.kind = .function) :
    codeAny (model prog w) A (.call (.ref f) args) R s :=
  codeAny_call_def (fd := fnOf name qual params body scope dV kV doc pm an cdv ct) (body := body) (binds := binds) hroom (X _ _ ho) rfl hlim (codeRec_of X hcd) rfl hbind hcell hloc
    (fun h₁ hns hk₁ => h s.heap.objs.size h₁ ⟨hns, hk₁, Nat.le_refl _⟩) hco hgen hk



/-- what `_v` hands back, on the bits -/
def vF (m1 m2 hue : UInt64) : UInt64 :=
  if (Float64.cmp (Float64.divmod hue 4607182418800017408).snd 4595172819793696085 == some Ordering.lt) = true then Float64.add m1 (Float64.mul (Float64.mul (Float64.sub m2 m1) (Float64.divmod hue 4607182418800017408).snd) 4618441417868443648)
  else if (Float64.cmp (Float64.divmod hue 4607182418800017408).snd 4602678819172646912 == some Ordering.lt) = true then m2
  else if (Float64.cmp (Float64.divmod hue 4607182418800017408).snd 4604180019048437077 == some Ordering.lt) = true then Float64.add m1 (Float64.mul (Float64.mul (Float64.sub m2 m1) (Float64.sub 4604180019048437077 (Float64.divmod hue 4607182418800017408).snd)) 4618441417868443648)
  else m1
theorem vF1 {m1 m2 hue : UInt64} (h : (Float64.cmp (Float64.divmod hue 4607182418800017408).snd 4595172819793696085 == some Ordering.lt) = true) : Float64.add m1 (Float64.mul (Float64.mul (Float64.sub m2 m1) (Float64.divmod hue 4607182418800017408).snd) 4618441417868443648) = vF m1 m2 hue := by unfold vF; rw [if_pos h]
theorem vF2 {m1 m2 hue : UInt64} (h1 : (Float64.cmp (Float64.divmod hue 4607182418800017408).snd 4595172819793696085 == some Ordering.lt) = false) (h : (Float64.cmp (Float64.divmod hue 4607182418800017408).snd 4602678819172646912 == some Ordering.lt) = true) : m2 = vF m1 m2 hue := by unfold vF; rw [if_neg (by rw [h1]; exact Bool.false_ne_true), if_pos h]
theorem vF3 {m1 m2 hue : UInt64} (h1 : (Float64.cmp (Float64.divmod hue 4607182418800017408).snd 4595172819793696085 == some Ordering.lt) = false) (h2 : (Float64.cmp (Float64.divmod hue 4607182418800017408).snd 4602678819172646912 == some Ordering.lt) = false)
    (h : (Float64.cmp (Float64.divmod hue 4607182418800017408).snd 4604180019048437077 == some Ordering.lt) = true) : Float64.add m1 (Float64.mul (Float64.mul (Float64.sub m2 m1) (Float64.sub 4604180019048437077 (Float64.divmod hue 4607182418800017408).snd)) 4618441417868443648) = vF m1 m2 hue := by
  unfold vF; rw [if_neg (by rw [h1]; exact Bool.false_ne_true), if_neg (by rw [h2]; exact Bool.false_ne_true), if_pos h]
theorem vF4 {m1 m2 hue : UInt64} (h1 : (Float64.cmp (Float64.divmod hue 4607182418800017408).snd 4595172819793696085 == some Ordering.lt) = false) (h2 : (Float64.cmp (Float64.divmod hue 4607182418800017408).snd 4602678819172646912 == some Ordering.lt) = false)
    (h : (Float64.cmp (Float64.divmod hue 4607182418800017408).snd 4604180019048437077 == some Ordering.lt) = false) : m1 = vF m1 m2 hue := by
  unfold vF; rw [if_neg (by rw [h1]; exact Bool.false_ne_true), if_neg (by rw [h2]; exact Bool.false_ne_true), if_neg (by rw [h]; exact Bool.false_ne_true)]

theorem v_call {m1 m2 hue : UInt64} {t1 t2 t3 : Tok} {Q : Value → Shared → Prop} (X : (hd.heap_39 w.params).In s.heap) (T : TopRead p loose mg mb s.heap) (hA : A.handled = none) (hroom : A.depth < recursionLimit)
    (hQ : ∀ h' tk t, (∀ b o, s.heap.get? b = some o → h'.get? b = some o) → Q (.float (vF m1 m2 hue) t) { s with heap := h', toks := tk }) :
    wpAny (model prog w) A (call (.ref 35) [.float m1 t1, .float m2 t2, .float hue t3]) Q E s := by
  obtain ⟨hd0, d0, fr0, g0, u0⟩ := A
  cases hA
  refine wpAny_call ?_
  refine' enter_fn (binds := [(Str.ofString "m1", .float m1 t1), (Str.ofString "m2", .float m2 t2), (Str.ofString "hue", .float hue t3)]) X T.nolimit ?k6 ?k7 hroom ?k9 ?kB ?_ ?c5 ?c2 ?c3 ?c4
  case k6 => k_is
  case k7 => k_is
  case k9 => exact BindsTo.of_eq rfl
  case kB => exact locs rfl
  case c5 => decide
  case c2 => exact rfl
  case c3 => exact rfl
  case c4 => exact rfl
  intro L' h₁ F₁
  try dsimp only
  k_steps
  · rw [vF1 (by assumption)]; exact hQ _ _ _ (Fr.keep (by assumption))
  · dsimp only; rw [vF2 (m1 := m1) (m2 := m2) (by assumption) (by assumption)]; exact hQ _ _ _ (Fr.keep (by assumption))
  · rw [vF3 (by assumption) (by assumption) (by assumption)]; exact hQ _ _ _ (Fr.keep (by assumption))
  · dsimp only; rw [vF4 (m1 := m1) (m2 := m2) (by assumption) (by assumption) (by assumption)]; exact hQ _ _ _ (Fr.keep (by assumption))

theorem v_callF {m1 m2 hue : UInt64} {t1 t2 t3 : Tok} {h₀ : Heap} {L : Addr} {m : Str → Option Value} {news : List (Addr × Obj)} {Q : Value → Shared → Prop} (F : Fr h₀ L s.heap m) (N : News h₀ L s.heap news) (X : (hd.heap_39 w.params).In h₀) (T : TopRead p loose mg mb h₀) (hA : A.handled = none) (hroom : A.depth < recursionLimit)
    (hQ : ∀ h' tk t, Fr h₀ L h' m → News h₀ L h' news → Q (.float (vF m1 m2 hue) t) { s with heap := h', toks := tk }) :
    wpAny (model prog w) A (call (.ref 35) [.float m1 t1, .float m2 t2, .float hue t3]) Q E s :=
  v_call (X.keeps F.keep) (T.keeps F.keep) hA hroom fun h' tk t hk => hQ h' tk t ⟨F.ns.keeps hk, fun b o e => hk b o (F.keep b o e), F.above⟩ fun p hp => ⟨hk _ _ (N p hp).1, (N p hp).2⟩


/-- the light that `hls_to_rgb(h, 0.5, 1.0)` hands back -/
def lightF (h : UInt64) : UInt64 × UInt64 × UInt64 :=
  (vF 0 4607182418800017408 (Float64.add h 4599676419421066581), vF 0 4607182418800017408 h, vF 0 4607182418800017408 (Float64.sub h 4599676419421066581))
theorem hm2 : Float64.mul 4602678819172646912 (Float64.add 4607182418800017408 4607182418800017408) = 4607182418800017408 := by decide +kernel
theorem hm1 : Float64.sub (Float64.mul 4611686018427387904 4602678819172646912) 4607182418800017408 = 0 := by decide +kernel
theorem hs0 : ¬ (Float64.cmp 4607182418800017408 0 == some Ordering.eq) = true := by decide +kernel
theorem hl5 : ¬ (Float64.cmp 4602678819172646912 4602678819172646912 == some Ordering.lt || Float64.cmp 4602678819172646912 4602678819172646912 == some Ordering.eq) = false := by decide +kernel

theorem hls_call {h : UInt64} {t1 t2 t3 : Tok} {Q : Value → Shared → Prop} (X : (hd.heap_39 w.params).In s.heap) (T : TopRead p loose mg mb s.heap) (hA : A.handled = none) (hroom : A.depth + 1 < recursionLimit)
    (hQ : ∀ h' tk a n ta tb tc, (∀ b o, s.heap.get? b = some o → h'.get? b = some o) → s.heap.get? a = none → h'.get? a = some ({ cls := .type "tuple", data := .seq #[.float (lightF h).1 ta, .float (lightF h).2.1 tb, .float (lightF h).2.2 tc] n } : Obj) →
      Q (.ref a) { s with heap := h', toks := tk }) :
    wpAny (model prog w) A (call (.ref 28) [.float h t1, .float 4602678819172646912 t2, .float 4607182418800017408 t3]) Q E s := by
  obtain ⟨hd0, d0, fr0, g0, u0⟩ := A
  cases hA
  refine wpAny_call ?_
  refine' enter_fn (binds := [(Str.ofString "h", .float h t1), (Str.ofString "l", .float 4602678819172646912 t2), (Str.ofString "s", .float 4607182418800017408 t3)]) X T.nolimit ?k6 ?k7 (Nat.lt_of_succ_lt hroom) ?k9 ?kB ?_ ?c5 ?c2 ?c3 ?c4
  case k6 => k_is
  case k7 => k_is
  case k9 => exact BindsTo.of_eq rfl
  case kB => exact locs rfl
  case c5 => decide
  case c2 => exact rfl
  case c3 => exact rfl
  case c4 => exact rfl
  intro L' h₁ F₁
  have N₁ : News s.heap L' h₁ [] := News.nil
  try dsimp only
  k_steps
  · exact absurd (by assumption) hs0
  · rename Fr _ _ _ _ => F1
    rename News _ _ _ _ => N1
    refine v_callF F1 N1 X T rfl hroom fun h' tk' t' F' N' => ?_
    clear F1 N1
    try dsimp only
    k_steps
    rename Fr _ _ _ _ => F2
    rename News _ _ _ _ => N2
    refine v_callF F2 N2 X T rfl hroom fun h' tk' t' F' N' => ?_
    clear F2 N2
    try dsimp only
    k_steps
    rename Fr _ _ _ _ => F3
    rename News _ _ _ _ => N3
    refine v_callF F3 N3 X T rfl hroom fun h' tk' t' F' N' => ?_
    clear F3 N3
    try dsimp only
    k_steps
    rename Fr _ _ _ _ => FF
    rename News _ _ _ _ => NN
    simp only [hm2, hm1] at NN
    exact hQ _ _ _ 0 _ _ _ FF.keep (NN.fresh (.head _)) (NN.get (.head _))
  · exact absurd (by assumption) hl5
end

end Mine

/-! ## L2 -/
namespace Mine
open PySem PySem.W PyProof.Rows PySem.Calls
set_option maxRecDepth 100000
set_option maxHeartbeats 8000000
section
variable {prog : Program} {w : World} {A : Around} {E : Value → Shared → Prop} {s : Shared} {p : Program} {loose : List Str} {mg mb : Str → Option Value}


def mx3 (r g b : Int) : Int := if g > r then if b > g then b else g else if b > r then b else r
def mn3 (r g b : Int) : Int := if g < r then if b < g then b else g else if b < r then b else r
def fq (x y : Int) : UInt64 := Float64.ofFrac (decide (x < 0) != decide (y < 0)) x.natAbs y.natAbs
def wheel (x : UInt64) : UInt64 := (Float64.divmod (Float64.div x 4618441417868443648) 4607182418800017408).snd
def hsvF (r g b : Int) : UInt64 × UInt64 :=
  if mn3 r g b = mx3 r g b then (0, 0)
  else if r = mx3 r g b then (wheel (Float64.sub (fq (mx3 r g b - b) (mx3 r g b - mn3 r g b)) (fq (mx3 r g b - g) (mx3 r g b - mn3 r g b))), fq (mx3 r g b - mn3 r g b) (mx3 r g b))
  else if g = mx3 r g b then (wheel (Float64.sub (Float64.add 4611686018427387904 (fq (mx3 r g b - r) (mx3 r g b - mn3 r g b))) (fq (mx3 r g b - b) (mx3 r g b - mn3 r g b))), fq (mx3 r g b - mn3 r g b) (mx3 r g b))
  else (wheel (Float64.sub (Float64.add 4616189618054758400 (fq (mx3 r g b - g) (mx3 r g b - mn3 r g b))) (fq (mx3 r g b - r) (mx3 r g b - mn3 r g b))), fq (mx3 r g b - mn3 r g b) (mx3 r g b))
theorem hsvF1 {r g b : Int} (h : mn3 r g b = mx3 r g b) : hsvF r g b = (0, 0) := by unfold hsvF; rw [if_pos h]
theorem hsvF2 {r g b : Int} (h : mn3 r g b ≠ mx3 r g b) (h1 : r = mx3 r g b) : hsvF r g b = (wheel (Float64.sub (fq (mx3 r g b - b) (mx3 r g b - mn3 r g b)) (fq (mx3 r g b - g) (mx3 r g b - mn3 r g b))), fq (mx3 r g b - mn3 r g b) (mx3 r g b)) := by unfold hsvF; rw [if_neg h, if_pos h1]
theorem hsvF3 {r g b : Int} (h : mn3 r g b ≠ mx3 r g b) (h1 : r ≠ mx3 r g b) (h2 : g = mx3 r g b) : hsvF r g b = (wheel (Float64.sub (Float64.add 4611686018427387904 (fq (mx3 r g b - r) (mx3 r g b - mn3 r g b))) (fq (mx3 r g b - b) (mx3 r g b - mn3 r g b))), fq (mx3 r g b - mn3 r g b) (mx3 r g b)) := by unfold hsvF; rw [if_neg h, if_neg h1, if_pos h2]
theorem hsvF4 {r g b : Int} (h : mn3 r g b ≠ mx3 r g b) (h1 : r ≠ mx3 r g b) (h2 : g ≠ mx3 r g b) : hsvF r g b = (wheel (Float64.sub (Float64.add 4616189618054758400 (fq (mx3 r g b - g) (mx3 r g b - mn3 r g b))) (fq (mx3 r g b - r) (mx3 r g b - mn3 r g b))), fq (mx3 r g b - mn3 r g b) (mx3 r g b)) := by unfold hsvF; rw [if_neg h, if_neg h1, if_neg h2]

local macro_rules | `(tactic| walk_at "execs cons") => `(tactic| (k_here; (with_reducible refine tk_lift (Nat.succ_pos _) fun tk htk => ?_)))
theorem hsv_call {r g b : Int} {t1 t2 t3 : Tok} {Q : Value → Shared → Prop} (X : (hd.heap_39 w.params).In s.heap) (T : TopRead p loose mg mb s.heap) (hA : A.handled = none) (hroom : A.depth < recursionLimit)
    (hr0 : 0 < r) (hr1 : r < 1000) (hg0 : 0 < g) (hg1 : g < 1000) (hb0 : 0 < b) (hb1 : b < 1000) 
    (hQ : ∀ h' tk a n ta tb tc, (∀ b o, s.heap.get? b = some o → h'.get? b = some o) → s.heap.get? a = none → h'.get? a = some ({ cls := .type "tuple", data := .seq #[.float (hsvF r g b).1 ta, .float (hsvF r g b).2 tb, .int (mx3 r g b) tc] n } : Obj) → ta ≠ 0 ∧ tb ≠ 0 →
      Q (.ref a) { s with heap := h', toks := tk }) :
    wpAny (model prog w) A (call (.ref 42) [.int r t1, .int g t2, .int b t3]) Q E s := by
  obtain ⟨hd0, d0, fr0, g0, u0⟩ := A
  cases hA
  refine wpAny_call ?_
  refine' enter_fn (binds := [(Str.ofString "r", .int r t1), (Str.ofString "g", .int g t2), (Str.ofString "b", .int b t3)]) X T.nolimit ?k6 ?k7 hroom ?k9 ?kB ?_ ?c5 ?c2 ?c3 ?c4
  case k6 => k_is
  case k7 => k_is
  case k9 => exact BindsTo.of_eq rfl
  case kB => exact locs rfl
  case c5 => decide
  case c2 => exact rfl
  case c3 => exact rfl
  case c4 => exact rfl
  intro L' h₁ F₁
  have N₁ : News s.heap L' h₁ [] := News.nil
  try dsimp only
  k_steps
  · rename Fr _ _ _ _ => FF
    rename News _ _ _ _ => NN
    have g9 := NN.get (List.Mem.head _)
    exact hQ _ _ _ 0 _ _ _ FF.keep (NN.fresh (.head _)) (by rw [hsvF1 (by assumption)]; exact g9) (by constructor <;> first | exact Nat.succ_ne_zero _ | exact Nat.ne_of_gt (by assumption))
  · rename Fr _ _ _ _ => FF
    rename News _ _ _ _ => NN
    have g9 := NN.get (List.Mem.head _)
    exact hQ _ _ _ 0 _ _ _ FF.keep (NN.fresh (.head _)) (by rw [hsvF2 (by assumption) (by assumption)]; exact g9) (by constructor <;> first | exact Nat.succ_ne_zero _ | exact Nat.ne_of_gt (by assumption))
  · rename Fr _ _ _ _ => FF
    rename News _ _ _ _ => NN
    have g9 := NN.get (List.Mem.head _)
    exact hQ _ _ _ 0 _ _ _ FF.keep (NN.fresh (.head _)) (by rw [hsvF3 (by assumption) (by assumption) (by assumption)]; exact g9) (by constructor <;> first | exact Nat.succ_ne_zero _ | exact Nat.ne_of_gt (by assumption))
  · rename Fr _ _ _ _ => FF
    rename News _ _ _ _ => NN
    have g9 := NN.get (List.Mem.head _)
    exact hQ _ _ _ 0 _ _ _ FF.keep (NN.fresh (.head _)) (by rw [hsvF4 (by assumption) (by assumption) (by assumption)]; exact g9) (by constructor <;> first | exact Nat.succ_ne_zero _ | exact Nat.ne_of_gt (by assumption))
end

end Mine

/-! ## L3 -/
namespace Mine
open PySem PySem.W PyProof.Rows PySem.Calls
open Sem (wp)
set_option maxRecDepth 100000
set_option maxHeartbeats 8000000
section
variable {prog : Program} {w : World} {A : Around} {R : GenEnd} {Y : Protocol} {n : Nat} {s₀ : Shared} {c : Code} {fs : List Frame} {s : Shared} {env : Env}
  {K : Flow → Sem Fin} {H : Value → Sem Fin} {gd : Bool → Bool} {lv : List Value → List Value}

theorem seg_If {test : Expr} {body orelse : List Stmt} {pos : Pos}
    (h : wpAny (model prog w) (A.over c fs) (isTrue test env (eval test env)) (fun b s' => Seg (model prog w) A R Y n s₀ c ((if b = true then execs body env else execs orelse env).wrap K H gd lv) fs s') (fun x s' => Seg (model prog w) A R Y n s₀ c (H x) fs s') s) :
    Seg (model prog w) A R Y n s₀ c ((exec (.If test body orelse pos) env).wrap K H gd lv) fs s := by
  rw [exec_If]
  exact seg_bind_wrap (wpAny_standAt (seg_bind_wrap h))

theorem seg_For {target iter : Expr} {body orelse : List Stmt} {pos : Pos}
    (h : wpAny (model prog w) (A.over c fs) (eval iter env) (fun x s₁ => wpAny (model prog w) (A.over c fs) (pyIter x) (fun it s₂ => ∀ p, Seg (model prog w) A R Y n s₀ (.forLoop target it body orelse env) ((model prog w).den (.forLoop target it body orelse env))
      (.ret (fun r => ((match r with | .ok f => (.pure f : Sem Flow) | .error e => .raise e).onRaise fun (x : Value) => do
        if (← field x 1) == Value.none then unsupported "frame.own-activation:exception-without-traceback"
        setFlight x env.frame).wrap K H gd lv) none (gd false) (lv []) c p [] :: fs) s₂)
      (fun x s' => Seg (model prog w) A R Y n s₀ c (H x) fs s') s₁) (fun x s' => Seg (model prog w) A R Y n s₀ c (H x) fs s') s)
    (hs : ∀ x, foldedSetIterable iter env x = pure x := by intro _; rfl) :
    Seg (model prog w) A R Y n s₀ c ((exec (.For target iter body orelse pos) env).wrap K H gd lv) fs s := by
  rw [exec_For]
  refine seg_bind_wrap (wpAny_standAt (seg_bind_wrap (wpAny_mono h (fun x s₁ h₁ => ?_) fun _ _ e => e)))
  refine seg_bind_wrap (wpAny_of_eq (hs x) ?_)
  refine seg_bind_wrap (wpAny_standAt (seg_bind_wrap (wpAny_holding (wpAny_mono h₁ (fun it s₂ h₂ => ?_) fun _ _ e => e))))
  exact seg_call h₂

/-- the generator's turn leaves what is below its frame, and its own object, as it was -/
def Since (C a : Addr) (s₀ s : Shared) : Prop := ∃ h' tk, s = { s₀ with heap := h', toks := tk } ∧ ∀ b o, (b < C ∨ b = a) → s₀.heap.get? b = some o → h'.get? b = some o
theorem Since.refl (C a : Addr) (s : Shared) : Since C a s s := ⟨s.heap, s.toks, rfl, fun _ _ _ e => e⟩
theorem Since.step {C a : Addr} {s₀ s : Shared} (x : Since C a s₀ s) {h' : Heap} {tk : Nat} (hk : ∀ b o, (b < C ∨ b = a) → s.heap.get? b = some o → h'.get? b = some o) : Since C a s₀ { s with heap := h', toks := tk } := by
  obtain ⟨h₁, tk₁, rfl, hk₁⟩ := x
  exact ⟨h', tk, rfl, fun b o hb e => hk b o hb (hk₁ b o hb e)⟩
/-- whoever wakes it leaves what is at its frame and above as it was -/
def Owned (C : Addr) (h h' : Heap) : Prop := ∀ b, C ≤ b → ∀ o, h.get? b = some o → h'.get? b = some o
/-- what is handed over at a yield: the pair's second item is the text's sign there -/
def chY (x : Str) (C a : Addr) (nn : Nat) : Protocol := fun m s₀ v s kap =>
  (∃ cc T k t1 t2, x.cps[nn - 1 - m]? = some cc ∧ v = .ref T ∧ s.heap.IsTuple T #[.int k t1, .str ⟨#[cc]⟩ t2]) ∧ Since C a s₀ s ∧ ∀ s'' : Shared, Owned C s.heap s''.heap → kap (.send .none) s''
def chR (C a : Addr) : GenEnd := fun n s₀ r s₁ => r = .ok (.ret .none) ∧ (n = 0 ∧ Since C a s₀ s₁)

theorem seg_forLoop {target : Expr} {it : Value} {body orelse : List Stmt}
    (h : wpAny (model prog w) (A.over (.forLoop target it body orelse env) fs) (pyNext it) (fun r s₁ => match r with
      | none => Seg (model prog w) A R Y n s₀ (.block orelse env) ((model prog w).den (.block orelse env)) fs s₁
      | some v => wpAny (model prog w) (A.over (.forLoop target it body orelse env) fs) (letOwnedTupleGo target it v) (fun _ s₂ => wpAny (model prog w) (A.over (.forLoop target it body orelse env) fs) (assign target env v) (fun _ s₃ =>
          Seg (model prog w) A R Y n s₀ (.forLoop target it body orelse env) ((execs body env).wrap (fun f => match f with
            | .next | .cont => .pure (.again (.forLoop target it body orelse env))
            | .brk => .pure (.done .next)
            | .ret v => .pure (.done (.ret v))) (fun e => (do noteFrame e env; theTreesLotGoes e : Sem Unit).wrap (fun _ => .raise e) .raise id id) id id) fs s₃)
          (fun _ _ => False) s₂) (fun _ _ => False) s₁) (fun _ _ => False) s) :
    Seg (model prog w) A R Y n s₀ (.forLoop target it body orelse env) ((model prog w).den (.forLoop target it body orelse env)) fs s := by
  show Seg _ A R Y n s₀ _ ((forTurn target it body orelse env).onRaise (fun x => do noteFrame x env; theTreesLotGoes x)) fs s
  unfold forTurn
  rw [Sem.onRaise_eq_wrap]
  refine seg_bind_wrap (wpAny_standAt ?_)
  refine seg_bind_wrap (wpAny_onRaise (wpAny_mono h (fun r s₁ h₁ => ?_) fun _ _ e => e.elim))
  cases r with
  | none => exact seg_again rfl h₁
  | some v =>
    refine seg_bind_wrap (wpAny_mono h₁ (fun _ s₂ h₂ => ?_) fun _ _ e => e.elim)
    refine seg_bind_wrap (wpAny_mono h₂ (fun _ s₃ h₃ => ?_) fun _ _ e => e.elim)
    rw [Sem.bind_eq_wrap', Sem.wrap_wrap]
    rw [Sem.wrap_congr (execs body env) _ _ (K' := fun f => match f with
            | .next | .cont => .pure (.again (.forLoop target it body orelse env))
            | .brk => .pure (.done .next)
            | .ret v => .pure (.done (.ret v))) (H' := (fun e => (do noteFrame e env; theTreesLotGoes e : Sem Unit).wrap (fun _ => .raise e) .raise id id))
        (fun f => by cases f <;> rfl)
        (fun e => by first | exact Sem.bind_eq_wrap _ _ | (show (do noteFrame e env; theTreesLotGoes e : Sem Unit).bind (fun _ => .raise e) = _; rw [Sem.bind_eq_wrap]))]
    exact h₃
end

section
variable {prog : Program} {w : World} {A : Around}
theorem seg_chars {x : Str} {e a : Addr} {nn : Nat} {fp wr : List Addr} {St₀ : Nat → Heap → Prop} {Mid : Nat → Addr → Heap → Prop} {env : Env} {bA bB : List Stmt} {p1 p2 p3 p4 p5 p6 p7 p8 p9 p10 p11 p12 p13 p14 : Pos} {k1 k2 : Nat} {c₀ : Code} {KK : Result → Sem Fin} {lv₀ : List Value}
    (hh : A.handled = none) (W₀ : ∀ A' : Around, A'.handled = none → WalksU prog w A' e fp wr nn (fun i vals => ∃ t v, (∃ c u, x.cps[i]? = some c ∧ v = .str ⟨#[c]⟩ u) ∧ vals = #[.int i t, v]) St₀ Mid)
    (hchars : ∀ (i c : Nat), x.cps[i]? = some c → c ≠ 92)
    (hxp : env.kindOf "pos" = some .local) (hxc : env.kindOf "ch" = some .local) (hxe : env.kindOf "escape" = some .local) (hk : env.scope.kind = .function)
    (hp : (env.scope.kind == .class || (env.scope.kind == .module && env.locals != env.globals)) = false) (hco : env.scope.isCoroutine = false) (hin : interactive env = false)
    (hCf : env.locals ∉ fp) (hfp : ∀ b ∈ fp, env.locals ≤ b ∧ b ≠ a) (hCa : env.locals ≠ a)
    (hEnd : ∀ (s₀ s : Shared) (m : Str → Option Value), s.heap.Ns env.locals m → m "escape" = some (.bool false) → Since env.locals a s₀ s → Seg (model prog w) A (chR env.locals a) (chY x env.locals a nn) 0 s₀ c₀ (KK (.ok .next)) [] s) :
    ∀ (r i : Nat) (q : Pos) (s₀ s : Shared) (m : Str → Option Value), nn - i = r → i ≤ nn → St₀ i s.heap → s.heap.Ns env.locals m → m "escape" = some (.bool false) → Since env.locals a s₀ s →
      Seg (model prog w) A (chR env.locals a) (chY x env.locals a nn) (nn - i) s₀
        (.forLoop (.Tuple [.Name "pos" p1, .Name "ch" p2] k1 p3) (.ref e) [.If (.Name "escape" p4) bA [.If (.Compare (.Name "ch" p5) [.Eq] [.Constant (.str "\\") 0 p6] p7) bB [.Expr (.Yield (some (.Tuple [.Name "pos" p8, .Name "ch" p9] k2 p10)) p11) p12] p13] p14] [] env)
        ((model prog w).den (.forLoop (.Tuple [.Name "pos" p1, .Name "ch" p2] k1 p3) (.ref e) [.If (.Name "escape" p4) bA [.If (.Compare (.Name "ch" p5) [.Eq] [.Constant (.str "\\") 0 p6] p7) bB [.Expr (.Yield (some (.Tuple [.Name "pos" p8, .Name "ch" p9] k2 p10)) p11) p12] p13] p14] [] env))
        [.ret KK none false lv₀ c₀ q []] s := by
  have offW : ∀ b, (b < env.locals ∨ b = a) → b ∉ wr := fun b hb hw => by
    have := hfp b ((W₀ A hh).sub _ hw)
    rcases hb with hb | hb
    · exact absurd this.1 (Nat.not_le.mpr hb)
    · exact this.2 hb
  have offC : ∀ b, (b < env.locals ∨ b = a) → b ≠ env.locals := fun b hb he => by
    rcases hb with hb | hb
    · exact absurd he (Nat.ne_of_lt hb)
    · exact hCa (he.symm.trans hb)
  intro r
  induction r with
  | zero =>
    intro i q s₀ s m hr hi hst hn hesc hs
    have hin' : i = nn := by omega
    subst hin'
    rw [Nat.sub_self]
    refine seg_forLoop ((W₀ _ (by exact hh)).done s _ _ hst fun h' tk hk' => ?_)
    show Seg _ A _ _ 0 s₀ _ (do return Fin.done (← (execs [] env).onRaise (fun x => do noteFrame x env; theTreesLotGoes x))) _ _
    refine seg_leaf (.ok .next) (hEnd s₀ _ m ?_ hesc (hs.step fun b o hb ee => ?_))
    · exact hn.at' fun o ee => hk' _ o (fun hw => hCf ((W₀ A hh).sub _ hw)) ee
    · exact hk' b o (offW b hb) ee
  | succ r ih =>
    intro i q s₀ s m hr hi hst hn hesc hs
    have hlt : i < nn := by omega
    have hA' : (A.over (.forLoop (.Tuple [.Name "pos" p1, .Name "ch" p2] k1 p3) (.ref e) [.If (.Name "escape" p4) bA [.If (.Compare (.Name "ch" p5) [.Eq] [.Constant (.str "\\") 0 p6] p7) bB [.Expr (.Yield (some (.Tuple [.Name "pos" p8, .Name "ch" p9] k2 p10)) p11) p12] p13] p14] [] env) [.ret KK none false lv₀ c₀ q []]).handled = none := hh
    have hCw : env.locals ∉ wr := fun hw => hCf ((W₀ A hh).sub _ hw)
    refine seg_forLoop ((W₀ _ hA').item i s _ _ hlt hst fun T vals h₁ tk₁ hPv hT₁ hmid hk₁ => ?_)
    obtain ⟨t, v, ⟨cc, u, hcc, rfl⟩, rfl⟩ := hPv
    refine (W₀ _ hA').go _ _ _ i T _ _ _ hmid fun h₁' hst₁ hk₁' => ?_
    have hT₁' : h₁'.IsTuple T #[.int i t, .str ⟨#[cc]⟩ u] := let ⟨o, ee, rr⟩ := hT₁; ⟨o, hk₁' _ o ((W₀ _ hA').apart i T _ hmid) ee, rr⟩
    refine wpAny_assign_Tuple hA' hT₁' rfl rfl fun h₁'' hx₁ => ?_
    replace hx₁ : Heap.ExtBut h₁'.objs.size h₁' h₁'' := hx₁
    have old₁ : ∀ b o, h₁'.get? b = some o → h₁''.get? b = some o := fun b o ee => hx₁ b o (Nat.ne_of_lt (Heap.lt_size ee)) ee
    show wpAny _ _ (do holding [.str ⟨#[cc]⟩ u] (assign (.Name "pos" p1) env (.int i t)); do holding [] (assign (.Name "ch" p2) env (.str ⟨#[cc]⟩ u)); pure ()) _ _ _
    refine wpAny_bind (wpAny_holding (wpAny_assign_Name (wpAny_storeName_local hxp (hn.at' fun o ee => old₁ _ o (hk₁' _ o hCw (hk₁ _ o hCw ee))) (fun h₂a hn₂a hs₂a => ?_) hp)))
    replace hs₂a : Heap.SameBut env.locals h₁'' h₂a := hs₂a
    refine wpAny_bind (wpAny_holding (wpAny_assign_Name (wpAny_storeName_local hxc hn₂a (fun h₂ hn₂ hs₂ => wpAny_pure ?_) hp)))
    replace hs₂ : Heap.SameBut env.locals h₂a h₂ := hs₂
    have up₂ : ∀ b o, b ≠ env.locals → b ∉ wr → s.heap.get? b = some o → h₂.get? b = some o := fun b o hbC hbw ee => hs₂.extBut b o hbC (hs₂a.extBut b o hbC (old₁ b o (hk₁' b o hbw (hk₁ b o hbw ee))))
    have hst₂ : St₀ (i + 1) h₂ := (W₀ A hh).frame _ _ _ hst₁ fun b hb o ee => hs₂.extBut b o (fun h => hCf (h ▸ hb)) (hs₂a.extBut b o (fun h => hCf (h ▸ hb)) (old₁ b o ee))
    have hsince₂ : ∀ tk : Nat, Since env.locals a s₀ { s with heap := h₂, toks := tk } := fun tk => hs.step fun b o hb ee => up₂ b o (offC b hb) (offW b hb) ee
    have hesc₂ : (fun y => if y = "ch" then some (Value.str ⟨#[cc]⟩ u) else if y = "pos" then some (Value.int i t) else m y) "escape" = some (.bool false) := by
      show (if ("escape" : Str) = "ch" then some (Value.str ⟨#[cc]⟩ u) else if ("escape" : Str) = "pos" then some (Value.int i t) else m "escape") = _
      rw [if_neg (by decide), if_neg (by decide)]; exact hesc
    refine seg_execs_cons (seg_If (wpAny_isTrue_value (wpAny_Name (wpAny_loadName_local hk hxe hn₂ hesc₂ (wpAny_truthy_bool ?_)))))
    simp only [Bool.false_eq_true, if_false]
    refine seg_execs_cons (seg_If (wpAny_isTrue_Compare1 (wpAny_Name (wpAny_loadName_local hk hxc hn₂ (v := .str ⟨#[cc]⟩ u) (by simp) (wpAny_Constant_str (PySem.P.eq_str (wpAny_truthy_bool ?_)))))))
    have hne : ((⟨#[cc]⟩ : Str).cps.toList == (Str.ofString "\\").cps.toList) = false := by
      have : (Str.ofString "\\").cps.toList = [92] := by decide +kernel
      rw [this]
      show ([cc] == [92]) = false
      have := hchars i cc hcc
      simp [this]
    rw [hne]
    simp only [Bool.false_eq_true, if_false]
    obtain ⟨r', hr'⟩ : ∃ r', nn - i = r' + 1 := ⟨nn - i - 1, by omega⟩
    rw [hr']
    refine seg_execs_cons (seg_Expr_Yield rfl rfl rfl (wpAny_Tuple (spliced_more (wpAny_Name (wpAny_loadName_local hk hxp hn₂ (v := .int i t) (by simp; decide) (spliced_more (wpAny_Name (wpAny_loadName_local hk hxc hn₂ (v := .str ⟨#[cc]⟩ u) (by simp) (spliced_none ⟨by size_fits, fun kap hkap => ?_⟩)))))))) hco hin)
    refine ⟨⟨cc, h₂.objs.size, i, t, u, ?_, rfl, ?_⟩, ?_, fun s'' how => hkap .none s'' ?_⟩
    · rw [show nn - 1 - r' = i by omega]; exact hcc
    · exact ⟨_, Heap.get?_push_size _ rfl, rfl, _, rfl⟩
    · exact (hsince₂ _).step fun b o _ ee => Heap.get?_push_of_some _ ee
    · have hn₃ : s''.heap.Ns env.locals (fun y => if y = "ch" then some (Value.str ⟨#[cc]⟩ u) else if y = "pos" then some (Value.int i t) else m y) := (hn₂.push _).at' fun o ee => how _ (Nat.le_refl _) o ee
      have := ih (i + 1) q s'' s'' _ (by omega) hlt ((W₀ A hh).frame _ _ _ hst₂ fun b hb o ee => how b (hfp b hb).1 o (Heap.get?_push_of_some _ ee)) hn₃ hesc₂ (Since.refl _ _ _)
      rw [show nn - (i + 1) = r' by omega] at this
      exact seg_again rfl this
end

end Mine

/-! ## L4 -/
namespace Mine
open PySem PySem.W PyProof.Rows PySem.Calls
open Sem (wp)
set_option maxRecDepth 100000
set_option maxHeartbeats 8000000
section
variable {prog : Program} {w : World} {A : Around} {p : Program} {loose : List Str} {mg mb : Str → Option Value}
abbrev gSc : Scope := { kind := .function, names := [("addr", .local), ("pos", .local), ("escape", .local), ("ch", .local), ("enumerate", .globalImplicit)], isGenerator := true, isCoroutine := false }

theorem drawsStr {A : Around} (hh : A.handled = none) (it : Addr) (x : Str) (t : Tok) :
    Draws prog w A it [it] x.cps.size (fun i v => ∃ c u, x.cps[i]? = some c ∧ v = .str ⟨#[c]⟩ u) (fun i h => h.IsStrIter it (strIterType x) x t i) := by
  unfold strIterType
  split
  · exact Draws.strAscii hh it x t
  · exact Draws.strWide hh it x t

theorem seg_start {x : Str} {tx : Tok} {C a : Addr} {og : Obj} {h₀ : Heap} {m : Str → Option Value} {nm : Str} {cd : Value} {s : Shared} {bA bB bC : List Stmt} {p1 p2 p3 p4 p5 p6 p7 p8 p9 p10 p11 p12 p13 p14 q1 q2 q3 q4 q5 q6 q7 q8 q9 q10 q11 q12 q13 : Pos} {k1 k2 : Nat}
    (hh : A.handled = none) (X : (hd.heap_39 w.params).In h₀) (T : TopRead p loose mg mb h₀) (F : Fr h₀ C s.heap m) (N : News h₀ C s.heap [(a, og)]) (hsub : ∀ b o, b < C → s.heap.get? b = some o → h₀.get? b = some o) (hx : m "addr" = some (.str x tx))
    (hchars : ∀ (i c : Nat), x.cps[i]? = some c → c ≠ 92) :
    Seg (model prog w) A (chR C a) (chY x C a x.cps.size) x.cps.size s
      (.func [.Assign [.Name "pos" q1] (.Constant (.int 0) 0 q2) q3, .Assign [.Name "escape" q4] (.Constant (.bool false) 0 q5) q6,
        .For (.Tuple [.Name "pos" p1, .Name "ch" p2] k1 p3) (.Call (.Name "enumerate" q7) [.Name "addr" q8] [] q9) [.If (.Name "escape" p4) bA [.If (.Compare (.Name "ch" p5) [.Eq] [.Constant (.str "\\") 0 p6] p7) bB [.Expr (.Yield (some (.Tuple [.Name "pos" p8, .Name "ch" p9] k2 p10)) p11) p12] p13] p14] [] q10,
        .If (.Name "escape" q11) bC [] q12] (envOf nm gSc C 133 cd))
      ((model prog w).den (.func [.Assign [.Name "pos" q1] (.Constant (.int 0) 0 q2) q3, .Assign [.Name "escape" q4] (.Constant (.bool false) 0 q5) q6,
        .For (.Tuple [.Name "pos" p1, .Name "ch" p2] k1 p3) (.Call (.Name "enumerate" q7) [.Name "addr" q8] [] q9) [.If (.Name "escape" p4) bA [.If (.Compare (.Name "ch" p5) [.Eq] [.Constant (.str "\\") 0 p6] p7) bB [.Expr (.Yield (some (.Tuple [.Name "pos" p8, .Name "ch" p9] k2 p10)) p11) p12] p13] p14] [] q10,
        .If (.Name "escape" q11) bC [] q12] (envOf nm gSc C 133 cd))) [] s := by
  obtain ⟨hd0, d0, fr0, g0, u0⟩ := A
  cases hh
  have NN₀ := N
  have NNk : NN₀ = NN₀ := rfl
  refine seg_func (seg_execs_cons (seg_wrap ?_))
  k_steps
  dsimp only
  refine seg_execs_cons (seg_wrap ?_)
  k_steps
  dsimp only
  refine seg_execs_cons (seg_For ?_)
  k_steps
  rename Fr _ _ _ _ => FF
  refine ld FF (v := .str x tx) (by show (if ("addr" : Str) = "escape" then _ else if ("addr" : Str) = "pos" then _ else m "addr") = _; rw [if_neg (by decide), if_neg (by decide)]; exact hx) ?_
  rename News _ _ _ _ => NN
  rename Heap => h'
  refine spliced_none ?_
  refine call_enumerate_str fun h₁ hE hI hz hk₁ => ?_
  refine wpAny_pyIter_enum hE ?_
  intro q
  have hL := FF.ns.lt
  dsimp only at hE hI hz hk₁ ⊢
  have ha : a < h'.objs.size := Heap.lt_size (NN.get (.head _))
  have haC : a ≠ C := (NN _ (.head _)).2.1
  refine seg_chars (env := envOf nm gSc C 133 cd) (e := h'.objs.size + 1) (a := a) (nn := x.cps.size) (fp := [h'.objs.size + 1, h'.objs.size]) (wr := [h'.objs.size + 1, h'.objs.size]) rfl
    (fun A' hA => (WalksT.enumerateD (drawsStr (A := A'.in1) hA h'.objs.size x tx) (h'.objs.size + 1) (Nat.succ_ne_self _) (fun hm => Nat.succ_ne_self _ (List.mem_singleton.mp hm)) (.head _)).toU)
    hchars rfl rfl rfl rfl rfl rfl rfl ?_ ?_ haC.symm ?_ x.cps.size 0 q s { s with heap := h₁, toks := s.toks + 1 + 1 + 1 } _ rfl (Nat.zero_le _) ⟨⟨_, hE⟩, hI⟩ (FF.ns.keeps hk₁) ?_ ?_
  · intro hm
    have hm' : C ∈ [h'.objs.size + 1, h'.objs.size] := hm
    rcases List.mem_cons.mp hm' with hm' | hm'
    · exact absurd hm' (Nat.ne_of_lt (Nat.lt_succ_of_lt hL))
    · exact absurd (List.mem_singleton.mp hm') (Nat.ne_of_lt hL)
  · intro b hb
    show C ≤ b ∧ b ≠ a
    rcases List.mem_cons.mp hb with hb | hb
    · rw [hb]; exact ⟨Nat.le_of_lt (Nat.lt_succ_of_lt hL), Nat.ne_of_gt (Nat.lt_succ_of_lt ha)⟩
    · rw [List.mem_singleton.mp hb]; exact ⟨Nat.le_of_lt hL, Nat.ne_of_gt ha⟩
  · intro s₁ s₂ m₂ hn₂ he₂ hs₂
    refine seg_execs_cons (seg_If (wpAny_isTrue_value (wpAny_Name (wpAny_loadName_local rfl rfl hn₂ he₂ (wpAny_truthy_bool ?_)))))
    simp only [Bool.false_eq_true, if_false]
    exact seg_end (.ok (.ret .none)) ⟨rfl, rfl, hs₂⟩
  · show (if ("escape" : Str) = "escape" then _ else _) = _
    rw [if_pos rfl]
  · refine ⟨h₁, _, rfl, fun b o hb e => hk₁ b o ?_⟩
    rcases hb with hb | hb
    · exact FF.keep b o (hsub b o hb e)
    · subst hb
      have e' := NN₀.get (.head _)
      rw [e] at e'
      cases e'
      exact NN.get (.head _)
end

end Mine

/-! ## L5 -/
namespace Mine
open PySem PySem.W PyProof.Rows PySem.Calls
open Sem (wp)
set_option maxRecDepth 100000
set_option maxHeartbeats 8000000
section
variable {prog : Program} {w : World} {A : Around} {E : Value → Shared → Prop} {s : Shared} {p : Program} {loose : List Str} {mg mb : Str → Option Value}
abbrev cSc : Scope := { kind := .function, names := [("addr", .local), ("opens", .local), ("pos", .local), ("ch", .local), ("_strip_quoted_realnames", .globalImplicit), ("_iter_escaped_chars", .globalImplicit)], isGenerator := false, isCoroutine := false }

/-- what a sign adds to the count of open brackets -/
def brk (c : Nat) : Int := if c = 40 then 1 else if c = 41 then -1 else 0

theorem check_body {cc : Nat} {o k : Int} {t t1 t2 : Tok} {h₀ : Heap} {L : Addr} {m₁ : Str → Option Value} {nw : List (Addr × Obj)} {nm : Str} {cd : Value} {Q : Flow → Shared → Prop} {p1 p2 p3 p4 p5 p6 p7 p8 p9 p10 p11 p12 p13 p14 p15 p16 p17 p18 p19 p20 : Pos}
    (hA : A.handled = none) (X : (hd.heap_39 w.params).In h₀) (T : TopRead p loose mg mb h₀)
    (hcc : cc = 40 ∨ cc = 41 ∨ cc = 32) (h0 : 0 ≤ o + brk cc) (ho0 : 0 ≤ o) (ho : o ≤ 100000)
    (F : Fr h₀ L s.heap (fun y => if y = "ch" then some (.str ⟨#[cc]⟩ t2) else if y = "pos" then some (.int k t1) else if y = "opens" then some (.int o t) else m₁ y)) (N : News h₀ L s.heap nw)
    (hQ : ∀ h' tk m' t', Fr h₀ L h' m' → News h₀ L h' nw → m' "opens" = some (.int (o + brk cc) t') → Q .next { s with heap := h', toks := tk }) :
    wpAny (model prog w) A (execs [.If (.Compare (.Name "ch" p1) [.Eq] [.Constant (.str "(") 0 p2] p3) [.AugAssign (.Name "opens" p4) .Add (.Constant (.int 1) 0 p5) p6] [.If (.Compare (.Name "ch" p7) [.Eq] [.Constant (.str ")") 0 p8] p9) [.AugAssign (.Name "opens" p10) .Sub (.Constant (.int 1) 0 p11) p12, .If (.Compare (.Name "opens" p13) [.Lt] [.Constant (.int 0) 0 p14] p15) [.Return (some (.Constant (.bool false) 0 p16)) p17] [] p18] [] p19] p20]
      (envOf nm cSc L 147 cd)) Q E s := by
  obtain ⟨hd0, d0, fr0, g0, u0⟩ := A
  cases hA
  have b40 : brk 40 = 1 := rfl
  have b41 : brk 41 = -1 := rfl
  have b32 : brk 32 = 0 := rfl
  rcases hcc with rfl | rfl | rfl
  · k_steps
    rename Fr _ _ _ _ => FF
    rename News _ _ _ _ => NN
    exact hQ _ _ _ _ FF NN (by show (if ("opens" : Str) = "opens" then _ else _) = _; rw [if_pos rfl, b40])
  · k_steps
    rename Fr _ _ _ _ => FF
    rename News _ _ _ _ => NN
    exact hQ _ _ _ _ FF NN (by show (if ("opens" : Str) = "opens" then _ else _) = _; rw [if_pos rfl, b41]; rfl)
  · k_steps
    exact hQ _ _ _ _ F N (by show (if ("opens" : Str) = "ch" then _ else if ("opens" : Str) = "pos" then _ else if ("opens" : Str) = "opens" then _ else _) = _; rw [if_neg (by decide), if_neg (by decide), if_pos rfl, b32, Int.add_zero])
end

end Mine

/-! ## L6 -/
namespace Mine
open PySem PySem.W PyProof.Rows PySem.Calls
open Sem (wp)
set_option maxRecDepth 100000
set_option maxHeartbeats 8000000
section
variable {prog : Program} {w : World} {A : Around} {E : Value → Shared → Prop} {s : Shared} {p : Program} {loose : List Str} {mg mb : Str → Option Value}

/-- open brackets behind the first j signs -/
def balAt (x : Str) (j : Nat) : Int := ((x.cps.toList.take j).map brk).sum
theorem balAt_succ {x : Str} {j c : Nat} (h : x.cps[j]? = some c) : balAt x (j + 1) = balAt x j + brk c := by
  unfold balAt
  rw [List.take_add_one, Array.getElem?_toList, h]
  simp
theorem brk_le (c : Nat) : brk c ≤ 1 := by unfold brk; split; exact Int.le_refl _; split <;> decide
theorem balAt_le (x : Str) : ∀ j, balAt x j ≤ j
  | 0 => by unfold balAt; simp
  | j + 1 => by
    have ih := balAt_le x j
    cases h : x.cps[j]? with
    | none =>
      have : balAt x (j + 1) = balAt x j := by unfold balAt; rw [List.take_add_one, Array.getElem?_toList, h]; simp
      omega
    | some c =>
      have := balAt_succ h
      have := brk_le c
      omega

theorem letGo_gen {elts : List Expr} {x1 : Nat} {pos : Pos} {I g T : Nat} {Q : Unit → Shared → Prop} (hg : s.heap.IsGen I g) (hQ : Q () s) :
    wpAny (model prog w) A (letOwnedTupleGo (.Tuple elts x1 pos) (.ref I) (.ref T)) Q E s := by
  obtain ⟨o, nm, qn, ho, hc, hd, hsl⟩ := hg
  unfold letOwnedTupleGo
  refine wpAny_bind (wpAny_load ho ?_)
  simp only [hc, hd]
  exact wpAny_pure hQ

theorem setGen_push (s : Shared) (G₀ : Array GenState) (gs y : GenState) (h : s.gens = G₀.push gs) : s.setGen G₀.size y = { s with gens := G₀.push y } := by
  unfold Shared.setGen
  rw [h]
  congr 1
  apply Array.ext'
  simp

theorem owned_news {h₀ h : Heap} {L C : Addr} {m : Str → Option Value} (F : Fr h₀ L h m) (hLC : L < C) : ∃ nw, News h₀ L h nw ∧ ∀ b o, C ≤ b → h.get? b = some o → (b, o) ∈ nw := by
  refine ⟨(List.range h.objs.size).filterMap fun b => if C ≤ b then (h.get? b).map fun o => (b, o) else none, fun q hq => ?_, fun b o hb e => ?_⟩
  · obtain ⟨b, hb, he⟩ := List.mem_filterMap.mp hq
    split at he
    · rename_i hC
      obtain ⟨o, ho, rfl⟩ := Option.map_eq_some_iff.mp he
      refine ⟨ho, Nat.ne_of_gt (Nat.lt_of_lt_of_le hLC hC), ?_⟩
      cases e : h₀.get? b with
      | none => rfl
      | some o' => exact absurd (Nat.lt_of_lt_of_le (Heap.lt_size e) (Nat.le_trans F.above (Nat.le_of_lt (Nat.lt_of_lt_of_le hLC hC)))) (Nat.lt_irrefl _)
    · cases he
  · refine List.mem_filterMap.mpr ⟨b, List.mem_range.mpr (Heap.lt_size e), ?_⟩
    rw [if_pos hb, e]; rfl

theorem check_loop {R : Result → Shared → Prop} {x : Str} {h₀ : Heap} {L C a : Addr} {m : Str → Option Value} {nm : Str} {cd : Value} {t₀ : Tok} {G₀ : Array GenState} {gs₀ : GenState} {k0 : Nat} {p1 p2 p3 p4 p5 p6 p7 p8 p9 p10 p11 p12 p13 p14 p15 p16 p17 p18 p19 p20 p21 p22 p23 : Pos}
    (hA : A.handled = none) (hroom : A.depth < recursionLimit) (X : (hd.heap_39 w.params).In h₀) (T : TopRead p loose mg mb h₀) (F : Fr h₀ L s.heap m) (ho : m "opens" = some (.int 0 t₀))
    (hg : s.heap.IsGen a G₀.size) (hgs : s.gens = G₀.push gs₀) (hgo : ∀ s'' : Shared, s''.heap = s.heap → gs₀.Goes (model prog w) A.in1 (chR C a) (chY x C a x.cps.size) x.cps.size (.send .none) s'')
    (hLC : L < C) (hCa : C ≤ a) (hchars : ∀ (i c : Nat), x.cps[i]? = some c → c = 40 ∨ c = 41 ∨ c = 32) (hsafe : ∀ j, j ≤ x.cps.size → 0 ≤ balAt x j) (hlen : x.cps.size ≤ 100000)
    (hR : ∀ h' tk m' t', Fr h₀ L h' m' → m' "opens" = some (.int (balAt x x.cps.size) t') → R (.ok .next) { s with heap := h', toks := tk, gens := G₀.push .finished }) :
    codeAny (model prog w) A (.forLoop (.Tuple [.Name "pos" p21, .Name "ch" p22] k0 p23) (.ref a)
      [.If (.Compare (.Name "ch" p1) [.Eq] [.Constant (.str "(") 0 p2] p3) [.AugAssign (.Name "opens" p4) .Add (.Constant (.int 1) 0 p5) p6] [.If (.Compare (.Name "ch" p7) [.Eq] [.Constant (.str ")") 0 p8] p9) [.AugAssign (.Name "opens" p10) .Sub (.Constant (.int 1) 0 p11) p12, .If (.Compare (.Name "opens" p13) [.Lt] [.Constant (.int 0) 0 p14] p15) [.Return (some (.Constant (.bool false) 0 p16)) p17] [] p18] [] p19] p20]
      [] (envOf nm cSc L 147 cd)) R s := by
  obtain ⟨hd0, d0, fr0, g0, u0⟩ := A
  cases hA
  refine codeAny_forLoop_any (fun k s' => ∃ j h' tk gs m' t', j ≤ x.cps.size ∧ k = x.cps.size + 1 - j ∧ s' = { s with heap := h', toks := tk, gens := G₀.push gs } ∧ Fr h₀ L h' m' ∧ m' "opens" = some (.int (balAt x j) t') ∧ h'.IsGen a G₀.size ∧
      (∀ s'' : Shared, s''.heap = h' → gs.Goes (model prog w) (Around.in1 ⟨none, d0, fr0, g0, u0⟩) (chR C a) (chY x C a x.cps.size) (x.cps.size - j) (.send .none) s'')) ?_ (x.cps.size + 1)
    ⟨0, s.heap, s.toks, gs₀, m, t₀, Nat.zero_le _, rfl, by rw [← hgs], F, ho, hg, fun s'' e => hgo s'' e⟩
  rintro k s' ⟨j, h', tk, gs, m', t', hj, rfl, rfl, F', ho', hg', hgo'⟩
  have hgs' : ({ s with heap := h', toks := tk, gens := G₀.push gs } : Shared).gens[G₀.size]? = some gs := Array.getElem?_push_size ..
  have hset : ∀ (s₁ : Shared) (g1 g2 : GenState), s₁.gens = G₀.push g1 → s₁.setGen G₀.size g2 = { s₁ with gens := G₀.push g2 } := fun s₁ g1 g2 e => setGen_push s₁ G₀ g1 g2 e
  have hrun := hset { s with heap := h', toks := tk, gens := G₀.push gs } gs .running rfl
  refine wpAny_pyNext_gen (P := fun n s₀ s₁ => n = 0 ∧ Since C a s₀ s₁) (Y := chY x C a x.cps.size) (n := x.cps.size - j) rfl (T.nolimit.keeps F'.keep) hroom hg' hgs' (hgo' _ (by rw [hrun])) ?_ ?_
  · intro v s₁ gs' hv
    obtain ⟨⟨cc, T', k1, t1, t2, hcc, rfl, hT'⟩, hsince, hkap⟩ := hv
    rcases Nat.lt_or_ge j x.cps.size with hlt | hge
    · obtain ⟨r, hr⟩ : ∃ r, x.cps.size - j = r + 1 := ⟨x.cps.size - j - 1, by omega⟩
      rw [hr] at hkap hcc
      have hidx : x.cps.size - 1 - (r + 1 - 1) = j := by omega
      rw [hidx] at hcc
      rw [hrun] at hsince
      obtain ⟨h₁, tk₁, rfl, hk₁⟩ := hsince
      dsimp only at hkap hk₁ hT'
      rw [hset _ _ gs' rfl]
      refine letGo_gen (g := G₀.size) ?_ ?_
      · obtain ⟨og, nm', qn', hog, hrest⟩ := hg'
        exact ⟨og, nm', qn', hk₁ a og (.inr rfl) hog, hrest⟩
      have Fh : ∀ b o, h₀.get? b = some o → h₁.get? b = some o := fun b o e => hk₁ b o (.inl (Nat.lt_trans (Nat.lt_of_lt_of_le (Heap.lt_size e) F'.above) hLC)) (F'.keep b o e)
      have F₁ : Fr h₀ L h₁ m' := ⟨F'.ns.at' fun o e => hk₁ L o (.inl hLC) e, Fh, F'.above⟩
      refine wpAny_assign_Tuple rfl hT' rfl rfl fun h₂ hx₂ => ?_
      replace hx₂ : Heap.ExtBut h₁.objs.size h₁ h₂ := hx₂
      have old₂ : ∀ b o, h₁.get? b = some o → h₂.get? b = some o := fun b o e => hx₂ b o (Nat.ne_of_lt (Heap.lt_size e)) e
      show wpAny _ _ (do holding [.str ⟨#[cc]⟩ t2] (assign (.Name "pos" p21) _ (.int k1 t1)); do holding [] (assign (.Name "ch" p22) _ (.str ⟨#[cc]⟩ t2)); pure ()) _ _ _
      refine wpAny_bind (wpAny_holding (wpAny_assign_Name (wpAny_storeName_local rfl (F₁.ns.keeps old₂) (fun h₃ hn₃ hs₃ => ?_) rfl)))
      replace hs₃ : Heap.SameBut L h₂ h₃ := hs₃
      refine wpAny_bind (wpAny_holding (wpAny_assign_Name (wpAny_storeName_local rfl hn₃ (fun h₄ hn₄ hs₄ => wpAny_pure ?_) rfl)))
      replace hs₄ : Heap.SameBut L h₃ h₄ := hs₄
      have F₂ : Fr h₀ L h₂ m' := ⟨F₁.ns.keeps old₂, fun b o e => old₂ b o (Fh b o e), F'.above⟩
      have F₄ := (F₂.set hn₃ hs₃).set hn₄ hs₄
      obtain ⟨nw, NW, hnw⟩ := owned_news F₄ hLC
      have canon : (fun (y : Str) => if y = "ch" then some (Value.str ⟨#[cc]⟩ t2) else if y = "pos" then some (Value.int k1 t1) else m' y) =
          (fun (y : Str) => if y = "ch" then some (Value.str ⟨#[cc]⟩ t2) else if y = "pos" then some (Value.int k1 t1) else if y = "opens" then some (.int (balAt x j) t') else m' y) := by
        funext y
        by_cases h3 : y = "opens"
        · subst h3; rw [if_neg (by decide), if_neg (by decide), if_neg (by decide), if_neg (by decide), if_pos rfl, ho']
        · simp only [if_neg h3]
      have F₅ : Fr h₀ L h₄ (fun (y : Str) => if y = "ch" then some (Value.str ⟨#[cc]⟩ t2) else if y = "pos" then some (Value.int k1 t1) else if y = "opens" then some (.int (balAt x j) t') else m' y) := canon ▸ F₄
      have hb0 : 0 ≤ balAt x j + brk cc := by rw [← balAt_succ hcc]; exact hsafe (j + 1) hlt
      have hble := balAt_le x j
      refine check_body (nw := nw) rfl X T (hchars j cc hcc) hb0 (hsafe j hj) (by omega) F₅ NW fun h₆ tk₆ m₆ t₆ F₆ N₆ e₆ => ?_
      have ow : ∀ b o, C ≤ b → h₁.get? b = some o → h₆.get? b = some o := fun b o hb e => by
        have hbL : b ≠ L := Nat.ne_of_gt (Nat.lt_of_lt_of_le hLC hb)
        exact (N₆ _ (hnw b o hb (hs₄.extBut b o hbL (hs₃.extBut b o hbL (old₂ b o e))))).1
      refine ⟨x.cps.size + 1 - (j + 1), by omega, j + 1, h₆, tk₆, gs', m₆, t₆, hlt, rfl, rfl, F₆, by rw [balAt_succ hcc]; exact e₆, ?_, fun s'' e => ?_⟩
      · obtain ⟨og, nm', qn', hog, hrest⟩ := hg'
        exact ⟨og, nm', qn', ow a og hCa (hk₁ a og (.inr rfl) hog), hrest⟩
      · have hk := hkap s'' fun b hb o e' => by rw [e]; exact ow b o hb e'
        rw [show x.cps.size - (j + 1) = r by omega]
        exact hk
    · have : x.cps.size - j = 0 := by omega
      rw [this] at hkap
      exact (hkap s₁ fun _ _ _ e => e).elim
  · intro s₁ hP h₂ hk₂
    obtain ⟨hj0, hsince⟩ := hP
    have hjn : j = x.cps.size := by omega
    subst hjn
    rw [hrun] at hsince
    obtain ⟨h₁, tk₁, rfl, hk₁⟩ := hsince
    dsimp only at hk₁ hk₂
    rw [hset _ _ .finished rfl]
    refine wpAny_execs_nil ?_
    exact hR h₂ tk₁ m' t' ⟨F'.ns.at' fun o e => hk₂ L o (hk₁ L o (.inl hLC) e), fun b o e => hk₂ b o (hk₁ b o (.inl (Nat.lt_trans (Nat.lt_of_lt_of_le (Heap.lt_size e) F'.above) hLC)) (F'.keep b o e)), F'.above⟩ ho'
end

end Mine

/-! ## L7 -/
namespace Mine
open PySem PySem.W PyProof.Rows PySem.Calls
open Sem (wp)
set_option maxRecDepth 100000
set_option maxHeartbeats 8000000
section
variable {prog : Program} {w : World} {A : Around} {E : Value → Shared → Prop} {s : Shared} {p : Program} {loose : List Str} {mg mb : Str → Option Value}

theorem get_push_lt {h : Heap} {b : Addr} (o : Obj) (hb : b < h.objs.size) : (h.push o).get? b = h.get? b := by
  cases h
  simp only [Heap.get?, Heap.push] at *
  rw [Array.getElem?_push_lt hb, Array.getElem?_eq_getElem hb]

theorem enter_gen {K : Frag} {R : Result → Shared → Prop} {name qual : Str} {params : Arguments} {body : List Stmt} {scope : Scope} {dV kV doc pm cdv ct oc : Value} {an od : Option Addr} {osl : Array (Option Value)} {f : Addr} {args : Args} {binds : List (Str × Value)}
    (X : K.In s.heap) (hlim : s.heap.NoLimit)
    (ho : K.lookup f = some ⟨oc, od, .func (fnOf name qual params body scope dV kV doc pm an cdv ct), osl⟩) (hcd : codeIn K cdv qual = true) (hroom : A.depth < recursionLimit)
    (hbind : BindsTo s (fnOf name qual params body scope dV kV doc pm an cdv ct) args binds) (hloc : ∀ y ∈ binds, scope.names.lookup y.1 = some .local)
    (h : ∀ (h₁ : Heap) (tk : Nat) (nv qv : Value), (∀ b, b < s.heap.objs.size → h₁.get? b = s.heap.get? b) → h₁.Ns s.heap.objs.size (fun y => binds.reverse.lookup y) → (∀ b o, s.heap.get? b = some o → h₁.get? b = some o) → h₁.objs.size = s.heap.objs.size + 1 →
      R (.ok (.ret (.ref (s.heap.objs.size + 1)))) { s with heap := h₁.push { cls := .type "generator", data := .fields #[.int s.gens.size 0, nv, qv] }, gens := s.gens.push (.fresh (.func body (envOf qual scope s.heap.objs.size f cdv))), toks := tk })
    (hcell : ∀ x ∈ scope.names, x.2 ≠ .cell) (hco : scope.isCoroutine = false) (hgen : scope.isGenerator = true) (hk : scope.kind = .function) :
    codeAny (model prog w) A (.call (.ref f) args) R s := by
  refine codeAny_call_generator (fd := fnOf name qual params body scope dV kV doc pm an cdv ct) (body := body) hroom (X _ _ ho) rfl hco hgen rfl (codeRec_of X hcd) (hbind _ _ _ _ ?_)
  refine wpAny_newFunctionEnv hcell hloc (fun h₀ hns₀ hsb₀ => ⟨hlim.fresh _ hsb₀, ?_⟩) hk
  replace hsb₀ : Heap.SameBut s.heap.objs.size (s.heap.push { cls := .type "frame", data := .dict #[] }) h₀ := hsb₀
  have hsz : h₀.objs.size = s.heap.objs.size + 1 := by rw [hsb₀.1]; exact Array.size_push ..
  have := h h₀ (s.toks + binds.length + 1 + 1) (.str name (s.toks + binds.length)) (.str qual (s.toks + binds.length + 1)) (fun b hb => by rw [hsb₀.2 b (Nat.ne_of_lt hb)]; exact get_push_lt _ hb) hns₀ (fun b o e => hsb₀.extBut b o (Nat.ne_of_lt (Heap.lt_size e)) (Heap.get?_push_of_some _ e)) hsz
  rw [← hsz] at this
  exact this

theorem gen_call {x : Str} {tx : Tok} {Q : Value → Shared → Prop} (X : (hd.heap_39 w.params).In s.heap) (T : TopRead p loose mg mb s.heap) (hroom : A.depth < recursionLimit)
    (hchars : ∀ (i c : Nat), x.cps[i]? = some c → c ≠ 92)
    (hQ : ∀ h' tk gs, (∀ b o, s.heap.get? b = some o → h'.get? b = some o) → h'.IsGen (s.heap.objs.size + 1) s.gens.size →
      (∀ (A' : Around) (s'' : Shared), A'.handled = none → s''.heap = h' → gs.Goes (model prog w) A' (chR s.heap.objs.size (s.heap.objs.size + 1)) (chY x s.heap.objs.size (s.heap.objs.size + 1) x.cps.size) x.cps.size (.send .none) s'') →
      Q (.ref (s.heap.objs.size + 1)) { s with heap := h', toks := tk, gens := s.gens.push gs }) :
    wpAny (model prog w) A (call (.ref 133) [.str x tx]) Q E s := by
  refine wpAny_call ?_
  refine' enter_gen (binds := [(Str.ofString "addr", .str x tx)]) X T.nolimit ?k6 ?k7 hroom ?k9 ?kB ?_ ?c5 ?c2 ?c3 ?c4
  case k6 => k_is
  case k7 => k_is
  case k9 => exact BindsTo.of_eq rfl
  case kB => exact locs rfl
  case c5 => decide
  case c2 => exact rfl
  case c3 => exact rfl
  case c4 => exact rfl
  intro h₁ tk nv qv hlow hn hk hsz
  have hkp : ∀ b o, s.heap.get? b = some o → (h₁.push { cls := .type "generator", data := .fields #[.int s.gens.size 0, nv, qv] }).get? b = some o := fun b o e => Heap.get?_push_of_some _ (hk b o e)
  have hga : (h₁.push { cls := .type "generator", data := .fields #[.int s.gens.size 0, nv, qv] }).get? (s.heap.objs.size + 1) = some { cls := .type "generator", data := .fields #[.int s.gens.size 0, nv, qv] } := (by rw [← hsz]; exact Heap.get?_push_size _ rfl)
  refine hQ _ _ _ hkp ⟨_, _, _, hga, rfl, rfl, rfl⟩ fun A' s'' hA' hs'' => ⟨rfl, ?_⟩
  have F : Fr s.heap s.heap.objs.size s''.heap (fun y => [(Str.ofString "addr", Value.str x tx)].reverse.lookup y) := ⟨by rw [hs'']; exact hn.push _, by rw [hs'']; exact hkp, Nat.le_refl _⟩
  have N : News s.heap s.heap.objs.size s''.heap [(s.heap.objs.size + 1, { cls := .type "generator", data := .fields #[.int s.gens.size 0, nv, qv] })] := by
    intro q hq
    obtain rfl := List.mem_singleton.mp hq
    refine ⟨by rw [hs'']; exact hga, Nat.succ_ne_self _, ?_⟩
    show s.heap.get? (s.heap.objs.size + 1) = none
    cases e : s.heap.get? (s.heap.objs.size + 1) with
    | none => rfl
    | some o => exact absurd (Heap.lt_size e) (Nat.not_lt.mpr (Nat.le_succ _))
  refine seg_start (q13 := { line := 0, col := 0, endLine := 0, endCol := 0 }) hA' X T F N ?_ rfl hchars
  intro b o hb e
  rw [hs'', get_push_lt _ (by rw [hsz]; exact Nat.lt_succ_of_lt hb), hlow b hb] at e
  exact e

theorem strip_call {x : Str} {tx : Tok} {Q : Value → Shared → Prop} (X : (hd.heap_39 w.params).In s.heap) (T : TopRead p loose mg mb s.heap) (hA : A.handled = none) (hroom : A.depth < recursionLimit)
    (hocc : (Builtin.Str.occurrences x (Str.ofString "\"") 0 x.length 1).isEmpty = true)
    (hQ : ∀ h' tk, (∀ b o, s.heap.get? b = some o → h'.get? b = some o) → Q (.str x tx) { s with heap := h', toks := tk }) :
    wpAny (model prog w) A (call (.ref 140) [.str x tx]) Q E s := by
  obtain ⟨hd0, d0, fr0, g0, u0⟩ := A
  cases hA
  refine wpAny_call ?_
  refine' enter_fn (binds := [(Str.ofString "addr", .str x tx)]) X T.nolimit ?k6 ?k7 hroom ?k9 ?kB ?_ ?c5 ?c2 ?c3 ?c4
  case k6 => k_is
  case k7 => k_is
  case k9 => exact BindsTo.of_eq rfl
  case kB => exact locs rfl
  case c5 => decide
  case c2 => exact rfl
  case c3 => exact rfl
  case c4 => exact rfl
  intro L' h₁ F₁
  have N₁ : News s.heap L' h₁ [] := News.nil
  try dsimp only
  k_steps
  · exact hQ _ _ F₁.keep
end

end Mine

/-! ## L8 -/
namespace Mine
open PySem PySem.W PyProof.Rows PySem.Calls
open Sem (wp)
set_option maxRecDepth 100000
set_option maxHeartbeats 8000000
section
variable {prog : Program} {w : World} {A : Around} {E : Value → Shared → Prop} {s : Shared} {p : Program} {loose : List Str} {mg mb : Str → Option Value}

theorem strip_callF {x : Str} {tx : Tok} {h₀ : Heap} {L : Addr} {m : Str → Option Value} {news : List (Addr × Obj)} {Q : Value → Shared → Prop} (F : Fr h₀ L s.heap m) (N : News h₀ L s.heap news) (X : (hd.heap_39 w.params).In h₀) (T : TopRead p loose mg mb h₀) (hA : A.handled = none) (hroom : A.depth < recursionLimit)
    (hocc : (Builtin.Str.occurrences x (Str.ofString "\"") 0 x.length 1).isEmpty = true)
    (hQ : ∀ h' tk, Fr h₀ L h' m → News h₀ L h' news → Q (.str x tx) { s with heap := h', toks := tk }) :
    wpAny (model prog w) A (call (.ref 140) [.str x tx]) Q E s :=
  strip_call (X.keeps F.keep) (T.keeps F.keep) hA hroom hocc fun h' tk hk => hQ h' tk ⟨F.ns.keeps hk, fun b o e => hk b o (F.keep b o e), F.above⟩ fun p hp => ⟨hk _ _ (N p hp).1, (N p hp).2⟩


theorem check_call {x : Str} {tx : Tok} {Q : Value → Shared → Prop} (X : (hd.heap_39 w.params).In s.heap) (T : TopRead p loose mg mb s.heap) (hA : A.handled = none) (hroom : A.depth + 1 < recursionLimit)
    (hocc : (Builtin.Str.occurrences x (Str.ofString "\"") 0 x.length 1).isEmpty = true)
    (hchars : ∀ (i c : Nat), x.cps[i]? = some c → c = 40 ∨ c = 41 ∨ c = 32) (hsafe : ∀ j, j ≤ x.cps.size → 0 ≤ balAt x j) (hlen : x.cps.size ≤ 100000)
    (hQ : ∀ h' tk, (∀ b o, s.heap.get? b = some o → h'.get? b = some o) → Q (.bool (balAt x x.cps.size == 0)) { s with heap := h', toks := tk, gens := s.gens.push .finished }) :
    wpAny (model prog w) A (call (.ref 147) [.str x tx]) Q E s := by
  obtain ⟨hd0, d0, fr0, g0, u0⟩ := A
  cases hA
  refine wpAny_call ?_
  refine' enter_fn (binds := [(Str.ofString "addr", .str x tx)]) X T.nolimit ?k6 ?k7 (Nat.lt_of_succ_lt hroom) ?k9 ?kB ?_ ?c5 ?c2 ?c3 ?c4
  case k6 => k_is
  case k7 => k_is
  case k9 => exact BindsTo.of_eq rfl
  case kB => exact locs rfl
  case c5 => decide
  case c2 => exact rfl
  case c3 => exact rfl
  case c4 => exact rfl
  intro L' h₁ F₁
  have N₁ : News s.heap L' h₁ [] := News.nil
  try dsimp only
  have hroom' : d0 + 1 < recursionLimit := hroom
  k_steps
  rename Fr _ _ _ _ => F1
  rename News _ _ _ _ => N1
  refine strip_callF F1 N1 X T rfl hroom' (by assumption) fun h' tk' F' N' => ?_
  clear F1 N1
  try dsimp only
  k_steps
  refine wpAny_For ?_
  k_steps
  rename Fr _ _ _ _ => FF
  rename News _ _ _ _ => NN
  have hfar := FF.above
  have hLt := FF.ns.lt
  refine gen_call (X.keeps FF.keep) (T.keeps FF.keep) hroom' (fun i c e => by rcases hchars i c e with h | h | h <;> rw [h] <;> decide) fun h₂ tk₂ gs₀ hk₂ hg₂ hgo₂ => ?_
  refine wpAny_pyIter_gen hg₂ ?_
  refine check_loop rfl hroom' X T (m := _) ⟨FF.ns.keeps hk₂, fun b o e => hk₂ b o (FF.keep b o e), FF.above⟩ (by show (if ("opens" : Str) = "opens" then _ else _) = _; rw [if_pos rfl]) hg₂ rfl (fun s'' e => hgo₂ _ _ rfl e) hLt (Nat.le_succ _) hchars hsafe hlen ?_
  intro h' tk' m' t' F' e'
  dsimp only
  refine wpAny_execs_cons ?_
  k_steps
  refine ld F' e' ?_
  k_steps
  exact hQ _ _ F'.keep
end

end Mine

/-! ## L9 -/
namespace Mine
open PySem PySem.W PyProof.Rows PySem.Calls
open Sem (wp)
set_option maxRecDepth 100000
set_option maxHeartbeats 8000000
section
variable {prog : Program} {w : World} {A : Around} {E : Value → Shared → Prop} {s : Shared} {p : Program} {loose : List Str} {mg mb : Str → Option Value}

/-- a method of the text, entered above a base that lacks what the method may change -/
theorem enter_raw {K : Frag} {R : Result → Shared → Prop} {h₀ : Heap} {news : List (Addr × Obj)} {name qual : Str} {params : Arguments} {body : List Stmt} {scope : Scope} {cl : List (Str × Addr)} {dV kV doc pm cdv ct oc : Value} {an od : Option Addr} {osl : Array (Option Value)} {f : Addr} {args : Args} {binds : List (Str × Value)}
    (sub : ∀ b o, h₀.get? b = some o → s.heap.get? b = some o) (sz : h₀.objs.size ≤ s.heap.objs.size) (N : ∀ q ∈ news, s.heap.get? q.1 = some q.2 ∧ h₀.get? q.1 = none) (X : K.In h₀) (T : TopRead p loose mg mb h₀)
    (ho : K.lookup f = some ⟨oc, od, .func (fnX name qual params body scope cl dV kV doc pm an cdv ct), osl⟩) (hcd : codeIn K cdv qual = true) (hroom : A.depth < recursionLimit)
    (hbind : BindsTo s (fnX name qual params body scope cl dV kV doc pm an cdv ct) args binds) (hloc : ∀ y ∈ binds, scope.names.lookup y.1 = some .local)
    (h : ∀ L' h₁, Fr h₀ L' h₁ (fun y => binds.reverse.lookup y) → News h₀ L' h₁ news →
      _root_.PySem.wpAt (model prog w) (A.deeper (envX qual scope L' f cdv cl)) (.func body (envX qual scope L' f cdv cl)) (execs body (envX qual scope L' f cdv cl))
        (fun fl s' => R (.ok (.ret (match fl with | .ret v => v | _ => .none))) s')
        (fun e s' => wpAny (model prog w) (A.deeper (envX qual scope L' f cdv cl)) (leaving (envX qual scope L' f cdv cl) e) (fun _ s'' => R (.error e) s'') (fun e' s'' => R (.error e') s'') s')
        { s with heap := h₁, toks := s.toks + binds.length })
    (hcell : ∀ x ∈ scope.names, x.2 ≠ .cell) (hco : scope.isCoroutine = false) (hgen : scope.isGenerator = false) (hk : scope.kind = .function) :
    codeAny (model prog w) A (.call (.ref f) args) R s := by
  refine ks_codeAny_call_defAt (fd := fnX name qual params body scope cl dV kV doc pm an cdv ct) (body := body) (binds := binds) hroom ((X.keeps sub) _ _ ho) rfl (T.nolimit.keeps sub) (codeRec_of (X.keeps sub) hcd) rfl hbind hcell hloc (fun h₁ hns hk₁ => ?_) hco hgen hk
  exact h s.heap.objs.size h₁ ⟨hns, fun b o e => hk₁ b o (sub b o e), sz⟩ (fun q hq => ⟨hk₁ _ _ (N q hq).1, Nat.ne_of_lt (Heap.lt_size (N q hq).1), (N q hq).2⟩)

theorem hide_K {K : Frag} {h : Heap} {x : Addr} (X : K.In h) (hx : K.lookup x = none) : K.In (hideAll h [x]) := fun a o e => hideAll_get _ (X a o e) fun hm => by
  obtain rfl := List.mem_singleton.mp hm
  rw [hx] at e
  cases e
theorem hide_Ns {h : Heap} {x a : Addr} {m : Str → Option Value} {o : Obj} (N : h.Ns a m) (hx : h.get? x = some o) (hd : ∀ es k, o.data ≠ .dict es k) : (hideAll h [x]).Ns a m := by
  refine N.at' fun o' e => hideAll_get _ e fun hm => ?_
  obtain rfl := List.mem_singleton.mp hm
  obtain ⟨o₂, es, ep, e₂, hd₂, -⟩ := N
  rw [hx] at e₂
  cases e₂
  exact hd _ _ hd₂
theorem hide_T {h : Heap} {x : Addr} {o : Obj} (T : TopRead p loose mg mb h) (hx : h.get? x = some o) (hd : ∀ es k, o.data ≠ .dict es k) : TopRead p loose mg mb (hideAll h [x]) :=
  ⟨hide_Ns T.g hx hd, hide_Ns T.b hx hd, let ⟨mc, a, b⟩ := T.nolimit; ⟨mc, hide_Ns a hx hd, b⟩, T.builtins, T.free⟩
theorem hide_sub {h : Heap} {x : Addr} : ∀ b o, (hideAll h [x]).get? b = some o → h.get? b = some o := fun _ _ e => of_hideAll _ e
theorem hide_keep {h h' : Heap} {x : Addr} (k : ∀ b o, (hideAll h [x]).get? b = some o → h'.get? b = some o) : ∀ b o, b ≠ x → h.get? b = some o → h'.get? b = some o := fun b o hb e =>
  k b o (hideAll_get _ e fun hm => hb (List.mem_singleton.mp hm))

abbrev accObj (dx : Addr) (its : Array Value) (n : Nat) : Obj := { cls := .ref 122, dict := some dx, data := .seq its n }

abbrev accDict (P : Params) (tk : Tok) (k : Nat) : Obj := { cls := .type "dict", data := .dict #[{ hash := PyData.keyHash P "_initial_size", key := .str "_initial_size" tk, val := .int 0 262 }] k }
theorem accInst {h : Heap} {x dx : Addr} {its : Array Value} {n : Nat} {od : Obj} (hx : h.get? x = some (accObj dx its n)) (hd : h.get? dx = some od) : InstAt h x (accObj dx its n) 122 (some od) := ⟨hx, rfl, rfl, hd⟩
theorem accIsList {M : Model} {h : Heap} {x dx : Addr} {its : Array Value} {n : Nat} {od : Obj} (X : (hd.heap_39 w.params).In h) (I : InstAt h x (accObj dx its n) 122 (some od)) : Looks M h (isInstance (.ref x) (.type "list")) true :=
  I.type.andThen (looks_mroIn X (by k_is))

/-- a method or slot of list, called on an object of a class over list -/
theorem call_sub {id n : String} {b : Builtin} {x : Addr} {rest : List Value} {Q : Value → Shared → Prop}
    (hk : builtinKind id = some .slot ∨ builtinKind id = some .method) (hs : splitId id = some ("list", n)) (hp : plainId id = true) (hb : entryFor table id = some b)
    (hi : Looks (model prog w) s.heap (isInstance (.ref x) (.type "list")) true) (ha : argsOk id ⟨.ref x :: rest, []⟩)
    (hc : wpAny (model prog w) A.in1 (b ⟨.ref x :: rest, []⟩) (fun fin s' => ∃ v, fin = .done (.ret v) ∧ Q v s') E s) :
    wpAny (model prog w) A (call (.builtin id) (.ref x :: rest)) Q E s := by
  refine wpAny_call (codeAny_call_builtin hp hb ?_)
  rcases hk with hk | hk
  · simp only [checkBuiltinCall, hk, hs]
    refine wpAny_bind (hi.here ?_)
    simp only [Bool.not_true, Bool.false_eq_true, if_false]
    cases hsig : Manifest.signature? id with
    | none => exact wpAny_pure (wpAny_mono hc (fun fin s' h' => by obtain ⟨v, rfl, hv⟩ := h'; exact hv) fun _ _ h' => h')
    | some sig =>
      simp only [argsOk, hsig] at ha
      have h2 : Bind.checkArgs id sig ⟨.ref x :: rest, []⟩ = pure () := ha
      dsimp only
      rw [h2]
      exact wpAny_pure (wpAny_mono hc (fun fin s' h' => by obtain ⟨v, rfl, hv⟩ := h'; exact hv) fun _ _ h' => h')
  · simp only [checkBuiltinCall, hk, hs]
    refine wpAny_bind (hi.here ?_)
    simp only [Bool.not_true, Bool.false_eq_true, if_false]
    cases hsig : Manifest.signature? id with
    | none => exact wpAny_pure (wpAny_mono hc (fun fin s' h' => by obtain ⟨v, rfl, hv⟩ := h'; exact hv) fun _ _ h' => h')
    | some sig =>
      simp only [argsOk, hsig] at ha
      have h2 : Bind.checkArgs id sig ⟨.ref x :: rest, []⟩ = pure () := ha
      dsimp only
      rw [h2]
      exact wpAny_pure (wpAny_mono hc (fun fin s' h' => by obtain ⟨v, rfl, hv⟩ := h'; exact hv) fun _ _ h' => h')

theorem acc_getMethod {x dx : Addr} {its : Array Value} {n : Nat} {od : Obj} {name : Str} {f : Value} {T : String} {pl : Sem Bool} {Q : Value × List Value → Shared → Prop}
    (X : (hd.heap_39 w.params).In s.heap) (I : InstAt s.heap x (accObj dx its n) 122 (some od)) (hl : lookIn name od = some none)
    (hf : findIn (hd.heap_39 w.params) (.ref 122) name = some (some f)) (hT : typeIn (hd.heap_39 w.params) f = some (.type T)) (hT' : (Value.type T != .type "function" && Value.type T != .type "method_descriptor" && Value.type T != .type "wrapper_descriptor") = false)
    (hQ : Q (f, [.ref x]) s) : wpAny (model prog w) A (getMethod (.ref x) name pl) Q E s := by
  have L0 := I.type (M := model prog w)
  have L1 := looks_findIn (M := model prog w) X hf
  have L2 := looks_typeIn (M := model prog w) X hT
  have G1 : findIn (hd.heap_39 w.params) (.ref 122) "__getattribute__" = some (some (.builtin "list.__getattribute__")) := by k_is
  have G2 : findIn (hd.heap_39 w.params) (.ref 122) "__getattr__" = some none := by k_is
  have G3 := looks_findIn (M := model prog w) X G1
  have G4 := looks_findIn (M := model prog w) X G2
  have D := nsLook_of hl
  obtain ⟨hx, -, -, hdx⟩ := I
  obtain ⟨hh, g, d, t, os⟩ := s
  have hdx' : hh.get? dx = some od := hdx
  have hcan : (Manifest.canonical "list.__getattribute__" != "object.__getattribute__") = false := by decide +kernel
  unfold getMethod specialOf
  refine wpAny_bind (wpAny_bind (L0.at (G3.at ?_)))
  dsimp only
  rw [hcan]
  simp only [Bool.false_eq_true, if_false]
  refine wpAny_bind (wpAny_bind (L0.at (G4.at ?_)))
  simp only [Option.isSome_none, Bool.false_eq_true, if_false]
  refine wpAny_bind (wpAny_bind (L0.at (L1.at ?_)))
  dsimp only
  refine wpAny_bind (L2.at ?_)
  rw [hT']
  simp only [Bool.false_eq_true, if_false]
  refine wpAny_bind (wpAny_loadPart hx ?_)
  dsimp only
  refine wpAny_bind (wpAny_bind (wpAny_loadPart hdx' ?_))
  rw [D]
  refine wpAny_pure ?_
  simp only [Option.isSome_none, Bool.false_eq_true, if_false]
  exact wpAny_bind (wpAny_rule (wpAny_pure hQ))

theorem acc_append {x dx : Addr} {its : Array Value} {n : Nat} {od : Obj} {v : Value} {Q : Value → Shared → Prop} (X : (hd.heap_39 w.params).In s.heap) (I : InstAt s.heap x (accObj dx its n) 122 (some od))
    (h : ∀ h', Heap.SameBut x s.heap h' → h'.get? x = some (accObj dx (its.push v) (n + 1)) → Q .none { s with heap := h' }) (hsz : its.size ≤ 1000) :
    wpAny (model prog w) A (call (.builtin "list.append") [.ref x, v]) Q E s := by
  refine call_sub (n := "append") (.inr (by decide +kernel)) (by decide +kernel) (by decide +kernel) entry_list_append (accIsList X I) (args_list_append _ _) ?_
  show wpAny _ _ (updateSeq x (·.push v) >>= fun _ => ret .none) _ _ s
  have ho := I.at_
  have e : Obj.mapSeq (·.push v) (accObj dx its n) = accObj dx (its.push v) (n + 1) := by simp [Obj.mapSeq]
  refine wpAny_bind ?_
  have hln : (1000 : Nat) ≤ sizeLine := by decide
  refine wpAny_updateSeq ho rfl (wpAny_pure ⟨.none, rfl, h _ (Heap.SameBut.update ..) ?_⟩) (by omega) (by rw [Array.size_push]; omega)
  rw [Heap.get?_update_self _ ho (by rw [e]; rfl), e]

theorem acc_getMethodF {x dx L : Addr} {its : Array Value} {n : Nat} {od : Obj} {name : Str} {f : Value} {T : String} {pl : Sem Bool} {Q : Value × List Value → Shared → Prop} {h₀ : Heap} {m : Str → Option Value} {news : List (Addr × Obj)}
    (F : Fr h₀ L s.heap m) (X : (hd.heap_39 w.params).In h₀) (N : News h₀ L s.heap news) (hm : (x, accObj dx its n) ∈ news) (hdx : h₀.get? dx = some od) (hl : lookIn name od = some none)
    (hf : findIn (hd.heap_39 w.params) (.ref 122) name = some (some f)) (hT : typeIn (hd.heap_39 w.params) f = some (.type T)) (hT' : (Value.type T != .type "function" && Value.type T != .type "method_descriptor" && Value.type T != .type "wrapper_descriptor") = false)
    (hQ : Q (f, [.ref x]) s) : wpAny (model prog w) A (getMethod (.ref x) name pl) Q E s :=
  acc_getMethod (X.keeps F.keep) (accInst (N _ hm).1 (F.keep _ _ hdx)) hl hf hT hT' hQ

local macro_rules | `(tactic| walk_at "getMethod ref") => `(tactic| (k_here; k_dflt (refine' acc_getMethodF (T := "method_descriptor") ?F ?X ?N ?m ?d ?l ?f ?T ?T2 ?_; (case F => k_asm); (case X => k_asm); (case N => k_asm); (case m => k_mem); (case d => assumption); (case l => rfl); (case f => k_is); (case T => k_is); (case T2 => decide))))

theorem push_call {x dx : Addr} {its : Array Value} {n : Nat} {f st : Str} {t1 t2 tk₀ : Tok} {k₀ : Nat} {Q : Value → Shared → Prop} (hx : s.heap.get? x = some (accObj dx its n)) (hdx : s.heap.get? dx = some (accDict w.params tk₀ k₀)) (hxK : (hd.heap_39 w.params).lookup x = none)
    (X : (hd.heap_39 w.params).In s.heap) (T : TopRead p loose mg mb s.heap) (hA : A.handled = none) (hroom : A.depth < recursionLimit) (hsz : its.size ≤ 1000)
    (hQ : ∀ h' tk D, (∀ b o, b ≠ x → s.heap.get? b = some o → h'.get? b = some o) → h'.get? x = some (accObj dx (its.push (.ref D)) (n + 1)) → s.heap.get? D = none → h'.get? D = some { cls := .type "tuple", data := .seq #[.str f t1, .str st t2] } → Q .none { s with heap := h', toks := tk }) :
    wpAny (model prog w) A (call (.ref 66) [.ref x, .str f t1, .str st t2]) Q E s := by
  obtain ⟨hd0, d0, fr0, g0, u0⟩ := A
  cases hA
  refine wpAny_call ?_
  have hxd : x ≠ dx := by rintro rfl; rw [hx] at hdx; cases hdx
  refine' enter_raw (h₀ := hideAll s.heap [x]) (news := [(x, accObj dx its n)]) (binds := [(Str.ofString "self", .ref x), (Str.ofString "fws", .str f t1), (Str.ofString "string", .str st t2)]) hide_sub (Nat.le_of_eq (hideAll_size _ _)) ?kN (hide_K X hxK) (hide_T T hx fun _ _ => by simp) ?k6 ?k7 hroom ?k9 ?kB ?_ ?c5 ?c2 ?c3 ?c4
  case kN => intro q hq; obtain rfl := List.mem_singleton.mp hq; exact ⟨hx, hideAll_none _ (.head _)⟩
  case k6 => k_is
  case k7 => k_is
  case k9 => exact BindsTo.of_eq rfl
  case kB => exact locs rfl
  case c5 => decide
  case c2 => exact rfl
  case c3 => exact rfl
  case c4 => exact rfl
  intro L' h₁ F₁ N₁
  have X₁ := hide_K X hxK
  have T₁ := hide_T T hx fun _ _ => by simp
  have hd₁ : (hideAll s.heap [x]).get? dx = some (accDict w.params tk₀ k₀) := hideAll_get _ hdx fun hm => hxd (List.mem_singleton.mp hm).symm
  try dsimp only
  refine ks_wpAt_execs_cons ?_
  refine wpAt_of_wpAny ?_
  k_steps
  rename Fr _ _ _ _ => FF
  rename News _ _ _ _ => NN
  have hxN := NN _ (.tail _ (.head _))
  have hDN := NN _ (.head _)
  refine acc_append (od := accDict w.params tk₀ k₀) (X₁.keeps FF.keep) (accInst hxN.1 (FF.keep _ _ hd₁)) (fun h' hs hx' => ?_) hsz
  refine wpAt_of_wpAny (wpAny_execs_nil ?_)
  have hDx : (_ : Addr) ≠ x := Nat.ne_of_gt (show x < _ by assumption)
  have hk : ∀ b o, b ≠ x → s.heap.get? b = some o → h'.get? b = some o := fun b o hb e => (hs.2 b hb).trans (hide_keep FF.keep b o hb e)
  refine hQ h' _ _ hk hx' ?_ ((hs.2 _ hDx).trans hDN.1)
  cases e : s.heap.get? _ with
  | none => rfl
  | some o =>
    have := hDN.2.2
    rw [hideAll_get _ e fun hm => hDx (List.mem_singleton.mp hm)] at this
    cases this
end

end Mine

/-! ## G1 -/
namespace Mine
open PySem PySem.W PyProof.Rows PySem.Calls
open Sem (wp)
open Builtin Builtin.Str Builtin.Int
set_option maxRecDepth 100000
set_option maxHeartbeats 8000000
section
variable {prog : Program} {w : World} {A : Around} {E : Value → Shared → Prop} {s : Shared} {p : Program} {loose : List Str} {mg mb : Str → Option Value} {bm : Addr} {ob : Obj}

theorem g_local {env : Env} {m : Str → Option Value} {x : Str} {v : Value} {pos : Pos} {Q : Value → Shared → Prop} (hn : s.heap.Ns env.locals m) (hv : m x = some v) (hk : env.scope.kind = .function) (hx : env.kindOf x = some .local)
    (hd : (x == ("__debug__" : Str)) = false) (h : Q v s) : wpAny (model prog w) A (eval (.Name x pos) env) Q E s := wpAny_Name (wpAny_loadName_local hk hx hn hv h) hd
theorem g_boot {env : Env} {x : Str} {v : Value} {pos : Pos} {Q : Value → Shared → Prop} (X : (hd.heap_39 w.params).In s.heap) (T : TopRead p loose mg mb s.heap) (hg : env.globals = mainGlobals) (hb : env.builtins = builtinsNs)
    (hmiss : nsIn (hd.heap_39 w.params) mainGlobals x = some none) (hboot : bootBuiltins x = some v) (hne : x ≠ "__name__") (hk : env.scope.kind = .function) (hx : env.kindOf x = some .globalImplicit)
    (hd : (x == ("__debug__" : Str)) = false) (h : Q v s) : wpAny (model prog w) A (eval (.Name x pos) env) Q E s :=
  wpAny_Name (ks_loadName_global hk hx (loadGlobal_builtin (hg ▸ T.g) (mg_none_of X T.g hmiss) (hb ▸ T.b) ((T.builtins _ hne).trans hboot) h)) hd
theorem g_glob {env : Env} {x : Str} {v : Value} {pos : Pos} {Q : Value → Shared → Prop} (X : (hd.heap_39 w.params).In s.heap) (T : TopRead p loose mg mb s.heap) (hg : env.globals = mainGlobals)
    (hv : nsIn (hd.heap_39 w.params) mainGlobals x = some (some v)) (hk : env.scope.kind = .function) (hx : env.kindOf x = some .globalImplicit)
    (hd : (x == ("__debug__" : Str)) = false) (h : Q v s) : wpAny (model prog w) A (eval (.Name x pos) env) Q E s :=
  wpAny_Name (ks_loadName_global hk hx (loadGlobal_global (hg ▸ T.g) (mg_of X T.g hv) h)) hd

theorem elt_len {env : Env} {m : Str → Option Value} {f g : Str} {t u : Tok} {p1 p2 p3 p4 p5 p6 p7 : Pos} {Q : Value → Shared → Prop} (X : (hd.heap_39 w.params).In s.heap) (T : TopRead p loose mg mb s.heap) (hA : A.handled = none) (hg : env.globals = mainGlobals) (hb : env.builtins = builtinsNs)
    (hn : s.heap.Ns env.locals m) (hf : m "fws" = some (.str f t)) (hp : m "part" = some (.str g u)) (hk : env.scope.kind = .function) (h1 : env.kindOf "fws" = some .local) (h2 : env.kindOf "part" = some .local) (h3 : env.kindOf "len" = some .globalImplicit)
    (hf1 : f.length ≤ 100000) (hg1 : g.length ≤ 100000)
    (h : ∀ t' tk, Q (.int (f.length + g.length) t') { s with toks := tk }) :
    wpAny (model prog w) A (eval (.BinOp (.Call (.Name "len" p1) [.Name "fws" p2] [] p3) .Add (.Call (.Name "len" p4) [.Name "part" p5] [] p6) p7) env) Q E s := by
  obtain ⟨hd0, d0, fr0, g0, u0⟩ := A
  cases hA
  refine wpAny_BinOp (wpAny_Call_NameR ?_)
  have b1 : bootBuiltins "len" = some (.builtin "len") := by boot_by_name
  have b2 : nsIn (hd.heap_39 w.params) mainGlobals "len" = some none := by k_is
  have b3 : ("len" : Str) ≠ "__name__" := by decide +kernel
  have b4 : (("len" : Str) == ("__debug__" : Str)) = false := by decide +kernel
  have b5 : (("fws" : Str) == ("__debug__" : Str)) = false := by decide +kernel
  have b6 : (("part" : Str) == ("__debug__" : Str)) = false := by decide +kernel
  refine g_boot X T hg hb b2 b1 b3 hk h3 b4 ?_
  refine PyProof.Rows.callWith_builtin1 ?_
  refine spliced_more (g_local hn hf hk h1 b5 (spliced_none ?_))
  refine P.len_str (by have : (2:Int)^63 = 9223372036854775808 := by decide
                       omega) ?_
  refine wpAny_Call_NameR ?_
  refine g_boot X T hg hb b2 b1 b3 hk h3 b4 ?_
  refine PyProof.Rows.callWith_builtin1 ?_
  refine spliced_more (g_local hn hp hk h2 b6 (spliced_none ?_))
  refine P.len_str (by have : (2:Int)^63 = 9223372036854775808 := by decide
                       omega) ?_
  exact wpAny_add_int (h _ _)

theorem elt_join {env : Env} {m : Str → Option Value} {f g : Str} {t u : Tok} {p1 p2 p3 p4 p5 p6 : Pos} {k : Nat} {Q : Value → Shared → Prop} (X : (hd.heap_39 w.params).In s.heap) (T : TopRead p loose mg mb s.heap) (hg : env.globals = mainGlobals)
    (hn : s.heap.Ns env.locals m) (hf : m "fws" = some (.str f t)) (hp : m "part" = some (.str g u)) (hk : env.scope.kind = .function) (h1 : env.kindOf "fws" = some .local) (h2 : env.kindOf "part" = some .local) (h3 : env.kindOf "EMPTYSTRING" = some .globalImplicit)
    (hline : (p2.endLine == p6.line) = true) (hf1 : f.length ≤ 100000) (hg1 : g.length ≤ 100000)
    (h : ∀ t' h' tk, (∀ b o, s.heap.get? b = some o → h'.get? b = some o) → Q (.str (Txt.join (Str.ofString "") [f, g]) t') { s with heap := h', toks := tk }) :
    wpAny (model prog w) A (eval (.Call (.Attribute (.Name "EMPTYSTRING" p1) "join" p2) [.Tuple [.Name "fws" p3, .Name "part" p4] k p5] [] p6) env) Q E s := by
  have b4 : (("EMPTYSTRING" : Str) == ("__debug__" : Str)) = false := by decide +kernel
  have b5 : (("fws" : Str) == ("__debug__" : Str)) = false := by decide +kernel
  have b6 : (("part" : Str) == ("__debug__" : Str)) = false := by decide +kernel
  have b7 : nsIn (hd.heap_39 w.params) mainGlobals "EMPTYSTRING" = some (some (.str (Str.ofString "") 248)) := by k_is
  refine Call_method1 rfl rfl hline ?_
  refine g_glob X T hg b7 hk h3 b4 ?_
  refine ⟨"str", _, F.plainAttrs_str, F.slot_str_join, F.type_str_join, typeIs_str _ _ _, (fun _ e => nomatch e), method1_meets F.slot_str_join F.entry_str_join ?_⟩
  refine wpAny_Tuple (spliced_more (g_local hn hf hk h1 b5 (spliced_more (g_local hn hp hk h2 b6 (spliced_none ⟨by size_fits, ?_⟩)))))
  have hok : tooLong ((([(f, t), (g, u)] : List (Str × Tok)).map (·.1)).toArray.foldl (· + ·.length + (Str.ofString "").length) 0) = false := by
    have : (Str.ofString "").length = 0 := by decide +kernel
    simp only [List.map_cons, List.map_nil, this]
    show tooLong (0 + f.length + 0 + g.length + 0) = false
    exact short24 (by omega)
  exact ⟨typeIs_str _ _ _, F.args_str_join_2 _ _, _, meets_str_join_tuple (Str.ofString "") 248 s.heap.objs.size [(f, t), (g, u)] hok, ⟨_, 0, Heap.get?_push_size _ rfl, rfl, rfl⟩,
    post_join _ ⟨joinFit_length hok, fun t' k' => h t' _ k' fun b o e => Heap.get?_push_of_some _ e⟩⟩
end

end Mine

/-! ## G2 -/
namespace Mine
open PySem PySem.W PyProof.Rows PySem.Calls
open Sem (wp)
open Builtin Builtin.Str Builtin.Int
set_option maxRecDepth 100000
set_option maxHeartbeats 8000000
section
variable {prog : Program} {w : World} {A : Around} {E : Value → Shared → Prop} {s : Shared}

def SeqAt (h : Heap) (a : Addr) (its : Array Value) : Prop := ∃ o n, h.get? a = some o ∧ o.data = .seq its n

theorem seq_pyIter {x dx : Addr} {its : Array Value} {n : Nat} {od : Obj} {Q : Value → Shared → Prop} (X : (hd.heap_39 w.params).In s.heap) (I : InstAt s.heap x (accObj dx its n) 122 (some od))
    (hQ : Q (.ref s.heap.objs.size) { s with heap := s.heap.push { cls := .type "list_iterator", data := .fields #[.ref x, .int 0 0] } }) :
    wpAny (model prog w) A (pyIter (.ref x)) Q E s := by
  have L0 := I.type (M := model prog w)
  have L1 := looks_findIn (M := model prog w) (t := .ref 122) (name := "__iter__") (r := some (.builtin "list.__iter__")) X (by k_is)
  have hl := accIsList (M := model prog w) X I
  have hc : wpAny (model prog w) A (call (.builtin "list.__iter__") [.ref x]) (fun it s' => wpAny (model prog w) A (specialOf it "__next__" >>= fun o => match o with
      | none => do rule "iter.non-iterator"; raiseError "TypeError" s!"iter() returned non-iterator of type '{← typeNameOf it}'"
      | some _ => pure it) Q E s') E s := by
    refine call_sub (n := "__iter__") (.inl (by decide +kernel)) (by decide +kernel) (by decide +kernel) entry_list_iter hl (args_list_iter _) ?_
    show wpAny _ _ (do ret (← newFields "list_iterator" [.ref x, rawInt 0])) _ _ s
    refine wpAny_bind (wpAny_newObj_type (wpAny_pure ⟨_, rfl, ?_⟩))
    refine wpAny_bind (wpAny_specialOf (T := "list_iterator") ⟨_, Heap.get?_push_size _ rfl, rfl⟩ slot_listiter_next.lookup ?_)
    exact wpAny_pure hQ
  obtain ⟨hh, g, d, t, os⟩ := s
  unfold pyIter specialOf
  refine wpAny_bind (wpAny_bind (L0.at (L1.at ?_)))
  dsimp only
  simp only [callSpecialIfBoundUnlessNone?, bindSpecialIfBound?, specialOf]
  refine wpAny_bind (wpAny_holding (wpAny_bind (wpAny_bind (wpAny_bind (L0.at (L1.at ?_))))))
  simp only [slot_list_iter.bind]
  refine wpAny_bind (wpAny_askSetting (wpAny_ite ?_))
  have nb : (Value.builtin "list.__iter__" == Value.none) = false := rfl
  split
  · refine wpAny_bind (wpAny_pure (wpAny_pure ?_))
    simp only [nb, Bool.false_eq_true, if_false]
    exact wpAny_bind (wpAny_mono hc (fun v s' h' => wpAny_pure h') fun _ _ h' => h')
  · refine wpAny_tryCatch (wpAny_bind (wpAny_pure (wpAny_pure ?_)))
    simp only [nb, Bool.false_eq_true, if_false]
    exact wpAny_bind (wpAny_mono hc (fun v s' h' => wpAny_pure h') fun _ _ h' => h')

theorem seq_next {it l : Addr} {i : Nat} {its : Array Value} {x : Value} {Q : Option Value → Shared → Prop} (hit : s.heap.IsListIter it l i) (hl : SeqAt s.heap l its) (hx : its[i]? = some x)
    (hQ : ∀ h', h'.IsListIter it l (i + 1) → Heap.SameBut it s.heap h' → Q (some x) { s with heap := h' }) :
    wpAny (model prog w) A (pyNext (.ref it)) Q E s := by
  obtain ⟨o, ho, hc, hd⟩ := id hit
  obtain ⟨ol, nl, hol, hdl⟩ := hl
  unfold pyNext
  refine wpAny_bind (wpAny_attempt (wpAny_callSpecial?_slot (name := Str.ofString "__next__") hit.typeIs slot_listiter_next (wpAny_call_entry slot_listiter_next hit.typeIs entry_listiter_next ?_ (args_listiter_next _))))
  refine wpAny_bind (m := field (.ref it) 0) (wpAny_field ho hd (x := .ref l) rfl ?_)
  show wpAny _ _ (if (Value.ref l == Value.none) = true then _ else _) _ _ s
  rw [if_neg (show ¬ ((Value.ref l == Value.none) = true) from Bool.false_ne_true)]
  refine wpAny_bind (m := field (.ref it) 1) (wpAny_field ho hd (x := .int i 0) rfl ?_)
  refine wpAny_bind (m := seqItems? (.ref l)) (wpAny_seqItems hol hdl ?_)
  simp only [Int.toNat_natCast, hx]
  refine wpAny_bind (wpAny_setField ho hd (by simp) (wpAny_pure ⟨x, rfl, wpAny_pure (hQ _ ?_ (Heap.SameBut.update ..))⟩))
  exact ⟨_, Heap.get?_update_self _ ho (Obj.isFreed_of_fields (Obj.data_mapFields hd _)), (Obj.cls_mapFields ..).trans hc, by rw [Obj.data_mapFields hd]; simp [rawInt]⟩

theorem seq_end {it l : Addr} {i : Nat} {its : Array Value} {Q : Option Value → Shared → Prop} (hh : A.handled = none) (hit : s.heap.IsListIter it l i) (hl : SeqAt s.heap l its) (hx : its[i]? = none)
    (hQ : ∀ h', Heap.ExtBut it s.heap h' → Q none { s with heap := h' }) : wpAny (model prog w) A (pyNext (.ref it)) Q E s := by
  obtain ⟨o, ho, hc, hd⟩ := id hit
  obtain ⟨ol, nl, hol, hdl⟩ := hl
  unfold pyNext
  refine wpAny_bind (wpAny_attempt (wpAny_callSpecial?_slot (name := Str.ofString "__next__") hit.typeIs slot_listiter_next (wpAny_call_entry slot_listiter_next hit.typeIs entry_listiter_next ?_ (args_listiter_next _))))
  refine wpAny_bind (m := field (.ref it) 0) (wpAny_field ho hd (x := .ref l) rfl ?_)
  show wpAny _ _ (if (Value.ref l == Value.none) = true then _ else _) _ _ s
  rw [if_neg (show ¬ ((Value.ref l == Value.none) = true) from Bool.false_ne_true)]
  refine wpAny_bind (m := field (.ref it) 1) (wpAny_field ho hd (x := .int i 0) rfl ?_)
  refine wpAny_bind (m := seqItems? (.ref l)) (wpAny_seqItems hol hdl ?_)
  simp only [Int.toNat_natCast, hx]
  refine wpAny_bind (wpAny_rule (wpAny_bind (wpAny_setField ho hd (by simp) ?_)))
  show wpAny _ _ (newExc (.type "StopIteration") [] >>= _) _ _ _
  refine wpAny_bind ?_
  simp only [newExc, newTuple]
  refine wpAny_bind (wpAny_newObj_type ?_ (by size_fits))
  refine wpAny_bind (m := firstArgMember _ _) (wpAny_of_eq (a := Value.none) (by first | rfl | (simp only [firstArgMember]; rfl)) ?_)
  refine wpAny_newObj_type ?_ (by size_fits)
  simp only [raiseNew]
  refine wpAny_bind (wpAny_handled ?_)
  rw [show A.in1.handled = none from hh]
  refine wpAny_bind (wpAny_pure (wpAny_throw ?_))
  refine wpAny_bind (wpAny_isInstance (T := "StopIteration") (b := true) ⟨_, Heap.get?_push_size _ rfl, rfl⟩ isSubtype_stop ?_)
  exact wpAny_pure (hQ _ (((Heap.SameBut.update ..).extBut.push _).push _))

theorem SeqAt.at {h h' : Heap} {a : Addr} {its : Array Value} (x : SeqAt h a its) (k : ∀ o, h.get? a = some o → h'.get? a = some o) : SeqAt h' a its := let ⟨o, n, e, d⟩ := x; ⟨o, n, k o e, d⟩

theorem walksSeq (hh : A.handled = none) (I ax : Addr) (hne : ax ≠ I) (items : Array Value) (Ts : Nat → Addr) (vals : Nat → Array Value)
    (hit : ∀ j, j < items.size → items[j]? = some (.ref (Ts j))) (hTI : ∀ j, j < items.size → Ts j ≠ I) :
    WalksU prog w A I (I :: ax :: (List.range items.size).map Ts) [I] items.size (fun j v => j < items.size ∧ v = vals j)
      (fun j h => h.IsListIter I ax j ∧ SeqAt h ax items ∧ ∀ k, k < items.size → h.IsTuple (Ts k) (vals k))
      (fun j T h => (j < items.size ∧ T = Ts j) ∧ h.IsListIter I ax (j + 1) ∧ SeqAt h ax items ∧ ∀ k, k < items.size → h.IsTuple (Ts k) (vals k)) where
  sub := fun b hb => by simp at hb; simp [hb]
  frame := fun _ _ _ st hk => ⟨st.1.at fun o e => hk I (by simp) o e, st.2.1.at fun o e => hk ax (by simp) o e,
    fun k hk' => (st.2.2 k hk').at fun o e => hk (Ts k) (List.mem_cons_of_mem _ (List.mem_cons_of_mem _ (List.mem_map.mpr ⟨k, List.mem_range.mpr hk', rfl⟩))) o e⟩
  item := fun i s Q E hi st hQ => by
    refine seq_next st.1 st.2.1 (x := .ref (Ts i)) (hit i hi) fun h' hit' hs' => ?_
    have tup : ∀ k, k < items.size → h'.IsTuple (Ts k) (vals k) := fun k hk' => (st.2.2 k hk').extBut hs'.extBut (hTI k hk')
    exact hQ (Ts i) (vals i) h' s.toks ⟨hi, rfl⟩ (tup i hi) ⟨⟨hi, rfl⟩, hit', st.2.1.at fun o e => hs'.extBut _ o hne e, tup⟩ fun b o hb e => hs'.extBut b o (fun h => hb (by simp [h])) e
  go := fun _ _ _ _ _ s Q _ hm hQ => wpAny_letOwnedTupleGo_listiter hm.2.1 (hQ s.heap hm.2 fun _ _ _ e => e)
  apart := fun j T _ hm hmem => by
    rcases List.mem_cons.mp hmem with e | e
    · exact hTI j hm.1.1 (hm.1.2 ▸ e)
    · cases e
  done := fun s Q E st hQ => seq_end hh st.1 st.2.1 (by simp) fun h' he' => hQ h' s.toks fun b o hb e => he' b o (fun h => hb (by simp [h])) e
  self := fun _ _ _ _ st hQ => wpAny_pyIter_listiter st.1 hQ
end

end Mine

/-! ## G3 -/
namespace Mine
open PySem PySem.W PyProof.Rows PySem.Calls
open Sem (wp)
open Builtin Builtin.Str Builtin.Int
set_option maxRecDepth 100000
set_option maxHeartbeats 8000000
section
variable {prog : Program} {w : World} {A : Around} {E : Value → Shared → Prop} {s : Shared}

theorem ga_bind (self : Value) : bindSpecial (.builtin "list.__getattribute__") self = pure (.builtin "list.__getattribute__", [self]) := by
  exact (Slot.of (T := "list") (name := "__getattribute__") (owner := "list") (n := "__getattribute__") (by rw [typeLookup_type, builtinLookup_eq_fast]; kernel_rfl) (by decide +kernel) (by decide +kernel) (by decide +kernel)
    (.inl (by decide +kernel)) (by rw [isSubtype_type]; kernel_rfl)).bind self

theorem acc_getAttr {x dx : Addr} {its : Array Value} {n : Nat} {tk₀ : Tok} {k₀ : Nat} {ex : Bool} {Q : Value → Shared → Prop} (X : (hd.heap_39 w.params).In s.heap) (I : InstAt s.heap x (accObj dx its n) 122 (some (accDict w.params tk₀ k₀)))
    (hQ : Q (.int 0 262) { s with toks := s.toks + 1 }) : wpAny (model prog w) A (getAttr (.ref x) "_initial_size" ex) Q E s := by
  have L0 := I.type (M := model prog w)
  have G1 : findIn (hd.heap_39 w.params) (.ref 122) "__getattribute__" = some (some (.builtin "list.__getattribute__")) := by k_is
  have G2 : findIn (hd.heap_39 w.params) (.ref 122) "__getattr__" = some none := by k_is
  have G3 := looks_findIn (M := model prog w) X G1
  have G4 := looks_findIn (M := model prog w) X G2
  have hf : findObj (hd.heap_39 w.params) 122 (some (accDict w.params tk₀ k₀)) "_initial_size" = some (.value (.int 0 262)) := by kernel_rfl
  have L1 := looks_find (M := model prog w) X I hf
  have hl := accIsList (M := model prog w) X I
  obtain ⟨hh, g, d, t, os⟩ := s
  unfold getAttr getAttrBy
  refine wpAny_bind (wpAny_mkText (wpAny_holding (wpAny_bind (L0.at (wpAny_bind (G3.at ?_))))))
  show wpAny _ _ (getAttrByItsOwn (.ref x) (.str "_initial_size" t) (.ref 122) (.builtin "list.__getattribute__") true ex) _ _ _
  unfold getAttrByItsOwn hookBefore callGetattribute boundAndCalled
  refine wpAny_bind (m := (if onTheHeap (.ref 122) = true then typeLookup (.ref 122) "__getattr__" else pure none)) (G4.at ?_)
  refine wpAny_bind (wpAny_attempt (wpAny_holding ?_))
  have hcond : (ex && onTheHeap (.builtin "list.__getattribute__")) = false := by cases ex <;> rfl
  rw [hcond]
  simp only [Bool.false_eq_true, if_false, ga_bind]
  refine wpAny_bind (wpAny_pure ?_)
  refine call_sub (n := "__getattribute__") (.inl (by decide +kernel)) (by decide +kernel) (by decide +kernel) F.entry_list_ga (s := ⟨hh, g, d, t + 1, os⟩) hl (by unfold argsOk; kernel_rfl) ?_
  refine wpAny_bind (wpAny_pure ?_)
  refine wpAny_bind (wpAny_pure (wpAny_bind (L0.at (wpAny_bind (L1.at ?_)))))
  exact wpAny_pure ⟨_, rfl, wpAny_pure hQ⟩

theorem sum_args (a b : Value) : argsOk "sum" ⟨[a, b], []⟩ := by unfold argsOk; kernel_rfl
theorem sum_start {x : Value} {t0 : Tok} {Q : Value → Shared → Prop}
    (h : wpAny (model prog w) A.in1 (pyIter x) (fun it s₂ => ∃ I fp wr G n P St val, it = .ref I ∧ WalksS prog w A.in1 I fp wr G n P St ∧ St 0 s₂ ∧ (∀ b ∈ fp, b < s₂.heap.objs.size) ∧
      (∀ i v, P i v → ∃ t, v = .int (val i) t) ∧
      ∀ s' t', Moved wr G s₂ s' → Q (.int (preSum val n) t') s') E s) :
    wpAny (model prog w) A (call (.builtin "sum") [x, .int 0 t0]) Q E s := by
  refine call_function_tree F.kind_sum F.plain_sum F.entry_sum (sum_args _ _) ?_
  unfold Builtin.«sum»
  simp only [List.length_cons, List.length_nil]
  rw [if_neg (by decide)]
  refine wpAny_bind (wpAny_of_eq (show Builtin.Builtins.bindParams "sum" ["start"] 0 { pos := [.int 0 t0] } = pure [some (.int 0 t0)] from rfl) ?_)
  refine wpAny_bind (wpAny_mono h (fun it s₂ h₂ => ?_) fun _ _ e => e)
  obtain ⟨I, fp, wr, G, n, P, St, val, rfl, W, hst, hfp, hval, hQ⟩ := h₂
  show wpAny _ _ (do
    let (start, stage) ← (do rule "sum.start-copied"; pure (← mkInt 0, 0) : Sem (Value × Int))
    for (ty, what, hint) in [("str", "strings", "''"), ("bytes", "bytes", "b''"), ("bytearray", "bytearray", "b''")] do
      if ← isInstance start (.type ty) then
        rule "sum.start-refused"; raiseError "TypeError" s!"sum() can't sum {what} [use {hint}.join(seq) instead]"
    again (.builtin "sum.loop" ⟨[.ref I, ← newList [start], rawInt stage, rawInt 0], []⟩)) _ _ _
  refine wpAny_bind (wpAny_bind (wpAny_rule (wpAny_bind (wpAny_mkInt (wpAny_pure ?_)))))
  simp only [List.forIn_cons, List.forIn_nil]
  refine wpAny_bind (wpAny_bind (wpAny_bind (wpAny_isInstance (T := "int") (b := false) (typeIs_int _ _ _) PySem.sub_int_str ?_)))
  simp only [Bool.false_eq_true, if_false]
  refine wpAny_pure (wpAny_bind (wpAny_bind (wpAny_isInstance (T := "int") (b := false) (typeIs_int _ _ _) PySem.sub_int_bytes ?_)))
  simp only [Bool.false_eq_true, if_false]
  refine wpAny_pure (wpAny_bind (wpAny_bind (wpAny_isInstance (T := "int") (b := false) (typeIs_int _ _ _) PySem.sub_int_bytearray ?_)))
  simp only [Bool.false_eq_true, if_false]
  refine wpAny_pure (wpAny_pure ?_)
  refine wpAny_bind (wpAny_newObj_type ?_)
  have hSf : s₂.heap.objs.size ∉ fp := fun hm => Nat.lt_irrefl _ (hfp _ hm)
  refine wpAny_pure ⟨plainId_quiet F.plain_sum_loop _, codeAny_sum_loopAnyS W val hval s₂.heap.objs.size hSf n 0 _ s₂.toks 0 0 (.inl rfl) rfl (Nat.zero_le _)
    (W.frame 0 s₂ _ _ hst (Nat.le_succ _) fun b _ o e => Heap.get?_push_of_some _ e) (Heap.get?_push_size _ rfl) fun s' t' hm => ?_⟩
  exact hQ s' t' (hm.drop_new (Nat.le_succ _))

theorem genCode {env : Env} {c P : Addr} {ps : Array Value} {pos : Pos} {qn : Str} {scope : Scope} {Q : Value → Shared → Prop} (hc : env.code = .ref c) (hok : s.heap.IsCode c P ps) (ht : s.heap.TableAt c P ps)
    (hQ : ∀ code h' tk more, Heap.ExtBut P s.heap h' → s.heap.objs.size ≤ h'.objs.size → h'.IsCode c P (ps ++ more) → h'.TableAt c P (ps ++ more) → Q code { s with heap := h', toks := tk }) :
    wpAny (model prog w) A (genexprCode env pos qn scope) Q E s := by
  cases hf : codeAmong pos ps.toList with
  | some c' => exact wpAny_genexprCode_hit hc hok hf (hQ c' s.heap s.toks #[] (fun _ _ _ e => e) (Nat.le_refl _) (by rwa [Array.append_empty]) (by rwa [Array.append_empty]))
  | none => exact wpAny_genexprCodeX hc hok ht hf fun c' h' tk hx hge hlt h1 _ h2 _ => hQ _ h' tk _ hx (Nat.le_trans hge (Nat.le_of_lt hlt)) h1 h2
end

end Mine

/-! ## L10 -/
namespace Mine
open PySem PySem.W PyProof.Rows PySem.Calls
open Sem (wp)
open Builtin Builtin.Str Builtin.Int
set_option maxRecDepth 100000
set_option maxHeartbeats 8000000
section
variable {prog : Program} {w : World} {A : Around} {E : Value → Shared → Prop} {s : Shared} {p : Program} {loose : List Str} {mg mb : Str → Option Value} {bm : Addr} {ob : Obj}

/-- the pairs that an accumulator holds -/
def Pairs2 (h : Heap) (its : Array Value) (ps : List (Str × Str)) : Prop :=
  its.size = ps.length ∧ ∀ (i : Nat) (q : Str × Str), ps[i]? = some q → ∃ (T : Addr) (t u : Tok), its[i]? = some (.ref T) ∧ h.IsTuple T #[.str q.1 t, .str q.2 u]

theorem Pairs2.keeps {h h' : Heap} {its : Array Value} {ps : List (Str × Str)} (x : Pairs2 h its ps) (k : ∀ T o, h.get? T = some o → (∃ n, o.data = .seq its n) ∨ o.cls = .type "tuple" → h'.get? T = some o) : Pairs2 h' its ps :=
  ⟨x.1, fun i q e => let ⟨T, t, u, a, o, b, c, r⟩ := x.2 i q e; ⟨T, t, u, a, o, k T o b (.inr c), c, r⟩⟩

/-- the tuples by their number, for the walk -/
theorem Pairs2.walk {h : Heap} {its : Array Value} {ps : List (Str × Str)} (x : Pairs2 h its ps) : ∃ (Ts : Nat → Addr) (vals : Nat → Array Value),
    (∀ j, j < its.size → its[j]? = some (.ref (Ts j))) ∧ (∀ k, k < its.size → h.IsTuple (Ts k) (vals k)) ∧ (∀ j q, ps[j]? = some q → ∃ t u, vals j = #[.str q.1 t, .str q.2 u]) := by
  have key : ∀ j : Nat, ∃ y : Addr × Array Value, j < its.size → its[j]? = some (.ref y.1) ∧ h.IsTuple y.1 y.2 ∧ ∀ q, ps[j]? = some q → ∃ t u, y.2 = #[.str q.1 t, .str q.2 u] := by
    intro j
    by_cases hj : j < its.size
    · obtain ⟨q, hq⟩ : ∃ q, ps[j]? = some q := ⟨_, List.getElem?_eq_getElem (by rw [← x.1]; exact hj)⟩
      obtain ⟨T, t, u, a, b⟩ := x.2 j q hq
      exact ⟨(T, #[.str q.1 t, .str q.2 u]), fun _ => ⟨a, b, fun q' e => by rw [hq] at e; cases e; exact ⟨t, u, rfl⟩⟩⟩
    · exact ⟨(0, #[]), fun h => absurd h hj⟩
  obtain ⟨f, hf⟩ := Classical.axiomOfChoice key
  refine ⟨fun j => (f j).1, fun j => (f j).2, fun j hj => (hf j hj).1, fun k hk => (hf k hk).2.1, fun j q e => (hf j ?_).2.2 q e⟩
  rw [x.1]
  exact (List.getElem?_eq_some_iff.mp e).1

def lenOf (ps : List (Str × Str)) (i : Nat) : Int := match ps[i]? with | some q => (q.1.length : Int) + q.2.length | none => 0

theorem isCode_at {h h' : Heap} {c P : Addr} {ps : Array Value} (x : h.IsCode c P ps) (kc : ∀ o, h.get? c = some o → h'.get? c = some o) (kP : ∀ o, h.get? P = some o → h'.get? P = some o) : h'.IsCode c P ps :=
  let ⟨o, vs, file, tf, flags, tg, inF, text, tt, op, a, r1, r2, r3, r4, r5, r6, b, r⟩ := x
  ⟨o, vs, file, tf, flags, tg, inF, text, tt, op, kc _ a, r1, r2, r3, r4, r5, r6, kP _ b, r⟩
theorem tableAt_at {h h' : Heap} {c P : Addr} {ps : Array Value} (x : h.TableAt c P ps) (kc : ∀ o, h.get? c = some o → h'.get? c = some o) (kP : ∀ o, h.get? P = some o → h'.get? P = some o) : h'.TableAt c P ps :=
  let ⟨⟨o, vs, a, r⟩, t⟩ := x; ⟨⟨o, vs, kc _ a, r⟩, kP _ t⟩

theorem acc_getAttrF {x dx L : Addr} {its : Array Value} {n : Nat} {tk₀ : Tok} {k₀ : Nat} {ex : Bool} {Q : Value → Shared → Prop} {h₀ : Heap} {m : Str → Option Value} (F : Fr h₀ L s.heap m) (X : (hd.heap_39 w.params).In h₀) (hx : h₀.get? x = some (accObj dx its n)) (hdx : h₀.get? dx = some (accDict w.params tk₀ k₀))
    (hQ : Q (.int 0 262) { s with toks := s.toks + 1 }) : wpAny (model prog w) A (getAttr (.ref x) "_initial_size" ex) Q E s :=
  acc_getAttr (X.keeps F.keep) (accInst (F.keep _ _ hx) (F.keep _ _ hdx)) hQ

local macro_rules | `(tactic| walk_at "getAttr ref") => `(tactic| (k_here; k_dflt (refine' acc_getAttrF ?F ?X ?x ?d ?_; (case F => k_asm); (case X => k_asm); (case x => assumption); (case d => assumption))))

local macro_rules | `(tactic| walk_at "mine none") => `(tactic| fail)
theorem len_call {x dx : Addr} {its : Array Value} {n : Nat} {tk₀ : Tok} {k₀ : Nat} {ps : List (Str × Str)} {tps : Array Value} {Q : Value → Shared → Prop}
    (hx : s.heap.get? x = some (accObj dx its n)) (hdx : s.heap.get? dx = some (accDict w.params tk₀ k₀)) (hps : Pairs2 s.heap its ps) (hc : s.heap.IsCode 88 84 tps) (ht : s.heap.TableAt 88 84 tps)
    (X : (hd.heap_39 w.params).In s.heap) (T : TopRead p loose mg mb s.heap) (M : BMod s.heap mainGlobals mg bm ob) (hA : A.handled = none) (hroom : A.depth + 6 < recursionLimit)
    (hfit : ∀ q ∈ ps, q.1.length ≤ 100000 ∧ q.2.length ≤ 100000)
    (hQ : ∀ h' tk g' t more, (∀ b o, b ≠ 84 → s.heap.get? b = some o → h'.get? b = some o) → h'.IsCode 88 84 (tps ++ more) → h'.TableAt 88 84 (tps ++ more) → (AllBare s.gens → AllBare g') →
      Q (.int (preSum (lenOf ps) ps.length) t) { s with heap := h', toks := tk, gens := g' }) :
    wpAny (model prog w) A (call (.ref 89) [.ref x]) Q E s := by
  obtain ⟨hd0, d0, fr0, g0, u0⟩ := A
  cases hA
  refine wpAny_call ?_
  have hK : (hd.heap_39 w.params).lookup 84 = none := by rfl
  refine' enter_raw (h₀ := hideAll s.heap [84]) (news := [(84, { cls := .none, data := .fields tps })]) (binds := [(Str.ofString "self", .ref x)]) hide_sub (Nat.le_of_eq (hideAll_size _ _)) ?kN (hide_K X hK) (hide_T T ht.2 fun _ _ => by simp) ?k6 ?k7 (by omega) ?k9 ?kB ?_ ?c5 ?c2 ?c3 ?c4
  case kN => intro q hq; obtain rfl := List.mem_singleton.mp hq; exact ⟨ht.2, hideAll_none _ (.head _)⟩
  case k6 => k_is
  case k7 => k_is
  case k9 => exact BindsTo.of_eq rfl
  case kB => exact locs rfl
  case c5 => decide
  case c2 => exact rfl
  case c3 => exact rfl
  case c4 => exact rfl
  intro L' h₁ F₁ N₁
  have X₁ := hide_K X hK
  have T₁ := hide_T T ht.2 fun _ _ => by simp
  try dsimp only
  refine ks_wpAt_execs_cons ?_
  refine wpAt_of_wpAny ?_
  k_steps
  rename Fr _ _ _ _ => FF
  rename News _ _ _ _ => NN
  have h84 := ht.2
  have kAll : ∀ b o, s.heap.get? b = some o → h₁.get? b = some o := fun b o e => by
    by_cases hb : b = 84
    · subst hb; rw [h84] at e; cases e; exact (NN _ (.head _)).1
    · exact hide_keep FF.keep b o hb e
  have hroom' : d0 + 6 < recursionLimit := hroom
  refine wpAny_GeneratorExp_walksQT (cl := []) rfl rfl rfl (by decide) rfl rfl rfl (by decide +kernel) rfl (show d0 + 1 < recursionLimit by omega) ?_ (fun _ => rfl)
  refine ld FF (v := .ref x) rfl ?_
  have hLlt : L' < h₁.objs.size := FF.ns.lt
  have hx8 : x ≠ 84 := by rintro rfl; rw [hx] at h84; cases h84
  have hd8 : dx ≠ 84 := by rintro rfl; rw [hdx] at h84; cases h84
  have hm8 : bm ≠ 84 := by rintro rfl; have := M.obj; rw [h84] at this; cases this; cases M.cls
  have hx₁ := kAll x _ hx
  have hd₁ := kAll dx _ hdx
  have hps₁ : Pairs2 h₁ its ps := hps.keeps fun T o e _ => kAll T o e
  refine seq_pyIter (X₁.keeps FF.keep) (accInst hx₁ hd₁) ?_
  generalize hI : h₁.objs.size = I
  have keepI : ∀ b o, h₁.get? b = some o → (h₁.push { cls := .type "list_iterator", data := .fields #[.ref x, .int 0 0] }).get? b = some o := fun b o e => Heap.get?_push_of_some _ e
  have hitI : (h₁.push { cls := .type "list_iterator", data := .fields #[.ref x, .int 0 0] }).IsListIter I x 0 := ⟨_, by rw [← hI]; exact Heap.get?_push_size _ rfl, rfl, rfl⟩
  refine ⟨(T₁.nolimit.keeps FF.keep).keeps keepI, ?_⟩
  refine genCode rfl ((hc.keeps kAll).keeps keepI) ((ht.keeps kAll).keeps keepI) fun code h₃ tk₃ more hx₃ hsz₃ hcode₃ htab₃ => ?_
  dsimp only at hx₃ hsz₃ hcode₃ htab₃
  have hsz1 : (h₁.push { cls := .type "list_iterator", data := .fields #[.ref x, .int 0 0] }).objs.size = I + 1 := by rw [Heap.size_push, hI]
  have hI84 : I ≠ 84 := by
    rw [← hI]
    exact Nat.ne_of_gt (Heap.lt_size (kAll _ _ h84))
  have k3 : ∀ b o, b ≠ 84 → s.heap.get? b = some o → h₃.get? b = some o := fun b o hb e => hx₃ b o hb (keepI b o (kAll b o e))
  have kb : ∀ b o, (hideAll s.heap [84]).get? b = some o → b ≠ 84 ∧ s.heap.get? b = some o := fun b o e => ⟨(fun h => by rw [h, hideAll_none _ (.head _)] at e; cases e), of_hideAll _ e⟩
  have kb3 : ∀ b o, (hideAll s.heap [84]).get? b = some o → h₃.get? b = some o := fun b o e => k3 b o (kb b o e).1 (kb b o e).2
  have X₃ := X₁.keeps kb3
  have T₃ := T₁.keeps kb3
  have M₃ : BMod h₃ mainGlobals mg bm ob := ⟨T₃.g, M.name, M.ne, k3 _ _ hm8 M.obj, M.cls, M.dict, M.data⟩
  refine wpAny_builtinsFor M₃.ns M₃.name M₃.ne M₃.obj M₃.cls M₃.dict M₃.data ?_
  obtain ⟨Ts, vals, hit, htup, hvals⟩ := hps₁.walk
  have hTI : ∀ j, j < its.size → Ts j ≠ I := fun j hj e => by
    obtain ⟨o, ho, -⟩ := htup j hj
    have := Heap.lt_size ho
    rw [e, ← hI] at this
    exact Nat.lt_irrefl _ this
  have hxI : x ≠ I := fun e => by have := Heap.lt_size hx₁; rw [e, ← hI] at this; exact Nat.lt_irrefl _ this
  have htup3 : ∀ k, k < its.size → h₃.IsTuple (Ts k) (vals k) := fun k hk => by
    obtain ⟨o, ho, hc', r⟩ := htup k hk
    refine ⟨o, hx₃ _ o ?_ (keepI _ _ ho), hc', r⟩
    intro e
    rw [e, kAll _ _ h84] at ho
    cases ho
    cases hc'
  have hlt3 : ∀ b, b < I + 1 → b < h₃.objs.size := fun b hb => Nat.lt_of_lt_of_le hb (by rw [← hsz1]; exact hsz₃)
  refine ⟨I, _, _, _, _, _, _, fun _ => true, fun i y => ∃ t, y = .int (lenOf ps i) t, rfl, fun A' hA' => walksSeq hA' I x hxI its Ts vals hit hTI, ?_, ⟨?_, ?_, htup3⟩, ?_, T₃.nolimit, ?_, ?_, ?_⟩
  · rintro i v ⟨hi, rfl⟩
    obtain ⟨q, hq⟩ : ∃ q, ps[i]? = some q := ⟨_, List.getElem?_eq_getElem (by rw [← hps.1]; exact hi)⟩
    obtain ⟨t, u, e⟩ := hvals i q hq
    exact ⟨_, _, e⟩
  · exact hitI.at fun o e => hx₃ _ o hI84 e
  · exact ⟨_, _, hx₃ _ _ hx8 (keepI _ _ hx₁), rfl⟩
  · intro b hb
    rcases List.mem_cons.mp hb with rfl | hb
    · exact hlt3 _ (Nat.lt_succ_self _)
    · rcases List.mem_cons.mp hb with rfl | hb
      · exact Heap.lt_size (hx₃ _ _ hx8 (keepI _ _ hx₁))
      · obtain ⟨k, hk, rfl⟩ := List.mem_map.mp hb
        obtain ⟨o, ho, -⟩ := htup3 k (List.mem_range.mp hk)
        exact Heap.lt_size ho
  · intro hm
    have e := List.mem_singleton.mp hm
    obtain ⟨mc, hn, -⟩ := T₁.nolimit
    obtain ⟨o, _, _, ho, -⟩ := hn.keeps FF.keep
    have := Heap.lt_size ho
    rw [e, ← hI] at this
    exact Nat.lt_irrefl _ this
  · intro href hhref
    have up : ∀ s₂ : Shared, (∀ b ∈ List.range h₃.objs.size, b ∉ [I] → ∀ o, href.get? b = some o → s₂.heap.get? b = some o) → ∀ b o, (hideAll s.heap [84]).get? b = some o → s₂.heap.get? b = some o := fun s₂ hk b o e => by
      have e3 := kb3 b o e
      refine hk b (List.mem_range.mpr (Heap.lt_size e3)) (fun hm => ?_) o (hhref b o e3)
      have := Heap.lt_size (FF.keep b o e)
      rw [List.mem_singleton.mp hm, ← hI] at this
      exact Nat.lt_irrefl _ this
    refine ⟨fun A' E' i va vb s₂ m₂ hA' hP hn ha hb hk => ?_, fun A' E' i va vb s₂ m₂ hA' hP hz hn ha hb hk => ?_⟩
    · exact wpAny_pure ⟨rfl, s₂.heap, s₂.toks, rfl, fun _ _ e => e⟩
    · obtain ⟨hi, hv⟩ := hP
      obtain ⟨q, hq⟩ : ∃ q, ps[i]? = some q := ⟨_, List.getElem?_eq_getElem (by rw [← hps.1]; exact hi)⟩
      obtain ⟨t, u, e⟩ := hvals i q hq
      rw [e] at hv
      injection hv with hv
      injection hv with hv1 hv2
      injection hv2 with hv2 _
      subst hv1 hv2
      have hqm : q ∈ ps := List.mem_of_getElem? hq
      refine elt_len (X₁.keeps (up s₂ hk)) (T₁.keeps (up s₂ hk)) hA' rfl rfl hn ha hb rfl rfl rfl rfl (hfit q hqm).1 (hfit q hqm).2 fun t' tk => ⟨⟨t', ?_⟩, s₂.heap, tk, rfl, fun _ _ e => e⟩
      unfold lenOf
      rw [hq]
  · intro a h₅ tk₅ gs hgb hag hsz₅ hk₅ W hat
    have k5 : ∀ b o, (hideAll s.heap [84]).get? b = some o → h₅.get? b = some o := fun b o e => hk₅ b o (kb3 b o e)
    have hL8 : L' ≠ 84 := Nat.ne_of_gt (Nat.lt_of_lt_of_le (Heap.lt_size h84) (by have := FF.above; rwa [hideAll_size] at this))
    have FF₅ : Fr (hideAll s.heap [84]) L' h₅ (fun y => [(Str.ofString "self", Value.ref x)].reverse.lookup y) := ⟨FF.ns.at' fun o e => hk₅ _ o (hx₃ _ o hL8 (keepI _ o e)), k5, FF.above⟩
    have NN₅ : News (hideAll s.heap [84]) L' h₅ [] := News.nil
    have hx₀ : (hideAll s.heap [84]).get? x = some (accObj dx its n) := hideAll_get _ hx fun hm => hx8 (List.mem_singleton.mp hm)
    have hd₀ : (hideAll s.heap [84]).get? dx = some (accDict w.params tk₀ k₀) := hideAll_get _ hdx fun hm => hd8 (List.mem_singleton.mp hm)
    clear FF NN
    dsimp only
    k_steps
    have W' := W.of_in1.of_in1.of_in1
    have hpz : (passing (fun _ => true) its.size 0) = List.range its.size := by simp [passing]
    refine sum_start ?_
    refine W'.self 0 _ _ _ (W'.frame 0 _ h₅ _ hat (by dsimp only; omega) fun b _ o e => e) ?_
    refine ⟨a, _, _, _, _, _, _, lenOf ps, rfl, W', W'.frame 0 _ h₅ _ hat (by dsimp only; omega) fun b _ o e => e, ?_, ?_, ?_⟩
    · intro b hb
      show b < h₅.objs.size
      rw [hsz₅]
      rcases List.mem_cons.mp hb with rfl | hb
      · exact Nat.lt_succ_self _
      · rcases List.mem_cons.mp hb with rfl | hb
        · exact Nat.lt_succ_of_lt hag
        · exact Nat.lt_succ_of_lt (Nat.lt_trans (List.mem_range.mp hb) hag)
    · rintro i v ⟨j, hj, t, rfl⟩
      rw [hpz] at hj
      obtain ⟨hj1, hj2⟩ := List.getElem?_eq_some_iff.mp hj
      rw [List.getElem_range] at hj2
      subst hj2
      exact ⟨t, rfl⟩
    · intro s' t' hm
      rw [hpz, List.length_range, hps.1]
      obtain ⟨h', g', d', tk', os'⟩ := s'
      have e1 := hm.drawn
      have e2 := hm.os
      dsimp only at e1 e2
      subst e1 e2
      have hsI : s.heap.objs.size ≤ I := by
        have := FF₅.above
        rw [hideAll_size] at this
        exact Nat.le_trans this (by rw [← hI]; exact Nat.le_of_lt hLlt)
      have off : ∀ b o, s.heap.get? b = some o → b ∉ h₃.objs.size :: [I] := fun b o e hb => by
        have hlt := Nat.lt_of_lt_of_le (Heap.lt_size e) hsI
        rcases List.mem_cons.mp hb with rfl | hb
        · exact absurd (hlt3 _ (Nat.lt_succ_of_lt hlt)) (Nat.lt_irrefl _)
        · rw [List.mem_singleton.mp hb] at hlt
          exact Nat.lt_irrefl _ hlt
      obtain ⟨o88, ho88⟩ : ∃ o, s.heap.get? 88 = some o := let ⟨⟨o, _, a, _⟩, _⟩ := ht; ⟨o, a⟩
      have k88 : ∀ o, h₃.get? 88 = some o → h'.get? 88 = some o := fun o e => hm.heap _ o (off _ _ ho88) (hk₅ _ o e)
      have kP : ∀ o, h₃.get? 84 = some o → h'.get? 84 = some o := fun o e => hm.heap _ o (off _ _ h84) (hk₅ _ o e)
      exact hQ h' tk' g' t' more (fun b o hb e => hm.heap b o (off b o e) (hk₅ b o (k3 b o hb e))) (isCode_at hcode₃ k88 kP) (tableAt_at htab₃ k88 kP) fun hb => (hb.push hgb).moved hm.gens
end

end Mine

/-! ## L11 -/
namespace Mine
open PySem PySem.W PyProof.Rows PySem.Calls
open Sem (wp)
open Builtin Builtin.Str Builtin.Int
set_option maxRecDepth 100000
set_option maxHeartbeats 8000000
section
variable {prog : Program} {w : World} {A : Around} {E : Value → Shared → Prop} {s : Shared} {p : Program} {loose : List Str} {mg mb : Str → Option Value} {bm : Addr} {ob : Obj}

theorem str_call {x dx : Addr} {its : Array Value} {n : Nat} {tk₀ : Tok} {k₀ : Nat} {ps : List (Str × Str)} {tps : Array Value} {Q : Value → Shared → Prop}
    (hx : s.heap.get? x = some (accObj dx its n)) (hdx : s.heap.get? dx = some (accDict w.params tk₀ k₀)) (hps : Pairs2 s.heap its ps) (hc : s.heap.IsCode 95 91 tps) (ht : s.heap.TableAt 95 91 tps)
    (X : (hd.heap_39 w.params).In s.heap) (T : TopRead p loose mg mb s.heap) (M : BMod s.heap mainGlobals mg bm ob) (hA : A.handled = none) (hroom : A.depth + 6 < recursionLimit)
    (hfit : ∀ q ∈ ps, q.1.length ≤ 100000 ∧ q.2.length ≤ 100000)
    (hn : ps.length ≤ 1000) (hok : JoinOk (Str.ofString "") (ps.map fun q => Txt.join (Str.ofString "") [q.1, q.2]) = true)
    (hQ : ∀ h' tk g' t more, (∀ b o, b ≠ 91 → s.heap.get? b = some o → h'.get? b = some o) → h'.IsCode 95 91 (tps ++ more) → h'.TableAt 95 91 (tps ++ more) → (AllBare s.gens → AllBare g') →
      Q (.str (Txt.join (Str.ofString "") (ps.map fun q => Txt.join (Str.ofString "") [q.1, q.2])) t) { s with heap := h', toks := tk, gens := g' }) :
    wpAny (model prog w) A (call (.ref 96) [.ref x]) Q E s := by
  obtain ⟨hd0, d0, fr0, g0, u0⟩ := A
  cases hA
  refine wpAny_call ?_
  have hK : (hd.heap_39 w.params).lookup 91 = none := by rfl
  refine' enter_raw (h₀ := hideAll s.heap [91]) (news := [(91, { cls := .none, data := .fields tps })]) (binds := [(Str.ofString "self", .ref x)]) hide_sub (Nat.le_of_eq (hideAll_size _ _)) ?kN (hide_K X hK) (hide_T T ht.2 fun _ _ => by simp) ?k6 ?k7 (by omega) ?k9 ?kB ?_ ?c5 ?c2 ?c3 ?c4
  case kN => intro q hq; obtain rfl := List.mem_singleton.mp hq; exact ⟨ht.2, hideAll_none _ (.head _)⟩
  case k6 => k_is
  case k7 => k_is
  case k9 => exact BindsTo.of_eq rfl
  case kB => exact locs rfl
  case c5 => decide
  case c2 => exact rfl
  case c3 => exact rfl
  case c4 => exact rfl
  intro L' h₁ F₁ N₁
  have X₁ := hide_K X hK
  have T₁ := hide_T T ht.2 fun _ _ => by simp
  try dsimp only
  refine ks_wpAt_execs_cons ?_
  refine wpAt_of_wpAny ?_
  k_steps
  rename Fr _ _ _ _ => FF
  rename News _ _ _ _ => NN
  have h91 := ht.2
  have kAll : ∀ b o, s.heap.get? b = some o → h₁.get? b = some o := fun b o e => by
    by_cases hb : b = 91
    · subst hb; rw [h91] at e; cases e; exact (NN _ (.head _)).1
    · exact hide_keep FF.keep b o hb e
  have hroom' : d0 + 6 < recursionLimit := hroom
  refine wpAny_GeneratorExp_walksQT (cl := []) rfl rfl rfl (by decide) rfl rfl rfl (by decide +kernel) rfl (show d0 + 1 < recursionLimit by omega) ?_ (fun _ => rfl)
  refine ld FF (v := .ref x) rfl ?_
  have hLlt : L' < h₁.objs.size := FF.ns.lt
  have hx8 : x ≠ 91 := by rintro rfl; rw [hx] at h91; cases h91
  have hd8 : dx ≠ 91 := by rintro rfl; rw [hdx] at h91; cases h91
  have hm8 : bm ≠ 91 := by rintro rfl; have := M.obj; rw [h91] at this; cases this; cases M.cls
  have hx₁ := kAll x _ hx
  have hd₁ := kAll dx _ hdx
  have hps₁ : Pairs2 h₁ its ps := hps.keeps fun T o e _ => kAll T o e
  refine seq_pyIter (X₁.keeps FF.keep) (accInst hx₁ hd₁) ?_
  generalize hI : h₁.objs.size = I
  have keepI : ∀ b o, h₁.get? b = some o → (h₁.push { cls := .type "list_iterator", data := .fields #[.ref x, .int 0 0] }).get? b = some o := fun b o e => Heap.get?_push_of_some _ e
  have hitI : (h₁.push { cls := .type "list_iterator", data := .fields #[.ref x, .int 0 0] }).IsListIter I x 0 := ⟨_, by rw [← hI]; exact Heap.get?_push_size _ rfl, rfl, rfl⟩
  refine ⟨(T₁.nolimit.keeps FF.keep).keeps keepI, ?_⟩
  refine genCode rfl ((hc.keeps kAll).keeps keepI) ((ht.keeps kAll).keeps keepI) fun code h₃ tk₃ more hx₃ hsz₃ hcode₃ htab₃ => ?_
  dsimp only at hx₃ hsz₃ hcode₃ htab₃
  have hsz1 : (h₁.push { cls := .type "list_iterator", data := .fields #[.ref x, .int 0 0] }).objs.size = I + 1 := by rw [Heap.size_push, hI]
  have hI91 : I ≠ 91 := by
    rw [← hI]
    exact Nat.ne_of_gt (Heap.lt_size (kAll _ _ h91))
  have k3 : ∀ b o, b ≠ 91 → s.heap.get? b = some o → h₃.get? b = some o := fun b o hb e => hx₃ b o hb (keepI b o (kAll b o e))
  have kb : ∀ b o, (hideAll s.heap [91]).get? b = some o → b ≠ 91 ∧ s.heap.get? b = some o := fun b o e => ⟨(fun h => by rw [h, hideAll_none _ (.head _)] at e; cases e), of_hideAll _ e⟩
  have kb3 : ∀ b o, (hideAll s.heap [91]).get? b = some o → h₃.get? b = some o := fun b o e => k3 b o (kb b o e).1 (kb b o e).2
  have X₃ := X₁.keeps kb3
  have T₃ := T₁.keeps kb3
  have M₃ : BMod h₃ mainGlobals mg bm ob := ⟨T₃.g, M.name, M.ne, k3 _ _ hm8 M.obj, M.cls, M.dict, M.data⟩
  refine wpAny_builtinsFor M₃.ns M₃.name M₃.ne M₃.obj M₃.cls M₃.dict M₃.data ?_
  obtain ⟨Ts, vals, hit, htup, hvals⟩ := hps₁.walk
  have hTI : ∀ j, j < its.size → Ts j ≠ I := fun j hj e => by
    obtain ⟨o, ho, -⟩ := htup j hj
    have := Heap.lt_size ho
    rw [e, ← hI] at this
    exact Nat.lt_irrefl _ this
  have hxI : x ≠ I := fun e => by have := Heap.lt_size hx₁; rw [e, ← hI] at this; exact Nat.lt_irrefl _ this
  have htup3 : ∀ k, k < its.size → h₃.IsTuple (Ts k) (vals k) := fun k hk => by
    obtain ⟨o, ho, hc', r⟩ := htup k hk
    refine ⟨o, hx₃ _ o ?_ (keepI _ _ ho), hc', r⟩
    intro e
    rw [e, kAll _ _ h91] at ho
    cases ho
    cases hc'
  have hlt3 : ∀ b, b < I + 1 → b < h₃.objs.size := fun b hb => Nat.lt_of_lt_of_le hb (by rw [← hsz1]; exact hsz₃)
  refine ⟨I, _, _, _, _, _, _, fun _ => true, fun i y => ∃ q t, ps[i]? = some q ∧ y = .str (Txt.join (Str.ofString "") [q.1, q.2]) t, rfl, fun A' hA' => walksSeq hA' I x hxI its Ts vals hit hTI, ?_, ⟨?_, ?_, htup3⟩, ?_, T₃.nolimit, ?_, ?_, ?_⟩
  · rintro i v ⟨hi, rfl⟩
    obtain ⟨q, hq⟩ : ∃ q, ps[i]? = some q := ⟨_, List.getElem?_eq_getElem (by rw [← hps.1]; exact hi)⟩
    obtain ⟨t, u, e⟩ := hvals i q hq
    exact ⟨_, _, e⟩
  · exact hitI.at fun o e => hx₃ _ o hI91 e
  · exact ⟨_, _, hx₃ _ _ hx8 (keepI _ _ hx₁), rfl⟩
  · intro b hb
    rcases List.mem_cons.mp hb with rfl | hb
    · exact hlt3 _ (Nat.lt_succ_self _)
    · rcases List.mem_cons.mp hb with rfl | hb
      · exact Heap.lt_size (hx₃ _ _ hx8 (keepI _ _ hx₁))
      · obtain ⟨k, hk, rfl⟩ := List.mem_map.mp hb
        obtain ⟨o, ho, -⟩ := htup3 k (List.mem_range.mp hk)
        exact Heap.lt_size ho
  · intro hm
    have e := List.mem_singleton.mp hm
    obtain ⟨mc, hn, -⟩ := T₁.nolimit
    obtain ⟨o, _, _, ho, -⟩ := hn.keeps FF.keep
    have := Heap.lt_size ho
    rw [e, ← hI] at this
    exact Nat.lt_irrefl _ this
  · intro href hhref
    have up : ∀ s₂ : Shared, (∀ b ∈ List.range h₃.objs.size, b ∉ [I] → ∀ o, href.get? b = some o → s₂.heap.get? b = some o) → ∀ b o, (hideAll s.heap [91]).get? b = some o → s₂.heap.get? b = some o := fun s₂ hk b o e => by
      have e3 := kb3 b o e
      refine hk b (List.mem_range.mpr (Heap.lt_size e3)) (fun hm => ?_) o (hhref b o e3)
      have := Heap.lt_size (FF.keep b o e)
      rw [List.mem_singleton.mp hm, ← hI] at this
      exact Nat.lt_irrefl _ this
    refine ⟨fun A' E' i va vb s₂ m₂ hA' hP hn ha hb hk => ?_, fun A' E' i va vb s₂ m₂ hA' hP hz hn ha hb hk => ?_⟩
    · exact wpAny_pure ⟨rfl, s₂.heap, s₂.toks, rfl, fun _ _ e => e⟩
    · obtain ⟨hi, hv⟩ := hP
      obtain ⟨q, hq⟩ : ∃ q, ps[i]? = some q := ⟨_, List.getElem?_eq_getElem (by rw [← hps.1]; exact hi)⟩
      obtain ⟨t, u, e⟩ := hvals i q hq
      rw [e] at hv
      injection hv with hv
      injection hv with hv1 hv2
      injection hv2 with hv2 _
      subst hv1 hv2
      have hqm : q ∈ ps := List.mem_of_getElem? hq
      refine elt_join (X₁.keeps (up s₂ hk)) (T₁.keeps (up s₂ hk)) rfl hn ha hb rfl rfl rfl rfl rfl (hfit q hqm).1 (hfit q hqm).2 fun t' h' tk hk' => ⟨⟨q, t', hq, rfl⟩, h', tk, rfl, hk'⟩
  · intro a h₅ tk₅ gs hgb hag hsz₅ hk₅ W hat
    have k5 : ∀ b o, (hideAll s.heap [91]).get? b = some o → h₅.get? b = some o := fun b o e => hk₅ b o (kb3 b o e)
    have hL8 : L' ≠ 91 := Nat.ne_of_gt (Nat.lt_of_lt_of_le (Heap.lt_size h91) (by have := FF.above; rwa [hideAll_size] at this))
    have FF₅ : Fr (hideAll s.heap [91]) L' h₅ (fun y => [(Str.ofString "self", Value.ref x)].reverse.lookup y) := ⟨FF.ns.at' fun o e => hk₅ _ o (hx₃ _ o hL8 (keepI _ o e)), k5, FF.above⟩
    have NN₅ : News (hideAll s.heap [91]) L' h₅ [] := News.nil
    have hx₀ : (hideAll s.heap [91]).get? x = some (accObj dx its n) := hideAll_get _ hx fun hm => hx8 (List.mem_singleton.mp hm)
    have hd₀ : (hideAll s.heap [91]).get? dx = some (accDict w.params tk₀ k₀) := hideAll_get _ hdx fun hm => hd8 (List.mem_singleton.mp hm)
    clear FF NN
    dsimp only
    k_steps
    have W' := W.of_in1.of_in1
    have hpz : (passing (fun _ => true) its.size 0) = List.range its.size := by simp [passing]
    have hsL : (1000 : Nat) ≤ sizeLine := by decide
    refine SC.joinGen W' (fun i s' st => st.1.typeIs) (W'.frame 0 _ h₅ _ hat (by dsimp only; omega) fun b _ o e => e) ?_ (.head _) ?_ ?_ (by rw [hpz, List.length_range, hps.1]; omega)
    · intro b hb
      show b < h₅.objs.size
      rw [hsz₅]
      rcases List.mem_cons.mp hb with rfl | hb
      · exact Nat.lt_succ_self _
      · rcases List.mem_cons.mp hb with rfl | hb
        · exact Nat.lt_succ_of_lt hag
        · exact Nat.lt_succ_of_lt (Nat.lt_trans (List.mem_range.mp hb) hag)
    · rintro i v ⟨j, hj, q, t, hq, rfl⟩
      exact ⟨_, _, rfl⟩
    · intro s' l hm hit'
      have hl : l.map (·.1) = ps.map fun q => Txt.join (Str.ofString "") [q.1, q.2] := by
        obtain ⟨hz, hj⟩ := hit'
        rw [hpz, List.length_range, hps.1] at hz
        refine List.ext_getElem? fun i => ?_
        have hl1 : l.length = ps.length := by simpa [strValues] using hz
        by_cases hi : i < l.length
        · have hg : (strValues l).toArray[i]? = some (.str l[i].1 l[i].2) := by simp [strValues, hi]
          obtain ⟨j, hjr, q, t, hq, e⟩ := hj i _ hg
          rw [hpz] at hjr
          obtain ⟨hj1, hj2⟩ := List.getElem?_eq_some_iff.mp hjr
          rw [List.getElem_range] at hj2
          subst hj2
          injection e with e1 e2
          rw [List.getElem?_map, List.getElem?_map, List.getElem?_eq_getElem hi, hq]
          show some l[i].1 = _
          rw [e1]; rfl
        · rw [List.getElem?_eq_none (by rw [List.length_map]; omega), List.getElem?_eq_none (by rw [List.length_map]; omega)]
      rw [hl]
      refine ⟨hok, fun t' k => ?_⟩
      obtain ⟨h', g', d', tk', os'⟩ := s'
      have e1 := hm.drawn
      have e2 := hm.os
      dsimp only at e1 e2
      subst e1 e2
      have hsI : s.heap.objs.size ≤ I := by
        have := FF₅.above
        rw [hideAll_size] at this
        exact Nat.le_trans this (by rw [← hI]; exact Nat.le_of_lt hLlt)
      have off : ∀ b o, s.heap.get? b = some o → b ∉ h₃.objs.size :: [I] := fun b o e hb => by
        have hlt := Nat.lt_of_lt_of_le (Heap.lt_size e) hsI
        rcases List.mem_cons.mp hb with rfl | hb
        · exact absurd (hlt3 _ (Nat.lt_succ_of_lt hlt)) (Nat.lt_irrefl _)
        · rw [List.mem_singleton.mp hb] at hlt
          exact Nat.lt_irrefl _ hlt
      obtain ⟨o95, ho95⟩ : ∃ o, s.heap.get? 95 = some o := let ⟨⟨o, _, a, _⟩, _⟩ := ht; ⟨o, a⟩
      have k95 : ∀ o, h₃.get? 95 = some o → h'.get? 95 = some o := fun o e => hm.heap _ o (off _ _ ho95) (hk₅ _ o e)
      have kP : ∀ o, h₃.get? 91 = some o → h'.get? 91 = some o := fun o e => hm.heap _ o (off _ _ h91) (hk₅ _ o e)
      exact hQ h' k g' t' more (fun b o hb e => hm.heap b o (off b o e) (hk₅ b o (k3 b o hb e))) (isCode_at hcode₃ k95 kP) (tableAt_at htab₃ k95 kP) fun hb => (hb.push hgb).moved hm.gens
end

end Mine

/-! ## L12 -/
namespace Mine
open PySem PySem.W PyProof.Rows PySem.Calls
open Sem (wp)
open Builtin Builtin.Str Builtin.Int
set_option maxRecDepth 100000
set_option maxHeartbeats 8000000
section
variable {prog : Program} {w : World} {A : Around} {E : Value → Shared → Prop} {R : Result → Shared → Prop} {h : Heap} {g : Array GenState} {d : Drawn} {t : Nat} {os : OsState}

theorem acc_new_code (X : (hd.heap_39 w.params).In h) (hq : R (.ok (.ret (.ref (h.objs.size + 1)))) ⟨(h.push emptyDict).push (accObj h.objs.size #[] 0), g, d, t, os⟩) :
    codeAny (model prog w) A (.call (.builtin "list.__new__") ⟨[.ref 122], []⟩) R ⟨h, g, d, t, os⟩ := by
  have C1 : Looks (model prog w) h (checkBuiltinCall "list.__new__" ⟨[.ref 122], []⟩) () := Looks.of_peek X (by kernel_rfl)
  have C2 : Looks (model prog w) h (isType (.ref 122)) true := Looks.of_peek X (by kernel_rfl)
  have C3 : Looks (model prog w) h (isSubtype (.ref 122) (.type "list")) true := Looks.of_peek X (by kernel_rfl)
  have k : ∀ b o, h.get? b = some o → ((h.push emptyDict).push (accObj h.objs.size #[] 0)).get? b = some o := fun b o e => Heap.get?_push_of_some _ (Heap.get?_push_of_some _ e)
  obtain ⟨o, cd, hC, hCd, hdel⟩ : ∃ o cd, h.get? 122 = some o ∧ o.data = .cls cd ∧ cd.hasDel = false := ⟨_, _, X 122 _ rfl, rfl, rfl⟩
  refine codeAny_of_tree ?_
  show wpAny _ A.in1 (do checkBuiltinCall "list.__new__" ⟨[.ref 122], []⟩; again (.builtin "list.__new__" ⟨[.ref 122], []⟩)) _ _ _
  refine wpAny_bind (C1.at (wpAny_pure ⟨plainId_quiet F.plain_list_new _, codeAny_builtin_stack F.entry_list_new rfl fun p st => ?_⟩))
  rw [Around.under_plainId F.plain_list_new _]
  dsimp only
  rw [owner_list_new]
  refine wpAny_bind (C2.at ?_)
  simp only [Bool.not_true, Bool.false_eq_true, if_false]
  refine wpAny_bind (C3.at ?_)
  simp only [Bool.not_true, Bool.false_eq_true, if_false]
  refine wpAny_bind (wpAny_pure ?_)
  have hd' : typeHasDict (.ref 122) = true := rfl
  simp only [hd', Bool.not_true, Bool.false_eq_true, if_false]
  show wpAny _ _ (newObj (.type "dict") (.dict #[]) none >>= _) _ _ _
  refine wpAny_bind (wpAny_newObj_type ?_ (by size_fits))
  dsimp only
  refine wpAny_bind ?_
  show wpAny _ _ (newObjAsIs (.ref 122) (.seq #[]) (some h.objs.size)) _ _ _
  unfold newObjAsIs
  refine wpAny_bind (wpAny_alloc ?_)
  unfold classHasDel
  refine wpAny_bind (wpAny_bind (wpAny_load (Heap.get?_push_of_some _ (Heap.get?_push_of_some _ hC)) ?_))
  rw [hCd]
  refine wpAny_pure ?_
  rw [hdel]
  simp only [Bool.false_eq_true, if_false]
  refine wpAny_pure (wpAny_pure ?_)
  show R _ _
  rw [Heap.size_push]
  exact hq
end

end Mine

/-! ## L13 -/
namespace Mine
open PySem PySem.W PyProof.Rows PySem.Calls
open Sem (wp)
open Builtin Builtin.Str Builtin.Int
set_option maxRecDepth 100000
set_option maxHeartbeats 8000000
section
variable {prog : Program} {w : World} {A : Around} {E : Value → Shared → Prop} {R : Result → Shared → Prop} {h : Heap} {g : Array GenState} {d : Drawn} {t : Nat} {os : OsState}

theorem acc_make (X : (hd.heap_39 w.params).In h)
    (hq : codeAny (model prog w) (A.under (.builtin "type.__call__" ⟨[.ref 122], []⟩)) (.call (.ref 59) ⟨[.ref (h.objs.size + 1)], []⟩) (InitBack (h.objs.size + 1) R) ⟨(h.push emptyDict).push (accObj h.objs.size #[] 0), g, d, t, os⟩) :
    codeAny (model prog w) A (.call (.ref 122) ⟨[], []⟩) R ⟨h, g, d, t, os⟩ := by
  obtain ⟨o, cd, hC, hCd, hmr⟩ : ∃ o cd, h.get? 122 = some o ∧ o.data = .cls cd ∧ cd.mro = [.ref 122, .type "list", .type "object"] := ⟨_, _, X 122 _ rfl, rfl, rfl⟩
  have D1 : Looks (model prog w) h (specialOf (.ref 122) "__call__") (some (.builtin "type.__call__")) := looks_specialIn X (by k_is)
  have D2 : Looks (model prog w) h (isInstance (.ref 122) (.type "type")) true := looks_instIn X (by k_is)
  have D3 : Looks (model prog w) h (mroOf (.ref 122)) [.ref 122, .type "list", .type "object"] := Looks.of_peek X (by kernel_rfl)
  have D4 : Looks (model prog w) h (Bind.madeBy (.ref 122)) (some "list.__new__") := Looks.of_peek X (by kernel_rfl)
  refine codeAny_of_tree ?_
  show wpAny _ _ (callAny (.ref 122) _) _ _ _
  unfold callAny
  refine wpAny_bind (wpAny_load hC ?_)
  rw [hCd]
  show wpAny _ _ (callAny.viaDunder (.ref 122) _) _ _ _
  unfold callAny.viaDunder
  refine wpAny_bind (D1.at ?_)
  dsimp only
  rw [tc_bind]
  refine wpAny_bind (wpAny_pure (wpAny_bind (wpAny_pure ?_)))
  refine wpAny_pure (a := Fin.again (.call (.builtin "type.__call__") ⟨[.ref 122], []⟩)) (And.intro rfl ?_)
  refine codeAny_call_builtin_at (Code.quiet_builtin _ (by decide +kernel)) entry_typeCall (check_slot tc_kind tc_split D2 (tc_args _ _ _) ?_)
  unfold Builtin.«type.__call__»
  dsimp only
  have n1 : (Value.ref 122 == Value.type "type") = false := rfl
  simp only [n1, Bool.false_eq_true, if_false]
  refine wpAny_bind (D3.at ?_)
  simp only [List.isEmpty_cons, Bool.false_eq_true, if_false]
  refine wpAny_bind (D4.at ?_)
  dsimp only
  refine wpAny_bind (wpAny_pure ?_)
  refine wpAny_bind (wpAny_holding (wpAny_call ?_))
  refine acc_new_code X ?_
  have k : ∀ b o, h.get? b = some o → ((h.push emptyDict).push (accObj h.objs.size #[] 0)).get? b = some o := fun b o e => Heap.get?_push_of_some _ (Heap.get?_push_of_some _ e)
  have hx : ((h.push emptyDict).push (accObj h.objs.size #[] 0)).get? (h.objs.size + 1) = some (accObj h.objs.size #[] 0) := by rw [← Heap.size_push h emptyDict]; exact Heap.get?_push_size _ rfl
  have t1 : Looks (model prog w) ((h.push emptyDict).push (accObj h.objs.size #[] 0)) (typeOf (.ref (h.objs.size + 1))) (.ref 122) := (Looks.ld hx).andThen .now
  have s1 : Looks (model prog w) ((h.push emptyDict).push (accObj h.objs.size #[] 0)) (isSubtype (.ref 122) (.ref 122)) true := Looks.of_peek (X.keeps k) (by kernel_rfl)
  have i1 : Looks (model prog w) ((h.push emptyDict).push (accObj h.objs.size #[] 0)) (typeLookup (.ref 122) "__init__") (some (.ref 59)) := looks_findIn (X.keeps k) (by k_is)
  have b1 := bind_fn (M := model prog w) (X.keeps k) (f := 59) (.ref (h.objs.size + 1)) (by k_is)
  dsimp only [InitBack] at hq ⊢
  unfold isInstance callSpecial? specialOf
  repeat (first | with_reducible refine wpAny_call ?_ | lk)
  refine codeAny_mono hq fun r s' z => ?_
  rcases r with e | (v | _ | _ | _) <;> first | exact z | exact z.elim | skip
  obtain ⟨rfl, z⟩ := z
  exact wpAny_pure (wpAny_pure z)
end

end Mine

/-! ## L14 -/
namespace Mine
open PySem PySem.W PyProof.Rows PySem.Calls
open Sem (wp)
open Builtin Builtin.Str Builtin.Int
set_option maxRecDepth 100000
set_option maxHeartbeats 8000000
section
variable {prog : Program} {w : World} {A : Around} {E : Value → Shared → Prop} {R : Result → Shared → Prop} {h : Heap} {g : Array GenState} {d : Drawn} {t : Nat} {os : OsState}

theorem get_mw {x : Addr} {id : String} {Q : Fin → Shared → Prop} (own : (".".intercalate (id.cutAt '.').dropLast) = "list") (L : Looks (model prog w) h (isInstance (.ref x) (.type "list")) true)
    (hq : Q (.done (.ret (.ref h.objs.size))) ⟨h.push { cls := .type "method-wrapper", data := .fields #[.builtin id, .ref x] }, g, d, t, os⟩) :
    wpAny (model prog w) A (Builtin.«wrapper_descriptor.__get__» ⟨[.builtin id, .ref x, .ref 122], []⟩) Q E ⟨h, g, d, t, os⟩ := by
  have L' : Looks (model prog w) h (isInstance (.ref x) (.type (".".intercalate (id.cutAt '.').dropLast))) true := by rw [own]; exact L
  clear L
  unfold Builtin.«wrapper_descriptor.__get__»
  repeat (first | lk | simp only [Bool.not_true, Bool.false_eq_true, if_false])
  exact hq

theorem get_md {x : Addr} {id : String} {Q : Fin → Shared → Prop} (own : (".".intercalate (id.cutAt '.').dropLast) = "list") (told : Manifest.toldItsClass.contains id = false) (L : Looks (model prog w) h (isInstance (.ref x) (.type "list")) true)
    (hq : Q (.done (.ret (.ref h.objs.size))) ⟨h.push { cls := .type "builtin_function_or_method", data := .fields #[.builtin id, .ref x] }, g, d, t, os⟩) :
    wpAny (model prog w) A (Builtin.«method_descriptor.__get__» ⟨[.builtin id, .ref x, .ref 122], []⟩) Q E ⟨h, g, d, t, os⟩ := by
  have L' : Looks (model prog w) h (isInstance (.ref x) (.type (".".intercalate (id.cutAt '.').dropLast))) true := by rw [own]; exact L
  clear L
  unfold Builtin.«method_descriptor.__get__»
  repeat (first | lk | simp only [told, Bool.not_true, Bool.false_eq_true, if_false])
  exact hq

theorem entry_mw_get : entryFor table "wrapper_descriptor.__get__" = some Builtin.«wrapper_descriptor.__get__» := entryFor_of_tree (by kernel_rfl)
theorem entry_md_get : entryFor table "method_descriptor.__get__" = some Builtin.«method_descriptor.__get__» := entryFor_of_tree (by kernel_rfl)
theorem slot_mw_get : Slot "wrapper_descriptor" "__get__" "wrapper_descriptor.__get__" := .of (owner := "wrapper_descriptor") (n := "__get__") (by rw [typeLookup_type, builtinLookup_eq_fast]; kernel_rfl) (by decide +kernel) (by decide +kernel) (by decide +kernel) (.inl (by decide +kernel)) (by rw [isSubtype_type]; kernel_rfl)
theorem slot_md_get : Slot "method_descriptor" "__get__" "method_descriptor.__get__" := .of (owner := "method_descriptor") (n := "__get__") (by rw [typeLookup_type, builtinLookup_eq_fast]; kernel_rfl) (by decide +kernel) (by decide +kernel) (by decide +kernel) (.inl (by decide +kernel)) (by rw [isSubtype_type]; kernel_rfl)
theorem mw_args (a b c : Value) : argsOk "wrapper_descriptor.__get__" ⟨[a, b, c], []⟩ := by unfold argsOk; kernel_rfl
theorem md_args (a b c : Value) : argsOk "method_descriptor.__get__" ⟨[a, b, c], []⟩ := by unfold argsOk; kernel_rfl

abbrev supObj (x : Addr) : Obj := { cls := .type "super", dict := none, data := .fields #[.ref 122, .ref x, .ref 122], slots := #[] }

/-- what `super().name` looks up: a slot or a method of list, bound -/
theorem sup_ga {so x : Addr} {id T gid : String} {B : Builtin} {bo : Obj} {name : Str} {tk : Tok} {Q : Fin → Shared → Prop} (X : (hd.heap_39 w.params).In h) (hso : h.get? so = some (supObj x)) (hxC : x ≠ 122) (hn : (name == ("__class__" : Str)) = false)
    (ho : builtinOwn "list" name = some (.builtin id)) (hT : typeOf (.builtin id) = pure (.type T)) (hsl : Slot T "__get__" gid) (hen : entryFor table gid = some B) (har : argsOk gid ⟨[.builtin id, .ref x, .ref 122], []⟩)
    (hget : ∀ (A' : Around) (E' : Value → Shared → Prop) (Q' : Fin → Shared → Prop), Q' (.done (.ret (.ref h.objs.size))) ⟨h.push bo, g, d, t, os⟩ → wpAny (model prog w) A' (B ⟨[.builtin id, .ref x, .ref 122], []⟩) Q' E' ⟨h, g, d, t, os⟩)
    (hq : Q (.done (.ret (.ref h.objs.size))) ⟨h.push bo, g, d, t, os⟩) :
    wpAny (model prog w) A (Builtin.«super.__getattribute__» ⟨[.ref so, .str name tk], []⟩) Q E ⟨h, g, d, t, os⟩ := by
  have hlk := hsl.lookup
  have hno : Looks (model prog w) h (opaqueClassAbove (.ref 122)) none := looks_opaque X (by k_is)
  have hC : Looks (model prog w) h (mroOf (.ref 122)) [.ref 122, .type "list", .type "object"] := Looks.of_peek X (by kernel_rfl)
  have hne : (Value.ref x == Value.ref 122) = false := by simp [hxC]
  have hdt : (supObj x).data = .fields #[.ref 122, .ref x, .ref 122] := rfl
  have f0 : (#[.ref 122, .ref x, .ref 122] : Array Value)[0]? = some (.ref 122) := rfl
  have f1 : (#[.ref 122, .ref x, .ref 122] : Array Value)[1]? = some (.ref x) := rfl
  have f2 : (#[.ref 122, .ref x, .ref 122] : Array Value)[2]? = some (.ref 122) := rfl
  have hTf : (⟨h, g, d, t, os⟩ : Shared).TypeIs (.builtin id) T := hT
  have hco : classOwn (.type "list") name = pure (some (.builtin id)) := by show pure _ = _; rw [ho]
  have hdw : ([.ref 122, .type "list", .type "object"] : List Value).dropWhile (· != Value.ref 122) = [.ref 122, .type "list", .type "object"] := rfl
  unfold Builtin.«super.__getattribute__»
  repeat (first
    | (with_reducible refine wpAny_field hso hdt f0 ?_) | (with_reducible refine wpAny_field hso hdt f1 ?_) | (with_reducible refine wpAny_field hso hdt f2 ?_)
    | (with_reducible refine ks_wpAny_notOpaque hno ?_)
    | (with_reducible refine Looks.at hC ?_; rw [hdw])
    | (with_reducible refine wpAny_typeOf hTf ?_)
    | (with_reducible refine wpAny_call_entry hsl hTf hen ?_ har)
    | (with_reducible refine hget _ _ _ ⟨_, rfl, ?_⟩)
    | (simp only [hn, hne, Bool.or_false, Bool.false_eq_true, if_false])
    | wp_step
    | dsimp only)
  all_goals exact hq

end

end Mine

/-! ## L15 -/
namespace Mine
open PySem PySem.W PyProof.Rows PySem.Calls
open Sem (wp)
open Builtin Builtin.Str Builtin.Int
set_option maxRecDepth 100000
set_option maxHeartbeats 8000000
section
variable {prog : Program} {w : World} {A : Around} {E : Value → Shared → Prop} {s : Shared} {h : Heap} {g : Array GenState} {d : Drawn} {t : Nat} {os : OsState}

theorem sup_getMethod {so x : Addr} {id T gid : String} {B : Builtin} {bo : Obj} {name : Str} {pl : Sem Bool} {Q : Value × List Value → Shared → Prop} (X : (hd.heap_39 w.params).In h) (hso : h.get? so = some (supObj x)) (hxC : x ≠ 122) (hn : (name == ("__class__" : Str)) = false)
    (ho : builtinOwn "list" name = some (.builtin id)) (hT : typeOf (.builtin id) = pure (.type T)) (hsl : Slot T "__get__" gid) (hen : entryFor table gid = some B) (har : argsOk gid ⟨[.builtin id, .ref x, .ref 122], []⟩)
    (hget : ∀ (t' : Nat) (A' : Around) (E' : Value → Shared → Prop) (Q' : Fin → Shared → Prop), Q' (.done (.ret (.ref h.objs.size))) ⟨h.push bo, g, d, t', os⟩ → wpAny (model prog w) A' (B ⟨[.builtin id, .ref x, .ref 122], []⟩) Q' E' ⟨h, g, d, t', os⟩)
    (hq : Q (.ref h.objs.size, []) ⟨h.push bo, g, d, t + 1, os⟩) :
    wpAny (model prog w) A (getMethod (.ref so) name pl) Q E ⟨h, g, d, t, os⟩ := by
  have hlk := F.ks_slot_super_ga.lookup
  have hcan := F.ks_canon_super_ga
  have hT' : ∀ t', (⟨h, g, d, t', os⟩ : Shared).TypeIs (.ref so) "super" := fun _ => ⟨_, hso, rfl⟩
  unfold getMethod
  refine wpAny_bind (wpAny_specialOf (hT' _) hlk ?_)
  show wpAny _ _ (if (Manifest.canonical "super.__getattribute__" != "object.__getattribute__") = true then _ else _) _ _ _
  rw [if_pos hcan]
  unfold getAttr getAttrBy
  refine wpAny_bind (wpAny_bind (wpAny_mkText (wpAny_holding (wpAny_bind (wpAny_typeOf (hT' _) (wpAny_bind (wpAny_of_eq hlk ?_)))))))
  show wpAny _ _ (getAttrByItsOwn (.ref so) (.str name t) (.type "super") (.builtin "super.__getattribute__") true false) _ _ _
  unfold getAttrByItsOwn hookBefore callGetattribute boundAndCalled
  refine wpAny_bind (wpAny_of_eq (show (if onTheHeap (.type "super") then typeLookup (.type "super") "__getattr__" else pure none) = pure none from rfl) ?_)
  refine wpAny_bind (wpAny_attempt (wpAny_holding ?_))
  show wpAny _ _ (bindSpecial (.builtin "super.__getattribute__") (.ref so) >>= _) _ _ _
  refine wpAny_bind (wpAny_of_eq (F.ks_slot_super_ga.bind _) ?_)
  refine wpAny_mono (Q := fun v s' => v = .ref h.objs.size ∧ s' = ⟨h.push bo, g, d, t + 1, os⟩) (E := fun _ _ => False)
    (wpAny_call_entry F.ks_slot_super_ga (hT' _) F.ks_entry_super_ga (sup_ga X hso hxC hn ho hT hsl hen har (hget _) ⟨_, rfl, rfl, rfl⟩) (F.ks_gaArgs_super _ _)) (fun v s' hv => ?_) fun _ _ z => z.elim
  obtain ⟨rfl, rfl⟩ := hv
  exact wpAny_pure (wpAny_pure hq)

theorem bound_call {b x : Addr} {id T : String} {B : Builtin} {Q : Value → Shared → Prop} (hb : s.heap.get? b = some { cls := .type T, data := .fields #[.builtin id, .ref x] }) (hTm : T = "builtin_function_or_method" ∨ T = "method-wrapper")
    (hck : Looks (model prog w) s.heap (checkBoundCall id ⟨[.ref x], []⟩) ()) (hp : plainId id = true) (hen : entryFor table id = some B)
    (hc : wpAny (model prog w) A.in1 (B ⟨[.ref x], []⟩) (fun fin s' => ∃ v, fin = .done (.ret v) ∧ Q v s') E s) :
    wpAny (model prog w) A (call (.ref b) []) Q E s := by
  refine wpAny_call (codeAny_of_tree ?_)
  show wpAny _ A.in1 (callAny (.ref b) _) _ _ _
  unfold callAny
  refine wpAny_bind (wpAny_load hb ?_)
  have e : codeAny (model prog w) A (.builtin id ⟨[.ref x], []⟩) (wants Q E) s := by
    refine codeAny_builtin hen ?_
    rw [Around.under_plainId hp _]
    exact wpAny_mono hc (fun fin s' h' => by obtain ⟨v, rfl, hv⟩ := h'; exact hv) fun _ _ h' => h'
  rcases hTm with rfl | rfl
  · show wpAny _ _ (checkBoundCall id ⟨[.ref x], []⟩ >>= fun _ => again (.builtin id ⟨[.ref x], []⟩)) _ _ _
    exact wpAny_bind (hck.here (wpAny_pure ⟨plainId_quiet hp _, e⟩))
  · show wpAny _ _ (checkBoundCall id ⟨[.ref x], []⟩ >>= fun _ => again (.builtin id ⟨[.ref x], []⟩)) _ _ _
    exact wpAny_bind (hck.here (wpAny_pure ⟨plainId_quiet hp _, e⟩))
end

end Mine

/-! ## L16 -/
namespace Mine
open PySem PySem.W PyProof.Rows PySem.Calls
open Sem (wp)
open Builtin Builtin.Str Builtin.Int
set_option maxRecDepth 100000
set_option maxHeartbeats 8000000
section
variable {prog : Program} {w : World} {A : Around} {E : Value → Shared → Prop} {s : Shared} {p : Program} {loose : List Str} {mg mb : Str → Option Value}

theorem sup_node {body : List Stmt} {q : Str} {scope : Scope} {p0 p1 : Pos} {attr : Str} {whole : Sem Value} {fd : FuncData} {ar : Arg} {vs : Array Value} {tf : Tok} {oc ccl : Value} {od cdd : Option Addr} {osl ccs : Array (Option Value)} {f cda L x dx : Addr} {its : Array Value} {n : Nat} {od' : Obj} {m : Str → Option Value} {Q : Value → Shared → Prop}
    (hn : s.heap.Ns L m) (X : (hd.heap_39 w.params).In s.heap) (T : TopRead p loose mg mb s.heap)
    (hf : (hd.heap_39 w.params).lookup f = some ⟨oc, od, .func fd, osl⟩) (hp : (fd.params.posonlyargs ++ fd.params.args).head? = some ar) (hv : m ar.arg = some (.ref x)) (I : InstAt s.heap x (accObj dx its n) 122 (some od'))
    (hcode : (hd.heap_39 w.params).lookup cda = some ⟨ccl, cdd, .fields vs, ccs⟩) (hvs : vs[2]? = some (.str (Str.ofString "/claim/cut.py") tf)) (hfile : ((prog.main.file : Str) == Str.ofString "/claim/cut.py") = true)
    (hat : (attr == ("__class__" : Str)) = false) (hks : scope.names.lookup ("super" : Str) = some .globalImplicit) (hkc : scope.names.lookup ("__class__" : Str) = some .free) (hka : scope.names.lookup ar.arg = some .local) (hk : scope.kind = .function)
    (htop : (prog.main.scope.names.lookup ("super" : Str)).isSome = false)
    (h : ∀ h', h'.get? s.heap.objs.size = some (supObj x) → (∀ b o, s.heap.get? b = some o → h'.get? b = some o) → Q (.ref s.heap.objs.size) { s with heap := h' }) :
    _root_.PySem.wpAt (model prog w) A (.func body (ksEnv q scope L f (.ref cda) 46)) (attributeBase (.Call (.Name "super" p0) [] [] p1) attr (ksEnv q scope L f (.ref cda) 46) whole) Q E s := by
  have hsup : nsIn (hd.heap_39 w.params) mainGlobals "super" = some none := by k_is
  have hboot : bootBuiltins "super" = some (.type "super") := by boot_by_name
  have hne : ("super" : Str) ≠ "__name__" := by decide +kernel
  have hsub : mroIn (hd.heap_39 w.params) 122 (.ref 122) = some true := by k_is
  obtain ⟨hh, g, d, t, os⟩ := s
  obtain ⟨o122, cd, hC, hCd⟩ : ∃ o cd, hh.get? 122 = some o ∧ o.data = .cls cd := ⟨_, _, X 122 _ rfl, rfl⟩
  have hcell : ∃ o, hh.get? 46 = some o ∧ o.data = .cell (some (.ref 122)) := ⟨_, X 46 _ rfl, rfl⟩
  refine ks_wpAt_super_base (env := ksEnv q scope L f (.ref cda) 46) hks hkc hat rfl (X _ _ hf) rfl hp rfl (X _ _ hcode) rfl hvs hfile htop ?_
  refine ks_loadName_global hk hks (loadGlobal_builtin (env := ksEnv q scope L f (.ref cda) 46) T.g (mg_none_of X T.g hsup) T.b ((T.builtins _ hne).trans hboot) ⟨rfl, ?_⟩)
  refine wpAny_loadName_free hk hkc rfl hcell ?_
  refine wpAny_loadName_local hk hka hn hv ?_
  refine ks_wpAny_isType_cls hC hCd ⟨rfl, ?_⟩
  exact ks_wpAny_call_super hC hCd I.at_ I.cls (fun c e => by cases e) (looks_mroIn X hsub) fun h' e k => h h' e k

theorem callWith_ref0 {pos : Pos} {u : Addr} {bo : Obj} {env : Env} {Q : Value → Shared → Prop} (hu : s.heap.get? u = some bo) (hd : ∃ vs, bo.data = .fields vs) (hc : bo.cls = .type "builtin_function_or_method" ∨ bo.cls = .type "method-wrapper")
    (h : wpAny (model prog w) A (call (.ref u) []) Q E s) : wpAny (model prog w) A (callWith pos (.ref u) [] (backTo pos (starEach [] env)) []) Q E s := by
  obtain ⟨vs, hd⟩ := hd
  unfold callWith
  refine wpAny_bind (wpAny_holding ?_)
  show wpAny _ _ (evalArgs (.ref u) true [] []) _ _ _
  refine wpAny_of_eq (a := ⟨[], []⟩) (by rfl) ?_
  refine wpAny_bind (wpAny_standAt ?_)
  refine wpAny_bind (m := keeperOf (.ref u)) ?_
  unfold keeperOf
  refine wpAny_bind (wpAny_load hu ?_)
  have c1 : (bo.cls != .type "method") = true := by rcases hc with h | h <;> rw [h] <;> decide
  have c2 : (bo.cls == .type "builtin_function_or_method" || bo.cls == .type "method-wrapper") = true := by rcases hc with h | h <;> rw [h] <;> decide
  simp only [hd, c1, c2, if_true]
  refine wpAny_pure ?_
  exact wpAny_bind (wpAny_mono h (fun r s₂ hr => wpAny_bind (wpAny_holding (wpAny_point (wpAny_pure hr)))) fun _ _ x => x)
end

end Mine

/-! ## L17 -/
namespace Mine
open PySem PySem.W PyProof.Rows PySem.Calls
open Sem (wp)
open Builtin Builtin.Str Builtin.Int Builtin.ObjectAttr
set_option maxRecDepth 100000
set_option maxHeartbeats 8000000
section
variable {prog : Program} {w : World} {A : Around} {E : Value → Shared → Prop} {s : Shared} {p : Program} {loose : List Str} {mg mb : Str → Option Value}

theorem sa_bind (self : Value) : bindSpecial (.builtin "object.__setattr__") self = pure (.builtin "object.__setattr__", [self]) := by
  exact (Slot.of (T := "object") (name := "__setattr__") (owner := "object") (n := "__setattr__") (by rw [typeLookup_type, builtinLookup_eq_fast]; kernel_rfl) (by decide +kernel) (by decide +kernel) (by decide +kernel)
    (.inl (by decide +kernel)) (by rw [isSubtype_type]; kernel_rfl)).bind self

theorem acc_setAttr {x dx : Addr} {its : Array Value} {n : Nat} {Q : Unit → Shared → Prop} (X : (hd.heap_39 w.params).In s.heap) (I : InstAt s.heap x (accObj dx its n) 122 (some emptyDict))
    (hQ : ∀ h' tk tk', Heap.SameBut dx s.heap h' → h'.get? dx = some (accDict w.params tk' 1) → Q () { s with heap := h', toks := tk }) :
    wpAny (model prog w) A (setAttr (.ref x) "_initial_size" (.int 0 262)) Q E s := by
  have L0 := I.type (M := model prog w)
  have L1 := looks_findIn (M := model prog w) (t := .ref 122) (name := "__setattr__") (r := some (.builtin "object.__setattr__")) X (by k_is)
  have L2 := looks_findIn (M := model prog w) (t := .ref 122) (name := "_initial_size") (r := none) X (by k_is)
  have L3 : Looks (model prog w) s.heap (mroOf (.ref 122)) [.ref 122, .type "list", .type "object"] := Looks.of_peek X (by kernel_rfl)
  have L4 : Looks (model prog w) s.heap (isInstance (.ref x) (.type "object")) true := I.type.andThen (looks_mroIn X (by k_is))
  have L5 : refuseLoop (.ref x) "__setattr__" [.ref 122, .type "list", .type "object"] = pure () := by rw [refuseLoop_ref]; kernel_rfl
  have SF := PySem.F.store_object
  have hdx : s.heap.get? dx = some emptyDict := I.dict
  have hx := I.at_
  obtain ⟨hh, g, d, t, os⟩ := s
  unfold setAttr callSpecial? specialOf
  refine wpAny_bind (wpAny_mkText (wpAny_bind (wpAny_bind (wpAny_bind (L0.at (L1.at ?_))))))
  dsimp only
  refine wpAny_holding (wpAny_bind ?_)
  rw [sa_bind]
  refine wpAny_pure (wpAny_bind (wpAny_call ?_))
  refine codeAny_call_builtin SF.slot.plain SF.entry (@check_slot (model prog w) _ _ _ "object.__setattr__" "object" "__setattr__" (.ref x) [.str "_initial_size" t, .int 0 262] [] _ SF.kind SF.split L4 (SF.args (.ref x) (.str "_initial_size" t) (.int 0 262)) ?_)
  show wpAny _ _ («object.__setattr__» ⟨[.ref x, .str "_initial_size" t, .int 0 262], []⟩) _ _ _
  rw [osa_eq, refuse_eq]
  refine wpAny_bind (wpAny_bind (L0.at (wpAny_bind (L3.at ?_))))
  rw [L5]
  refine wpAny_pure (wpAny_bind (L0.at (wpAny_bind (L2.at ?_))))
  refine wpAny_bind (m := storeTaker? none) (wpAny_pure ?_)
  obtain ⟨o122, cd, hC, hCd, hhd⟩ : ∃ o cd, hh.get? 122 = some o ∧ o.data = .cls cd ∧ cd.hasDict = true := ⟨_, _, X 122 _ rfl, rfl, rfl⟩
  have Lc : Looks (model prog w) hh (classData 122) cd := fun A Q E s k q => by unfold classData; exact wpAny_bind (wpAny_load (k _ _ hC) (by rw [hCd]; exact wpAny_pure q))
  have hput : ∀ tk, (Obj.putName "_initial_size" (PyData.keyHash w.params "_initial_size") (.str "_initial_size" tk) (.int 0 262)) emptyDict = accDict w.params tk 1 := fun tk => by rfl
  refine wpAny_bind (wpAny_pure (wpAny_bind (wpAny_bind (wpAny_loadPart hx (wpAny_bind (Lc.at ?_))))))
  rw [hhd]
  refine wpAny_pure (a := some dx) (wpAny_bind (wpAny_pure (wpAny_bind ?_)))
  unfold nsSet
  refine wpAny_bind (wpAny_bind (wpAny_askSetting (wpAny_pure (wpAny_bind (wpAny_mkText (wpAny_bind (wpAny_loadPart hdx ?_)))))))
  show wpAny _ _ (if aRefKeyMayBeTheName "_initial_size" #[] = true then _ else _) _ _ _
  rw [aRefKeyMayBeTheName_at]
  rw [if_neg (show ¬ (((!(#[] : Array DictEntry).any fun x => x.key.isStr "_initial_size") && (#[] : Array DictEntry).any fun x => x.refKey) = true) from by simp)]
  refine wpAny_updatePart hdx ?_
  have hget := Heap.get?_update_self (Obj.putName "_initial_size" (PyData.keyHash w.params "_initial_size") (.str "_initial_size" (t + 1)) (.int 0 262)) hdx (by rw [hput]; rfl)
  rw [hput] at hget
  refine wpAny_bind (wpAny_lookBehind hget (pastItsLine_dict (show 1 ≤ sizeLine + 1 by decide)) ?_)
  refine wpAny_pure (wpAny_pure (wpAny_pure ?_))
  exact hQ _ _ _ (Heap.SameBut.update ..) hget
end

end Mine

/-! ## L18 -/
namespace Mine
open PySem PySem.W PyProof.Rows PySem.Calls
open Sem (wp)
open Builtin Builtin.Str Builtin.Int Builtin.ObjectAttr
set_option maxRecDepth 100000
set_option maxHeartbeats 8000000
section
variable {prog : Program} {w : World} {A : Around} {E : Value → Shared → Prop} {s : Shared} {p : Program} {loose : List Str} {mg mb : Str → Option Value}

theorem acc_setAttrF {x dx L : Addr} {its : Array Value} {n : Nat} {h₀ : Heap} {m : Str → Option Value} {Q : Unit → Shared → Prop} (F : Fr h₀ L s.heap m) (N : News h₀ L s.heap [(x, accObj dx its n), (dx, emptyDict)]) (X : (hd.heap_39 w.params).In h₀) (hxd : x ≠ dx)
    (hQ : ∀ h' tk tk', Fr h₀ L h' m → News h₀ L h' [(x, accObj dx its n), (dx, accDict w.params tk' 1)] → Q () { s with heap := h', toks := tk }) :
    wpAny (model prog w) A (setAttr (.ref x) "_initial_size" (.int 0 262)) Q E s := by
  have hx := N _ (.head _)
  have hdx := N _ (.tail _ (.head _))
  refine acc_setAttr (X.keeps F.keep) (accInst hx.1 hdx.1) fun h' tk tk' hs hd' => hQ h' tk tk' (F.change hs hdx.2.1 hdx.2.2) fun q hq => ?_
  rcases List.mem_cons.mp hq with rfl | hq
  · exact ⟨(hs.2 _ hxd).trans hx.1, hx.2⟩
  · obtain rfl := List.mem_singleton.mp hq
    exact ⟨hd', hdx.2⟩

theorem init_bound (a : Value) : checkBoundCall "list.__init__" ⟨[a], []⟩ = pure () := by kernel_rfl

theorem acc_init {R : Result → Shared → Prop} {x dx : Addr} {h₀ : Heap} (sub : ∀ b o, h₀.get? b = some o → s.heap.get? b = some o) (sz : h₀.objs.size ≤ s.heap.objs.size)
    (hx : s.heap.get? x = some (accObj dx #[] 0)) (hx0 : h₀.get? x = none) (hdx : s.heap.get? dx = some emptyDict) (hdx0 : h₀.get? dx = none) (X : (hd.heap_39 w.params).In h₀) (T : TopRead p loose mg mb h₀) (hA : A.handled = none) (hroom : A.depth < recursionLimit)
    (hfile : ((prog.main.file : Str) == Str.ofString "/claim/cut.py") = true) (htop : (prog.main.scope.names.lookup ("super" : Str)).isSome = false)
    (hR : ∀ h' tk tk', (∀ b o, h₀.get? b = some o → h'.get? b = some o) → h'.get? x = some (accObj dx #[] 0) → h'.get? dx = some (accDict w.params tk' 1) → R (.ok (.ret .none)) { s with heap := h', toks := tk }) :
    codeAny (model prog w) A (.call (.ref 59) ⟨[.ref x], []⟩) R s := by
  obtain ⟨hd0, d0, fr0, g0, u0⟩ := A
  cases hA
  have hxd : x ≠ dx := by rintro rfl; rw [hx] at hdx; cases hdx
  have hx122 : x ≠ 122 := by
    rintro rfl
    rw [X 122 _ rfl] at hx0
    cases hx0
  refine' enter_raw (h₀ := h₀) (news := [(x, accObj dx #[] 0), (dx, emptyDict)]) (binds := [(Str.ofString "self", .ref x), (Str.ofString "initial_size", .int 0 262)]) sub sz ?kN X T ?k6 ?k7 hroom ?k9 ?kB ?_ ?c5 ?c2 ?c3 ?c4
  case kN =>
    intro q hq
    rcases List.mem_cons.mp hq with rfl | hq
    · exact ⟨hx, hx0⟩
    · obtain rfl := List.mem_singleton.mp hq
      exact ⟨hdx, hdx0⟩
  case k6 => k_is
  case k7 => k_is
  case k9 => exact BindsTo.of_defaults (T := 51) (o := { cls := .type "tuple", data := .seq #[.int 0 262] }) rfl (sub _ _ (X 51 _ rfl)) rfl rfl rfl
  case kB => exact locs rfl
  case c5 => decide
  case c2 => exact rfl
  case c3 => exact rfl
  case c4 => exact rfl
  intro L' h₁ F₁ N₁
  try dsimp only
  have b1 : (("self" : Str) == ("__debug__" : Str)) = false := by decide +kernel
  have b2 : (("initial_size" : Str) == ("__debug__" : Str)) = false := by decide +kernel
  refine ks_wpAt_execs_cons (ks_wpAt_Assign_Attr (wpAt_of_wpAny (g_local F₁.ns (v := .int 0 262) rfl rfl rfl b2 (g_local F₁.ns (v := .ref x) rfl rfl rfl b1 ?_))))
  refine acc_setAttrF F₁ N₁ X hxd fun h₂ tk₂ tk₂' F₂ N₂ => ?_
  dsimp only
  have X₂ := X.keeps F₂.keep
  have T₂ := T.keeps F₂.keep
  have hx₂ := (N₂ _ (.head _)).1
  have hd₂ := (N₂ _ (.tail _ (.head _))).1
  refine ks_wpAt_execs_cons (ks_wpAt_Expr_any (ks_wpAt_MethodCall ?_))
  have b3 : (("__init__" : Str) == ("__class__" : Str)) = false := by decide +kernel
  refine' sup_node (f := 59) (cda := 58) (attr := Str.ofString "__init__") (x := x) (L := L') F₂.ns X₂ T₂ ?kf ?kp ?kv (accInst hx₂ hd₂) ?kc ?kvs hfile b3 rfl rfl ?ka rfl htop fun h₃ hso hk₃ => ?_
  case kf => exact rfl
  case kp => exact rfl
  case kv => exact rfl
  case kc => exact rfl
  case kvs => exact rfl
  case ka => exact rfl
  dsimp only
  have hs : h₂.objs.size < h₃.objs.size := Heap.lt_size hso
  have L₃ : Looks (model prog w) h₃ (isInstance (.ref x) (.type "list")) true := accIsList (X₂.keeps hk₃) (accInst (hk₃ _ _ hx₂) (hk₃ _ _ hd₂))
  refine sup_getMethod (id := "list.__init__") (T := "wrapper_descriptor") (gid := "wrapper_descriptor.__get__") (B := Builtin.«wrapper_descriptor.__get__») (bo := { cls := .type "method-wrapper", data := .fields #[.builtin "list.__init__", .ref x] }) (X₂.keeps hk₃) hso hx122 b3 (by kernel_rfl) (by kernel_rfl) slot_mw_get entry_mw_get (mw_args _ _ _)
    (fun t' A' E' Q' hq => get_mw (by decide +kernel) L₃ hq) ?_
  dsimp only
  refine callWith_ref0 (bo := { cls := .type "method-wrapper", data := .fields #[.builtin "list.__init__", .ref x] }) (Heap.get?_push_size _ rfl) ⟨_, rfl⟩ (.inr rfl) ?_
  refine bound_call (id := "list.__init__") (T := "method-wrapper") (Heap.get?_push_size _ rfl) (.inr rfl) (Looks.of_pure (init_bound _)) (by decide +kernel) F.entry_list_init ?_
  have hx₄ := Heap.get?_push_of_some { cls := .type "method-wrapper", data := .fields #[.builtin "list.__init__", .ref x] } (hk₃ _ _ hx₂)
  have hd₄ := Heap.get?_push_of_some { cls := .type "method-wrapper", data := .fields #[.builtin "list.__init__", .ref x] } (hk₃ _ _ hd₂)
  dsimp only at hx₄ hd₄
  show wpAny _ _ (Builtin.List.listItems (.ref x) >>= fun old => Builtin.List.listUpdate (.ref x) (fun _ => #[]) >>= fun _ => letGo old.toList.reverse >>= fun _ => ret .none) _ _ _
  refine wpAny_bind (wpAny_listItems hx₄ rfl ?_)
  have e : Obj.mapSeq (fun _ => #[]) (accObj dx #[] 0) = accObj dx #[] 0 := rfl
  refine wpAny_bind (wpAny_updateSeq hx₄ rfl ?_ (by decide) (by decide))
  refine wpAny_bind (wpAny_letGo ?_)
  refine wpAny_pure ⟨_, rfl, wpAt_of_wpAny (wpAny_execs_nil ?_)⟩
  have hget := Heap.get?_update_self (Obj.mapSeq (fun _ => #[])) hx₄ (by rw [e]; rfl)
  rw [e] at hget
  have hsb : Heap.SameBut x (h₃.push { cls := .type "method-wrapper", data := .fields #[.builtin "list.__init__", .ref x] }) _ := Heap.SameBut.update _ x (Obj.mapSeq (fun _ => #[]))
  refine hR _ _ tk₂' (fun b o e => ?_) hget ((hsb.2 _ hxd.symm).trans hd₄)
  have hbx : b ≠ x := by rintro rfl; rw [hx0] at e; cases e
  exact (hsb.2 _ hbx).trans (Heap.get?_push_of_some _ (hk₃ _ _ (F₂.keep _ _ e)))
end

end Mine

/-! ## L19 -/
namespace Mine
open PySem PySem.W PyProof.Rows PySem.Calls
open Sem (wp)
open Builtin Builtin.Str Builtin.Int Builtin.ObjectAttr
set_option maxRecDepth 100000
set_option maxHeartbeats 8000000
section
variable {prog : Program} {w : World} {A : Around} {E : Value → Shared → Prop} {s : Shared} {p : Program} {loose : List Str} {mg mb : Str → Option Value}

/-- an accumulator and what it holds -/
def Acc (P : Params) (h : Heap) (x dx : Addr) (ps : List (Str × Str)) : Prop :=
  ∃ its n tk k, h.get? x = some (accObj dx its n) ∧ h.get? dx = some (accDict P tk k) ∧ Pairs2 h its ps

theorem acc_new {Q : Value → Shared → Prop} (X : (hd.heap_39 w.params).In s.heap) (T : TopRead p loose mg mb s.heap) (hA : A.handled = none) (hroom : A.depth + 2 < recursionLimit)
    (hfile : ((prog.main.file : Str) == Str.ofString "/claim/cut.py") = true) (htop : (prog.main.scope.names.lookup ("super" : Str)).isSome = false)
    (hQ : ∀ h' tk x dx, (∀ b o, s.heap.get? b = some o → h'.get? b = some o) → s.heap.get? x = none → s.heap.get? dx = none → s.heap.objs.size ≤ x → x < h'.objs.size → Acc w.params h' x dx [] → Q (.ref x) { s with heap := h', toks := tk }) :
    wpAny (model prog w) A (call (.ref 122) []) Q E s := by
  obtain ⟨h, g, d, t, os⟩ := s
  refine wpAny_call (acc_make X ?_)
  have k : ∀ b o, h.get? b = some o → ((h.push emptyDict).push (accObj h.objs.size #[] 0)).get? b = some o := fun b o e => Heap.get?_push_of_some _ (Heap.get?_push_of_some _ e)
  have hx : ((h.push emptyDict).push (accObj h.objs.size #[] 0)).get? (h.objs.size + 1) = some (accObj h.objs.size #[] 0) := by rw [← Heap.size_push h emptyDict]; exact Heap.get?_push_size _ rfl
  have hdx : ((h.push emptyDict).push (accObj h.objs.size #[] 0)).get? h.objs.size = some emptyDict := Heap.get?_push_of_some _ (Heap.get?_push_size _ rfl)
  have none_ge : ∀ a, h.objs.size ≤ a → h.get? a = none := fun a ha => by
    cases e : h.get? a with
    | none => rfl
    | some o => exact absurd (Heap.lt_size e) (Nat.not_lt.mpr ha)
  refine acc_init (s := ⟨_, g, d, t, os⟩) k (by simp only [Heap.size_push]; omega) hx (none_ge _ (Nat.le_succ _)) hdx (none_ge _ (Nat.le_refl _)) X T hA ?_ hfile htop fun h' tk tk' k' hx' hd' => ?_
  · simp only [depth_under_make]; omega
  · exact ⟨rfl, hQ h' tk _ _ k' (none_ge _ (Nat.le_succ _)) (none_ge _ (Nat.le_refl _)) (Nat.le_succ _) (Heap.lt_size hx') ⟨_, _, _, _, hx', hd', rfl, fun i q e => by simp at e⟩⟩

theorem len_bound (a : Value) : checkBoundCall "list.__len__" ⟨[a], []⟩ = pure () := by kernel_rfl

theorem part_count_call {x dx : Addr} {its : Array Value} {n : Nat} {tk₀ : Tok} {k₀ : Nat} {Q : Value → Shared → Prop} (hx : s.heap.get? x = some (accObj dx its n)) (hdx : s.heap.get? dx = some (accDict w.params tk₀ k₀))
    (X : (hd.heap_39 w.params).In s.heap) (T : TopRead p loose mg mb s.heap) (hA : A.handled = none) (hroom : A.depth < recursionLimit)
    (hfile : ((prog.main.file : Str) == Str.ofString "/claim/cut.py") = true) (htop : (prog.main.scope.names.lookup ("super" : Str)).isSome = false)
    (hQ : ∀ h' tk t, (∀ b o, s.heap.get? b = some o → h'.get? b = some o) → Q (.int its.size t) { s with heap := h', toks := tk }) :
    wpAny (model prog w) A (call (.ref 119) [.ref x]) Q E s := by
  obtain ⟨hd0, d0, fr0, g0, u0⟩ := A
  cases hA
  have hx122 : x ≠ 122 := by
    rintro rfl
    rw [X 122 _ rfl] at hx
    cases hx
  refine wpAny_call ?_
  refine' enter_raw (h₀ := s.heap) (news := []) (binds := [(Str.ofString "self", .ref x)]) (fun _ _ e => e) (Nat.le_refl _) (fun _ h => nomatch h) X T ?k6 ?k7 hroom ?k9 ?kB ?_ ?c5 ?c2 ?c3 ?c4
  case k6 => k_is
  case k7 => k_is
  case k9 => exact BindsTo.of_eq rfl
  case kB => exact locs rfl
  case c5 => decide
  case c2 => exact rfl
  case c3 => exact rfl
  case c4 => exact rfl
  intro L' h₁ F₁ N₁
  try dsimp only
  have b3 : (("__len__" : Str) == ("__class__" : Str)) = false := by decide +kernel
  have X₁ := X.keeps F₁.keep
  have hx₁ := F₁.keep _ _ hx
  have hd₁ := F₁.keep _ _ hdx
  refine ks_wpAt_execs_cons (ks_wpAt_Return_some (ks_wpAt_MethodCall ?_))
  refine' sup_node (f := 119) (cda := 118) (attr := Str.ofString "__len__") (x := x) (L := L') F₁.ns X₁ (T.keeps F₁.keep) ?kf ?kp ?kv (accInst hx₁ hd₁) ?kc ?kvs hfile b3 rfl rfl ?ka rfl htop fun h₃ hso hk₃ => ?_
  case kf => exact rfl
  case kp => exact rfl
  case kv => exact rfl
  case kc => exact rfl
  case kvs => exact rfl
  case ka => exact rfl
  dsimp only
  have L₃ : Looks (model prog w) h₃ (isInstance (.ref x) (.type "list")) true := accIsList (X₁.keeps hk₃) (accInst (hk₃ _ _ hx₁) (hk₃ _ _ hd₁))
  refine sup_getMethod (id := "list.__len__") (T := "wrapper_descriptor") (gid := "wrapper_descriptor.__get__") (B := Builtin.«wrapper_descriptor.__get__») (bo := { cls := .type "method-wrapper", data := .fields #[.builtin "list.__len__", .ref x] }) (X₁.keeps hk₃) hso hx122 b3 (by kernel_rfl) (by kernel_rfl) slot_mw_get entry_mw_get (mw_args _ _ _)
    (fun t' A' E' Q' hq => get_mw (by decide +kernel) L₃ hq) ?_
  dsimp only
  refine callWith_ref0 (bo := { cls := .type "method-wrapper", data := .fields #[.builtin "list.__len__", .ref x] }) (Heap.get?_push_size _ rfl) ⟨_, rfl⟩ (.inr rfl) ?_
  refine bound_call (id := "list.__len__") (T := "method-wrapper") (Heap.get?_push_size _ rfl) (.inr rfl) (Looks.of_pure (len_bound _)) (by decide +kernel) F.entry_list_len ?_
  have hx₄ := Heap.get?_push_of_some { cls := .type "method-wrapper", data := .fields #[.builtin "list.__len__", .ref x] } (hk₃ _ _ hx₁)
  show wpAny _ _ (seqSize x >>= fun k => (mkInt k >>= fun v => ret v)) _ _ _
  unfold seqSize
  refine wpAny_bind (wpAny_bind (wpAny_loadPart hx₄ (wpAny_pure ?_)))
  refine wpAny_bind (wpAny_mkInt (wpAny_pure ⟨_, rfl, ?_⟩))
  exact hQ _ _ _ fun b o e => Heap.get?_push_of_some _ (hk₃ _ _ (F₁.keep _ _ e))
end

end Mine

/-! ## L20 -/
namespace Mine
open PySem PySem.W PyProof.Rows PySem.Calls
open Sem (wp)
open Builtin Builtin.Str Builtin.Int Builtin.ObjectAttr
set_option maxRecDepth 100000
set_option maxHeartbeats 8000000
section
variable {prog : Program} {w : World} {A : Around} {E : Value → Shared → Prop} {s : Shared} {p : Program} {loose : List Str} {mg mb : Str → Option Value}

theorem pop_erase {α : Type} (its : Array α) (h : its.size ≠ 0) : its.eraseIdxIfInBounds (its.size - 1) = its.pop := by
  have hp : its.size - 1 < its.size := by omega
  unfold Array.eraseIdxIfInBounds
  rw [dif_pos hp]
  apply Array.ext'
  rw [Array.toList_eraseIdx, Array.toList_pop, ← Array.length_toList, List.eraseIdx_length_sub_one]

theorem pop_bound {x dx : Addr} {its : Array Value} {n : Nat} {od : Obj} (X : (hd.heap_39 w.params).In s.heap) (I : InstAt s.heap x (accObj dx its n) 122 (some od)) :
    Looks (model prog w) s.heap (checkBoundCall "list.pop" ⟨[.ref x], []⟩) () := by
  have L0 := I.type (M := model prog w)
  have L1 : Looks (model prog w) s.heap (isInstance (.ref x) (.type "module")) false := I.type.andThen (looks_mroIn X (by k_is))
  have L2 : Looks (model prog w) s.heap (isType (.ref x)) false := fun A Q E s' k q => ks_wpAny_isType_inst (k _ _ I.at_) (fun c e => by cases e) q
  have L3 : Looks (model prog w) s.heap (typeOf (.ref 122)) (.type "type") := looks_typeIn X (by k_is)
  obtain ⟨o, cd, hC, hCd, hq⟩ : ∃ o cd, s.heap.get? 122 = some o ∧ o.data = .cls cd ∧ cd.qualname = Str.ofString "_Accumulator" := ⟨_, _, X 122 _ rfl, rfl, rfl⟩
  have L4 : Looks (model prog w) s.heap (classData 122) cd := fun A Q E s k q => by unfold classData; exact wpAny_bind (wpAny_load (k _ _ hC) (by rw [hCd]; exact wpAny_pure q))
  have sg : ∃ sig, Manifest.signature? "list.pop" = some sig ∧ Bind.checkArgs "list.pop" { sig with full := s!"{"_Accumulator"}.{Bind.lastOf "list.pop"}" } ⟨[.ref x], []⟩ = pure () := ⟨_, rfl, by kernel_rfl⟩
  obtain ⟨sig, hs, hck⟩ := sg
  have hk : builtinKind "list.pop" = some .method := by decide +kernel
  have hv : Manifest.varargsMethods.contains "list.pop" = false := by decide +kernel
  have hqn : cd.qualname.toString = "_Accumulator" := by rw [hq]; decide +kernel
  unfold checkBoundCall
  simp only [hs, hk]
  rw [if_neg (by decide)]
  refine L1.andThen ?_
  rw [hv]
  simp only [Bool.or_false, Bool.false_eq_true, if_false]
  refine L2.andThen ?_
  simp only [Bool.false_eq_true, if_false]
  refine L0.andThen ?_
  dsimp only
  refine L4.andThen (L3.andThen ?_)
  rw [if_pos (by rfl), hqn]
  exact Looks.of_pure hck

theorem part_count_callF {x dx L : Addr} {its : Array Value} {n : Nat} {tk₀ : Tok} {k₀ : Nat} {h₀ : Heap} {m : Str → Option Value} {Q : Value → Shared → Prop} (F : Fr h₀ L s.heap m) (N : News h₀ L s.heap [(x, accObj dx its n)]) (hdx : h₀.get? dx = some (accDict w.params tk₀ k₀))
    (X : (hd.heap_39 w.params).In h₀) (T : TopRead p loose mg mb h₀) (hA : A.handled = none) (hroom : A.depth < recursionLimit)
    (hfile : ((prog.main.file : Str) == Str.ofString "/claim/cut.py") = true) (htop : (prog.main.scope.names.lookup ("super" : Str)).isSome = false)
    (hQ : ∀ h' tk t, Fr h₀ L h' m → News h₀ L h' [(x, accObj dx its n)] → Q (.int its.size t) { s with heap := h', toks := tk }) :
    wpAny (model prog w) A (call (.ref 119) [.ref x]) Q E s :=
  part_count_call (N _ (.head _)).1 (F.keep _ _ hdx) (X.keeps F.keep) (T.keeps F.keep) hA hroom hfile htop fun h' tk t k => hQ h' tk t ⟨F.ns.keeps k, fun b o e => k b o (F.keep b o e), F.above⟩ fun q hq => ⟨k _ _ (N q hq).1, (N q hq).2⟩

/-- how a test ends that tells no -/
def TestNo (h₀ : Heap) (L : Addr) (m : Str → Option Value) (news : List (Addr × Obj)) (s : Shared) (b : Bool) (s' : Shared) : Prop :=
  b = false ∧ ∃ h' tk, s' = { s with heap := h', toks := tk } ∧ Fr h₀ L h' m ∧ News h₀ L h' news

local macro_rules | `(tactic| walk_at "getMethod ref") => `(tactic| (k_here; k_dflt (refine' acc_getMethodF (T := "function") ?F ?X ?N ?m ?d ?l ?f ?T ?T2 ?_; (case F => k_asm); (case X => k_asm); (case N => k_asm); (case m => k_mem); (case d => assumption); (case l => rfl); (case f => k_is); (case T => k_is); (case T2 => decide))))

theorem pop_call {x dx : Addr} {its : Array Value} {n : Nat} {tk₀ : Tok} {k₀ : Nat} {v : Value} {Q : Value → Shared → Prop} (hx : s.heap.get? x = some (accObj dx its n)) (hdx : s.heap.get? dx = some (accDict w.params tk₀ k₀)) (hxK : (hd.heap_39 w.params).lookup x = none)
    (X : (hd.heap_39 w.params).In s.heap) (T : TopRead p loose mg mb s.heap) (hA : A.handled = none) (hroom : A.depth + 1 < recursionLimit) (hsz : its.size ≤ 1000) (hpos : its.size ≠ 0) (hv : its.back? = some v)
    (hfile : ((prog.main.file : Str) == Str.ofString "/claim/cut.py") = true) (htop : (prog.main.scope.names.lookup ("super" : Str)).isSome = false)
    (hQ : ∀ h' tk n', (∀ b o, b ≠ x → s.heap.get? b = some o → h'.get? b = some o) → h'.get? x = some (accObj dx its.pop n') → Q v { s with heap := h', toks := tk }) :
    wpAny (model prog w) A (call (.ref 82) [.ref x]) Q E s := by
  obtain ⟨hd0, d0, fr0, g0, u0⟩ := A
  cases hA
  have hx122 : x ≠ 122 := by
    rintro rfl
    rw [X 122 _ rfl] at hx
    cases hx
  have hroom' : d0 + 1 < recursionLimit := hroom
  refine wpAny_call ?_
  have hxd : x ≠ dx := by rintro rfl; rw [hx] at hdx; cases hdx
  refine' enter_raw (h₀ := hideAll s.heap [x]) (news := [(x, accObj dx its n)]) (binds := [(Str.ofString "self", .ref x)]) hide_sub (Nat.le_of_eq (hideAll_size _ _)) ?kN (hide_K X hxK) (hide_T T hx fun _ _ => by simp) ?k6 ?k7 (Nat.lt_of_succ_lt hroom) ?k9 ?kB ?_ ?c5 ?c2 ?c3 ?c4
  case kN => intro q hq; obtain rfl := List.mem_singleton.mp hq; exact ⟨hx, hideAll_none _ (.head _)⟩
  case k6 => k_is
  case k7 => k_is
  case k9 => exact BindsTo.of_eq rfl
  case kB => exact locs rfl
  case c5 => decide
  case c2 => exact rfl
  case c3 => exact rfl
  case c4 => exact rfl
  intro L' h₁ F₁ N₁
  have X₁ := hide_K X hxK
  have T₁ : TopRead p loose mg mb (hideAll s.heap [x]) := hide_T T hx fun _ _ => by simp
  have hd₁ : (hideAll s.heap [x]).get? dx = some (accDict w.params tk₀ k₀) := hideAll_get _ hdx fun hm => hxd (List.mem_singleton.mp hm).symm
  try dsimp only
  refine ks_wpAt_execs_cons (ks_wpAt_If (wpAt_of_wpAny (wpAny_mono (E := fun _ _ => False) (Q := fun b s' => TestNo (hideAll s.heap [x]) L' (fun y => [(Str.ofString "self", Value.ref x)].reverse.lookup y) [(x, accObj dx its n)] s b s') ?_ ?_ fun _ _ z => z.elim)))
  · k_steps
    rename Fr _ _ _ _ => F1
    rename News _ _ _ _ => N1
    refine part_count_callF F1 N1 hd₁ X₁ T₁ rfl hroom' hfile htop fun h' tk' t' F' N' => ?_
    clear F1 N1
    try dsimp only
    k_steps
    rename Fr _ _ _ _ => FF
    rename News _ _ _ _ => NN
    refine ⟨?_, _, _, rfl, FF, NN⟩
    have : ((its.size : Nat) : Int) ≠ 0 := by omega
    simpa using this
  rintro b s' ⟨rfl, h₂, tk₂, rfl, F₂, N₂⟩
  simp only [Bool.false_eq_true, if_false]
  refine wpAt_of_wpAny (wpAny_execs_nil ?_)
  dsimp only
  have b3 : (("pop" : Str) == ("__class__" : Str)) = false := by decide +kernel
  have X₂ := X₁.keeps F₂.keep
  have hx₂ := (N₂ _ (.head _)).1
  have hd₂ := F₂.keep _ _ hd₁
  refine ks_wpAt_execs_cons (ks_wpAt_Return_some (ks_wpAt_MethodCall ?_))
  refine' sup_node (f := 82) (cda := 81) (attr := Str.ofString "pop") (x := x) (L := L') F₂.ns X₂ (T₁.keeps F₂.keep) ?kf ?kp ?kv (accInst hx₂ hd₂) ?kc ?kvs hfile b3 rfl rfl ?ka rfl htop fun h₃ hso hk₃ => ?_
  case kf => exact rfl
  case kp => exact rfl
  case kv => exact rfl
  case kc => exact rfl
  case kvs => exact rfl
  case ka => exact rfl
  dsimp only
  have I₃ := accInst (hk₃ _ _ hx₂) (hk₃ _ _ hd₂)
  have L₃ : Looks (model prog w) h₃ (isInstance (.ref x) (.type "list")) true := accIsList (X₂.keeps hk₃) I₃
  refine sup_getMethod (id := "list.pop") (T := "method_descriptor") (gid := "method_descriptor.__get__") (B := Builtin.«method_descriptor.__get__») (bo := { cls := .type "builtin_function_or_method", data := .fields #[.builtin "list.pop", .ref x] }) (X₂.keeps hk₃) hso hx122 b3 (by kernel_rfl) (by kernel_rfl) slot_md_get entry_md_get (md_args _ _ _)
    (fun t' A' E' Q' hq => get_md (by decide +kernel) (by decide +kernel) L₃ hq) ?_
  dsimp only
  have hx₄ := Heap.get?_push_of_some { cls := .type "builtin_function_or_method", data := .fields #[.builtin "list.pop", .ref x] } (hk₃ _ _ hx₂)
  have hd₄ := Heap.get?_push_of_some { cls := .type "builtin_function_or_method", data := .fields #[.builtin "list.pop", .ref x] } (hk₃ _ _ hd₂)
  have X₄ : (hd.heap_39 w.params).In (h₃.push { cls := .type "builtin_function_or_method", data := .fields #[.builtin "list.pop", .ref x] }) := (X₂.keeps hk₃).keeps fun b o e => Heap.get?_push_of_some _ e
  refine callWith_ref0 (bo := { cls := .type "builtin_function_or_method", data := .fields #[.builtin "list.pop", .ref x] }) (Heap.get?_push_size _ rfl) ⟨_, rfl⟩ (.inl rfl) ?_
  refine bound_call (id := "list.pop") (T := "builtin_function_or_method") (Heap.get?_push_size _ rfl) (.inl rfl) (pop_bound X₄ (accInst hx₄ hd₄)) (by decide +kernel) F.entry_list_pop ?_
  have hf : Builtin.List.listFitsIndex (-1) = true := by decide
  have hemp : its.isEmpty = false := by simpa using hpos
  have hi : ((seqIndex? (-1) its.size).bind fun k => its[k]?.map (k, ·)) = some (its.size - 1, v) := by
    have h1 : seqIndex? (-1) its.size = some (its.size - 1) := by
      have hp : 0 < its.size := Nat.pos_of_ne_zero hpos
      unfold seqIndex?
      simp only [show ((-1 : Int) < 0) from by decide, if_true]
      have a1 : (0 : Int) ≤ -1 + (its.size : Int) := by omega
      have a2 : -1 + (its.size : Int) < (its.size : Int) := by omega
      have a3 : (-1 + (its.size : Int)).toNat = its.size - 1 := by omega
      simp only [decide_eq_true a1, decide_eq_true a2, Bool.and_self, if_true, a3]
    rw [h1, Option.bind_some]
    have : its[its.size - 1]? = some v := by rw [← Array.back?_eq_getElem?]; exact hv
    rw [this]; rfl
  unfold Builtin.«list.pop»
  refine wpAny_bind (m := selfAndSome "list.pop" "pop" 0 1 _) (wpAny_pure ?_)
  dsimp only
  refine wpAny_bind (wpAny_pure ?_)
  simp only [hf, Bool.not_true, Bool.false_eq_true, if_false]
  refine wpAny_bind (wpAny_listItems hx₄ rfl ?_)
  simp only [hemp, Bool.false_eq_true, if_false, hi]
  have hln : (1000 : Nat) ≤ sizeLine := by decide
  refine wpAny_bind (wpAny_updateSeq hx₄ rfl ?_ (by omega) (by rw [pop_erase its hpos, Array.size_pop]; omega))
  refine wpAny_pure ⟨_, rfl, ?_⟩
  have e : Obj.mapSeq (fun xs => xs.eraseIdxIfInBounds (its.size - 1)) (accObj dx its n) = accObj dx its.pop (n + 1) := by
    have h1 : its.pop.size ≠ its.size := by rw [Array.size_pop]; omega
    simp only [Obj.mapSeq, pop_erase its hpos]
    rw [if_neg (by simpa using h1)]
  have hget := Heap.get?_update_self (Obj.mapSeq (fun xs => xs.eraseIdxIfInBounds (its.size - 1))) hx₄ (by rw [e]; rfl)
  rw [e] at hget
  have hsb : Heap.SameBut x (h₃.push { cls := .type "builtin_function_or_method", data := .fields #[.builtin "list.pop", .ref x] }) _ := Heap.SameBut.update _ x (Obj.mapSeq (fun xs => xs.eraseIdxIfInBounds (its.size - 1)))
  exact hQ _ _ _ (fun b o hb eb => (hsb.2 _ hb).trans (Heap.get?_push_of_some _ (hk₃ _ _ (hide_keep F₂.keep b o hb eb)))) hget
end

end Mine

/-! ## P1 -/
namespace Mine
open PySem PySem.W PyProof.Rows PySem.Calls
open Builtin Builtin.Str Builtin.Int
theorem sumRep (n c : Nat) : ((List.replicate n c).map brk).sum = (n : Int) * brk c := by
  induction n with
  | zero => simp
  | succ n ih =>
    rw [List.replicate_succ, List.map_cons, List.sum_cons, ih]
    rw [show ((n + 1 : Nat) : Int) = (n : Int) + 1 by omega, Int.add_mul, Int.one_mul, Int.add_comm]

theorem bal_shape {x : Str} {a b : Nat} (h : x.cps.toList = List.replicate a 40 ++ 32 :: List.replicate b 41) (j : Nat) :
    balAt x j = (min j a : Nat) - (min (j - a - 1) b : Nat) := by
  unfold balAt
  rw [h, List.take_append, List.length_replicate, List.take_replicate, List.map_append, List.sum_append, sumRep]
  have b40 : brk 40 = 1 := rfl
  have b41 : brk 41 = -1 := rfl
  have b32 : brk 32 = 0 := rfl
  rw [b40, Int.mul_one]
  cases hj : j - a with
  | zero => simp
  | succ k =>
    rw [List.take_succ_cons, List.map_cons, List.sum_cons, List.take_replicate, sumRep, b32, b41]
    simp
    omega

theorem shape_size {x : Str} {a b : Nat} (h : x.cps.toList = List.replicate a 40 ++ 32 :: List.replicate b 41) : x.cps.size = a + b + 1 := by
  rw [← Array.length_toList, h]; simp; omega

theorem shape_chars {x : Str} {a b : Nat} (h : x.cps.toList = List.replicate a 40 ++ 32 :: List.replicate b 41) : ∀ (i c : Nat), x.cps[i]? = some c → c = 40 ∨ c = 41 ∨ c = 32 := by
  intro i c e
  have hm : c ∈ x.cps.toList := by
    rw [← Array.getElem?_toList] at e
    exact List.mem_of_getElem? e
  rw [h] at hm
  rcases List.mem_append.mp hm with hm | hm
  · exact .inl (List.eq_of_mem_replicate hm)
  · rcases List.mem_cons.mp hm with hm | hm
    · exact .inr (.inr hm)
    · exact .inr (.inl (List.eq_of_mem_replicate hm))

theorem shape_occ {x : Str} {a b : Nat} (h : x.cps.toList = List.replicate a 40 ++ 32 :: List.replicate b 41) : (occurrences x (Str.ofString "\"") 0 x.length 1).isEmpty = true := by
  have hq : (Str.ofString "\"") = ⟨#[34]⟩ := by decide +kernel
  have := StrLaws.found_one x 34
  rw [← hq] at this
  have hn : ¬ (34 ∈ x.cps.toList) := by
    rw [h]
    intro hm
    rcases List.mem_append.mp hm with hm | hm
    · exact absurd (List.eq_of_mem_replicate hm) (by decide)
    · rcases List.mem_cons.mp hm with hm | hm
      · exact absurd hm (by decide)
      · exact absurd (List.eq_of_mem_replicate hm) (by decide)
  rw [decide_eq_false hn] at this
  simpa using this

theorem shape_safe {x : Str} {a b : Nat} (h : x.cps.toList = List.replicate a 40 ++ 32 :: List.replicate b 41) (hab : b ≤ a) : ∀ j, j ≤ x.cps.size → 0 ≤ balAt x j := by
  intro j _
  rw [bal_shape h]
  omega
theorem shape_end {x : Str} {a b : Nat} (h : x.cps.toList = List.replicate a 40 ++ 32 :: List.replicate b 41) : balAt x x.cps.size = (a : Int) - b := by
  rw [bal_shape h, shape_size h]
  omega

def signs (ps : List (Str × Str)) : List Nat := ps.flatMap fun q => q.1.cps.toList ++ q.2.cps.toList
theorem toList_append (x y : Str) : (x ++ y).cps.toList = x.cps.toList ++ y.cps.toList := by
  show (x.cps ++ y.cps).toList = _
  simp
theorem join_signs : ∀ ts : List Str, (Str.join (Str.ofString "") ts).cps.toList = ts.flatMap (·.cps.toList)
  | [] => by show (Str.empty).cps.toList = _; rfl
  | [x] => by simp [Str.join]
  | x :: y :: r => by
    have e : (Str.ofString "").cps.toList = [] := by decide +kernel
    have := join_signs (y :: r)
    show (x ++ Str.ofString "" ++ Str.join (Str.ofString "") (y :: r)).cps.toList = _
    rw [toList_append, toList_append, e, this]
    simp
theorem text_signs (ps : List (Str × Str)) : (Txt.join (Str.ofString "") (ps.map fun q => Txt.join (Str.ofString "") [q.1, q.2])).cps.toList = signs ps := by
  have g : ∀ ts, Txt.join (Str.ofString "") ts = Str.join (Str.ofString "") ts := fun ts => by show glued _ _ = _; rw [StrLaws.glued_eq_join]
  rw [g, join_signs]
  unfold signs
  rw [List.flatMap_map]
  congr 1
  funext q
  show (Txt.join (Str.ofString "") [q.1, q.2]).cps.toList = _
  rw [g, join_signs]
  simp

end Mine

/-! ## L21 -/
namespace Mine
open PySem PySem.W PyProof.Rows PySem.Calls
open Sem (wp)
open Builtin Builtin.Str Builtin.Int Builtin.ObjectAttr
set_option maxRecDepth 100000
set_option maxHeartbeats 8000000
section
variable {prog : Program} {w : World} {A : Around} {E : Value → Shared → Prop} {s : Shared} {p : Program} {loose : List Str} {mg mb : Str → Option Value} {bm : Addr} {ob : Obj}

/-- what stays: the written part, the namespaces, the built-ins' module -/
structure Ctx (w : World) (p : Program) (loose : List Str) (mg mb : Str → Option Value) (bm : Addr) (ob : Obj) (b : Heap) : Prop where
  X : (hd.heap_39 w.params).In b
  T : TopRead p loose mg mb b
  M : BMod b mainGlobals mg bm ob
theorem Ctx.keeps {b h : Heap} (C : Ctx w p loose mg mb bm ob b) (k : ∀ a o, b.get? a = some o → h.get? a = some o) : Ctx w p loose mg mb bm ob h := ⟨C.X.keeps k, C.T.keeps k, C.M.keeps k⟩

/-- a code object and its table, whatever the table holds -/
def Tab (h : Heap) (c P : Addr) : Prop := ∃ ps, h.IsCode c P ps ∧ h.TableAt c P ps
theorem Tab.keeps {h h' : Heap} {c P : Addr} (x : Tab h c P) (kc : ∀ o, h.get? c = some o → h'.get? c = some o) (kP : ∀ o, h.get? P = some o → h'.get? P = some o) : Tab h' c P := let ⟨ps, a, b⟩ := x; ⟨ps, isCode_at a kc kP, tableAt_at b kc kP⟩

/-- the run's heap, seen from the heap of the call's beginning -/
structure Run (h₀ h : Heap) : Prop where
  old : OldK h₀ h
  k : ∀ b o, b ≠ 84 → b ≠ 91 → h₀.get? b = some o → h.get? b = some o
  t1 : Tab h 88 84
  t2 : Tab h 95 91

theorem oldK_but {h₀ h h' : Heap} {x : Addr} (K : OldK h₀ h) (hx : h₀.get? x = none) (k : ∀ b o, b ≠ x → h.get? b = some o → h'.get? b = some o) : OldK h₀ h' := by
  have ne : ∀ b o, h₀.get? b = some o → b ≠ x := fun b o e hb => by rw [hb, hx] at e; cases e
  refine ⟨fun b o e => ?_, fun b o e => let ⟨o', ho'⟩ := K.there b o e; ⟨o', k b o' (ne b o e) ho'⟩⟩
  rcases K.old b o e with y | ⟨t, hc, vs, more, hv, y⟩ | ⟨rfl, hc, ⟨o', es, n, ho', r⟩, z⟩
  · exact .inl (k _ _ (ne b o e) y)
  · exact .inr (.inl ⟨t, hc, vs, more, hv, k _ _ (ne b o e) y⟩)
  · exact .inr (.inr ⟨rfl, hc, ⟨o', es, n, k _ _ (ne _ o e) ho', r⟩, fun key => by rw [OldK.staticOf_congr ((k _ _ (ne _ o e) ho').trans ho'.symm) key]; exact z key⟩)

theorem Run.but {h₀ h h' : Heap} {x : Addr} (R : Run h₀ h) (hx : h₀.get? x = none) (h84 : ∃ o, h₀.get? 84 = some o) (h91 : ∃ o, h₀.get? 91 = some o) (h88 : ∃ o, h₀.get? 88 = some o) (h95 : ∃ o, h₀.get? 95 = some o)
    (k : ∀ b o, b ≠ x → h.get? b = some o → h'.get? b = some o) : Run h₀ h' := by
  have ne : ∀ b, (∃ o, h₀.get? b = some o) → b ≠ x := fun b ⟨o, e⟩ hb => by rw [hb, hx] at e; cases e
  exact ⟨oldK_but R.old hx k, fun b o h1 h2 e => k b o (ne b ⟨o, e⟩) (R.k b o h1 h2 e), R.t1.keeps (fun o e => k _ o (ne _ h88) e) (fun o e => k _ o (ne _ h84) e), R.t2.keeps (fun o e => k _ o (ne _ h95) e) (fun o e => k _ o (ne _ h91) e)⟩

theorem Run.keeps {h₀ h h' : Heap} (R : Run h₀ h) (k : ∀ b o, h.get? b = some o → h'.get? b = some o) : Run h₀ h' :=
  ⟨R.old.step_keeps k, fun b o h1 h2 e => k b o (R.k b o h1 h2 e), R.t1.keeps (fun o e => k _ o e) (fun o e => k _ o e), R.t2.keeps (fun o e => k _ o e) (fun o e => k _ o e)⟩

theorem Run.tab84 {h₀ h h' : Heap} {p0 tps more : Array Value} (R : Run h₀ h) (ht₀ : h₀.TableAt 88 84 p0) (ht : h.TableAt 88 84 tps) (hc' : h'.IsCode 88 84 (tps ++ more)) (ht' : h'.TableAt 88 84 (tps ++ more)) (k : ∀ b o, b ≠ 84 → h.get? b = some o → h'.get? b = some o) : Run h₀ h' :=
  ⟨R.old.step_table ht₀ ht ht' (fun b o hb e => k b o hb e) (by decide), fun b o h1 h2 e => k b o h1 (R.k b o h1 h2 e), ⟨_, hc', ht'⟩, R.t2.keeps (fun o e => k _ o (by decide) e) (fun o e => k _ o (by decide) e)⟩
theorem Run.tab91 {h₀ h h' : Heap} {p0 tps more : Array Value} (R : Run h₀ h) (ht₀ : h₀.TableAt 95 91 p0) (ht : h.TableAt 95 91 tps) (hc' : h'.IsCode 95 91 (tps ++ more)) (ht' : h'.TableAt 95 91 (tps ++ more)) (k : ∀ b o, b ≠ 91 → h.get? b = some o → h'.get? b = some o) : Run h₀ h' :=
  ⟨R.old.step_table ht₀ ht ht' (fun b o hb e => k b o hb e) (by decide), fun b o h1 h2 e => k b o h2 (R.k b o h1 h2 e), R.t1.keeps (fun o e => k _ o (by decide) e) (fun o e => k _ o (by decide) e), ⟨_, hc', ht'⟩⟩

theorem accLen {x dx L : Addr} {ps : List (Str × Str)} {tps : Array Value} {h₀ : Heap} {m : Str → Option Value} {Q : Value → Shared → Prop} (F : Fr h₀ L s.heap m) (C : Ctx w p loose mg mb bm ob h₀) (a : Acc w.params s.heap x dx ps)
    (hc : s.heap.IsCode 88 84 tps) (ht : s.heap.TableAt 88 84 tps) (hA : A.handled = none) (hroom : A.depth + 7 < recursionLimit) (hfit : ∀ q ∈ ps, q.1.length ≤ 100000 ∧ q.2.length ≤ 100000) (h0 : 0 ≤ preSum (lenOf ps) ps.length) (h1 : preSum (lenOf ps) ps.length < 2 ^ 63)
    (hQ : ∀ h' tk g' t more, (∀ b o, b ≠ 84 → s.heap.get? b = some o → h'.get? b = some o) → h'.IsCode 88 84 (tps ++ more) → h'.TableAt 88 84 (tps ++ more) → (AllBare s.gens → AllBare g') →
      Q (.int (preSum (lenOf ps) ps.length) t) { s with heap := h', toks := tk, gens := g' }) :
    wpAny (model prog w) A (call (.builtin "len") [.ref x]) Q E s := by
  obtain ⟨its, n, tk, k, hx, hdx, hps⟩ := a
  refine len_K F C.X (accInst hx hdx) (f := 89) (by k_is) (by k_is) ?_
  have C' := C.keeps F.keep
  refine len_call hx hdx hps hc ht C'.X C'.T C'.M hA (by show A.depth + 6 < recursionLimit; omega) hfit fun h' tk g' t more k1 k2 k3 k4 => ?_
  exact ⟨⟨h0, h1⟩, hQ _ _ _ _ _ k1 k2 k3 k4⟩

theorem accStr {x dx L : Addr} {ps : List (Str × Str)} {tps : Array Value} {h₀ : Heap} {m : Str → Option Value} {Q : Value → Shared → Prop} (F : Fr h₀ L s.heap m) (C : Ctx w p loose mg mb bm ob h₀) (a : Acc w.params s.heap x dx ps)
    (hc : s.heap.IsCode 95 91 tps) (ht : s.heap.TableAt 95 91 tps) (hA : A.handled = none) (hroom : A.depth + 7 < recursionLimit) (hu : A.in1.in1.units < cLine) (hfit : ∀ q ∈ ps, q.1.length ≤ 100000 ∧ q.2.length ≤ 100000)
    (hn : ps.length ≤ 1000) (hok : JoinOk (Str.ofString "") (ps.map fun q => Txt.join (Str.ofString "") [q.1, q.2]) = true)
    (hQ : ∀ h' tk g' t more, (∀ b o, b ≠ 91 → s.heap.get? b = some o → h'.get? b = some o) → h'.IsCode 95 91 (tps ++ more) → h'.TableAt 95 91 (tps ++ more) → (AllBare s.gens → AllBare g') →
      Q (.str (Txt.join (Str.ofString "") (ps.map fun q => Txt.join (Str.ofString "") [q.1, q.2])) t) { s with heap := h', toks := tk, gens := g' }) :
    wpAny (model prog w) A (call (.type "str") [.ref x]) Q E s := by
  obtain ⟨its, n, tk, k, hx, hdx, hps⟩ := a
  have C' := C.keeps F.keep
  refine kso_call hu C'.X (accInst hx hdx) (f := 96) (by k_is) (by k_is) ?_
  exact str_call hx hdx hps hc ht C'.X C'.T C'.M hA (by show A.depth + 6 < recursionLimit; omega) hfit hn hok fun h' tk g' t more k1 k2 k3 k4 => hQ _ _ _ _ _ k1 k2 k3 k4

theorem accPush {x dx : Addr} {ps : List (Str × Str)} {f st : Str} {t1 t2 : Tok} {Q : Value → Shared → Prop} (C : Ctx w p loose mg mb bm ob s.heap) (a : Acc w.params s.heap x dx ps) (hxK : (hd.heap_39 w.params).lookup x = none) (hA : A.handled = none) (hroom : A.depth < recursionLimit) (hn : ps.length ≤ 1000)
    (hQ : ∀ h' tk, (∀ b o, b ≠ x → s.heap.get? b = some o → h'.get? b = some o) → Acc w.params h' x dx (ps ++ [(f, st)]) → Q .none { s with heap := h', toks := tk }) :
    wpAny (model prog w) A (call (.ref 66) [.ref x, .str f t1, .str st t2]) Q E s := by
  obtain ⟨its, n, tk, k, hx, hdx, hps⟩ := a
  have hxd : dx ≠ x := by rintro rfl; rw [hx] at hdx; cases hdx
  refine push_call hx hdx hxK C.X C.T hA hroom (by rw [hps.1]; exact hn) fun h' tk D k1 hx' hD0 hD => hQ h' tk k1 ⟨_, _, _, _, hx', k1 _ _ hxd hdx, ?_⟩
  refine ⟨by rw [Array.size_push, hps.1, List.length_append]; rfl, fun i q e => ?_⟩
  rcases Nat.lt_or_ge i ps.length with hi | hi
  · rw [List.getElem?_append_left hi] at e
    obtain ⟨T, t, u, h1, o, ho, hc, r⟩ := hps.2 i q e
    refine ⟨T, t, u, ?_, o, k1 T o (by rintro rfl; rw [hx] at ho; cases ho; cases hc) ho, hc, r⟩
    rw [Array.getElem?_push, if_neg (by rw [hps.1]; omega)]
    exact h1
  · rw [List.getElem?_append_right hi] at e
    have : i - ps.length = 0 := by
      have := (List.getElem?_eq_some_iff.mp e).1
      simp at this
      omega
    rw [this] at e
    simp at e
    subst e
    have hi' : i = its.size := by rw [hps.1]; omega
    refine ⟨D, t1, t2, ?_, _, hD, rfl, 0, rfl⟩
    rw [hi', Array.getElem?_push_size]

theorem accPop {x dx : Addr} {ps : List (Str × Str)} {q : Str × Str} {Q : Value → Shared → Prop} (C : Ctx w p loose mg mb bm ob s.heap) (a : Acc w.params s.heap x dx (ps ++ [q])) (hxK : (hd.heap_39 w.params).lookup x = none) (hA : A.handled = none) (hroom : A.depth + 1 < recursionLimit) (hn : ps.length ≤ 900)
    (hfile : ((prog.main.file : Str) == Str.ofString "/claim/cut.py") = true) (htop : (prog.main.scope.names.lookup ("super" : Str)).isSome = false)
    (hQ : ∀ h' tk T, (∀ b o, b ≠ x → s.heap.get? b = some o → h'.get? b = some o) → Acc w.params h' x dx ps → Q (.ref T) { s with heap := h', toks := tk }) :
    wpAny (model prog w) A (call (.ref 82) [.ref x]) Q E s := by
  obtain ⟨its, n, tk, k, hx, hdx, hps⟩ := a
  have hxd : dx ≠ x := by rintro rfl; rw [hx] at hdx; cases hdx
  have hsz : its.size = ps.length + 1 := by rw [hps.1, List.length_append]; rfl
  obtain ⟨T, t, u, hT, -⟩ := hps.2 ps.length q (by simp)
  have hback : its.back? = some (.ref T) := by rw [Array.back?_eq_getElem?, hsz]; exact hT
  refine pop_call hx hdx hxK C.X C.T hA hroom (by omega) (by omega) hback hfile htop fun h' tk n' k1 hx' => hQ h' tk T k1 ⟨_, _, _, _, hx', k1 _ _ hxd hdx, ?_⟩
  refine ⟨by rw [Array.size_pop, hsz]; rfl, fun i q e => ?_⟩
  have hi : i < ps.length := (List.getElem?_eq_some_iff.mp e).1
  obtain ⟨T, t, u, h1, o, ho, hc, r⟩ := hps.2 i q (by rw [List.getElem?_append_left hi]; exact e)
  refine ⟨T, t, u, ?_, o, k1 T o (by rintro rfl; rw [hx] at ho; cases ho; cases hc) ho, hc, r⟩
  rw [Array.getElem?_pop, if_pos (by omega)]
  exact h1

theorem textCheck {x : Str} {tx : Tok} {a b : Nat} {Q : Value → Shared → Prop} (C : Ctx w p loose mg mb bm ob s.heap) (hA : A.handled = none) (hroom : A.depth + 1 < recursionLimit)
    (hx : x.cps.toList = List.replicate a 40 ++ 32 :: List.replicate b 41) (hab : b ≤ a) (ha : a ≤ 10000)
    (hQ : ∀ h' tk, (∀ c o, s.heap.get? c = some o → h'.get? c = some o) → Q (.bool (decide (a = b))) { s with heap := h', toks := tk, gens := s.gens.push .finished }) :
    wpAny (model prog w) A (call (.ref 147) [.str x tx]) Q E s := by
  refine check_call C.X C.T hA hroom (shape_occ hx) (shape_chars hx) (shape_safe hx hab) (by rw [shape_size hx]; omega) fun h' tk k => ?_
  have e : (balAt x x.cps.size == 0) = decide (a = b) := by
    rw [shape_end hx]
    by_cases h : a = b
    · subst h; simp
    · rw [decide_eq_false h]
      simp
      omega
  rw [e]
  exact hQ h' tk k
end

end Mine

/-! ## F2 -/
namespace Mine
open PySem
set_option maxRecDepth 1000000
/-- makes the kernel work out a number before it is handed on -/
def fz {α : Type} (x : UInt64) (f : UInt64 → α) : α := Nat.rec (f (UInt64.ofNat 0)) (fun k _ => f (UInt64.ofNat (k + 1))) x.toNat
theorem fz_eq {α : Type} (x : UInt64) (f : UInt64 → α) : fz x f = f x := by
  have h : ∀ n : Nat, (Nat.rec (f (UInt64.ofNat 0)) (fun k _ => f (UInt64.ofNat (k + 1))) n : α) = f (UInt64.ofNat n) := fun n => by cases n <;> rfl
  unfold fz
  rw [h, UInt64.ofNat_toNat]
def vX (x : UInt64) : UInt64 :=
  if (Float64.cmp x 4595172819793696085 == some Ordering.lt) = true then fz (Float64.mul 4607182418800017408 x) fun a => fz (Float64.mul a 4618441417868443648) fun b => Float64.add 0 b
  else if (Float64.cmp x 4602678819172646912 == some Ordering.lt) = true then 4607182418800017408
  else if (Float64.cmp x 4604180019048437077 == some Ordering.lt) = true then fz (Float64.sub 4604180019048437077 x) fun y => fz (Float64.mul 4607182418800017408 y) fun a => fz (Float64.mul a 4618441417868443648) fun b => Float64.add 0 b
  else 0
def vZ (hue : UInt64) : UInt64 := fz hue fun hue => fz (Float64.divmod hue 4607182418800017408).snd vX
theorem vZ_eq (hue : UInt64) : vZ hue = vF 0 4607182418800017408 hue := by
  have h : Float64.sub 4607182418800017408 0 = 4607182418800017408 := by decide +kernel
  unfold vZ vF
  simp only [fz_eq, h]
  unfold vX
  simp only [fz_eq]
def truncI (x : UInt64) : Int := match Float64.decode x with | .fin a m e => Float64.truncOf a m e | _ => -1
def lvl (m : Nat) (l : UInt64) : Int := truncI (Float64.add (Float64.mul (Float64.ofInt (2 * m)) l) 4602678819172646912)
def lvlZ (m : Nat) (l : UInt64) : Int := fz l fun l => fz (Float64.mul (Float64.ofInt (2 * m)) l) fun a => fz (Float64.add a 4602678819172646912) fun b => truncI b
theorem lvlZ_eq (m : Nat) (l : UInt64) : lvlZ m l = lvl m l := by unfold lvlZ lvl; simp only [fz_eq]
def want (m : Nat) (n : Int) (k : Nat) : Int :=
  max 0 (min (2 * m) (4 * m - min ((n - 4 * m * k) % (12 * m)) (-(n - 4 * m * k) % (12 * m))))
def okN (m : Nat) (n : Int) : Bool := fz (fq n (12 * m)) fun h =>
  lvlZ m (vZ (Float64.add h 4599676419421066581)) == want m n 0 && lvlZ m (vZ h) == want m n 1 && lvlZ m (vZ (Float64.sub h 4599676419421066581)) == want m n 2
def okAll (m : Nat) : Bool := (List.range (48 * m)).all fun j => okN m (j - 12 * m)
theorem t2 : okAll 2 = true := by decide +kernel
theorem t3 : okAll 3 = true := by decide +kernel
theorem t4 : okAll 4 = true := by decide +kernel
theorem t5 : okAll 5 = true := by decide +kernel
theorem t6 : okAll 6 = true := by decide +kernel
theorem t7 : okAll 7 = true := by decide +kernel
theorem t8 : okAll 8 = true := by decide +kernel
theorem okAll_of {m : Nat} (h2 : 2 ≤ m) (h8 : m ≤ 8) : okAll m = true := by
  have : m = 2 ∨ m = 3 ∨ m = 4 ∨ m = 5 ∨ m = 6 ∨ m = 7 ∨ m = 8 := by omega
  rcases this with rfl | rfl | rfl | rfl | rfl | rfl | rfl
  · exact t2
  · exact t3
  · exact t4
  · exact t5
  · exact t6
  · exact t7
  · exact t8
theorem light_ok {m : Nat} {n : Int} (h2 : 2 ≤ m) (h8 : m ≤ 8) (hlo : -(12 * m : Int) ≤ n) (hhi : n < 36 * m) :
    lvl m (lightF (fq n (12 * m))).1 = want m n 0 ∧ lvl m (lightF (fq n (12 * m))).2.1 = want m n 1 ∧ lvl m (lightF (fq n (12 * m))).2.2 = want m n 2 := by
  have h := okAll_of h2 h8
  unfold okAll at h
  have hj := List.all_eq_true.mp h (n + 12 * m).toNat (List.mem_range.mpr (by omega))
  have e : (((n + 12 * m).toNat : Nat) : Int) - 12 * m = n := by omega
  rw [e] at hj
  unfold okN at hj
  rw [fz_eq] at hj
  simp only [Bool.and_eq_true, beq_iff_eq, lvlZ_eq, vZ_eq] at hj
  exact ⟨hj.1.1, hj.1.2, hj.2⟩

end Mine

/-! ## P3 -/
namespace Mine
open PySem
set_option maxRecDepth 1000000
/-- how many open brackets the first i lights give to line k -/
def heap3 (m : Nat) (start : Int) (k : Nat) : Nat → Int
  | 0 => 0
  | i + 1 => heap3 m start k i + want m (start + 12 * i) k
def redOf (p : Int) : Int := max 0 (min 2 (4 - min (p % 12) (-p % 12)))
def placeOf (m : Nat) (start : Int) : Int := if m % 6 = 5 then (-start) % 12 else start % 12
def dueOf (m : Nat) (place : Int) (k : Nat) : Int :=
  if m % 2 = 0 then m * m else if m % 3 = 0 then m * m - 3 + min place (12 - place) else m * m - 1 + redOf (place - 4 * k)
def sumsAll (m : Nat) : Bool := (List.range (36 * m)).all fun j => heap3 m (j - 12 * m) 0 m == dueOf m (placeOf m (j - 12 * m)) 0 && heap3 m (j - 12 * m) 1 m == dueOf m (placeOf m (j - 12 * m)) 1 && heap3 m (j - 12 * m) 2 m == dueOf m (placeOf m (j - 12 * m)) 2
theorem s2 : sumsAll 2 = true := by decide +kernel
theorem s3 : sumsAll 3 = true := by decide +kernel
theorem s4 : sumsAll 4 = true := by decide +kernel
theorem s5 : sumsAll 5 = true := by decide +kernel
theorem s6 : sumsAll 6 = true := by decide +kernel
theorem s7 : sumsAll 7 = true := by decide +kernel
theorem s8 : sumsAll 8 = true := by decide +kernel
theorem sums {m : Nat} {start : Int} {k : Nat} (h2 : 2 ≤ m) (h8 : m ≤ 8) (hlo : -(12 * m : Int) ≤ start) (hhi : start < 24 * m) (hk : k < 3) : heap3 m start k m = dueOf m (placeOf m start) k := by
  have h : sumsAll m = true := by
    have : m = 2 ∨ m = 3 ∨ m = 4 ∨ m = 5 ∨ m = 6 ∨ m = 7 ∨ m = 8 := by omega
    rcases this with rfl | rfl | rfl | rfl | rfl | rfl | rfl
    · exact s2
    · exact s3
    · exact s4
    · exact s5
    · exact s6
    · exact s7
    · exact s8
  unfold sumsAll at h
  have hj := List.all_eq_true.mp h (start + 12 * m).toNat (List.mem_range.mpr (by omega))
  have e : (((start + 12 * m).toNat : Nat) : Int) - 12 * m = start := by omega
  rw [e] at hj
  simp only [Bool.and_eq_true, beq_iff_eq] at hj
  have : k = 0 ∨ k = 1 ∨ k = 2 := by omega
  rcases this with rfl | rfl | rfl
  · exact hj.1.1
  · exact hj.1.2
  · exact hj.2
/-- the wheel turned back: hue, share -/
def hueOk (m : Nat) (place : Int) : Bool :=
  let c := hsvF (dueOf m place 0) (dueOf m place 1) (dueOf m place 2)
  (c.2 == fq 2 (m * m + 1)) && (mx3 (dueOf m place 0) (dueOf m place 1) (dueOf m place 2) == m * m + 1) &&
    (truncI (Float64.add (Float64.mul c.1 (Float64.ofInt 12582912)) 4602678819172646912) == place * 1048576)
def hueAll (m : Nat) : Bool := (List.range 12).all fun p => hueOk m p
theorem u5 : hueAll 5 = true := by decide +kernel
theorem u7 : hueAll 7 = true := by decide +kernel
theorem hue_ok {m : Nat} {place : Int} (h : m = 5 ∨ m = 7) (h0 : 0 ≤ place) (h12 : place < 12) : hueOk m place = true := by
  have h : hueAll m = true := by rcases h with rfl | rfl; exact u5; exact u7
  have := List.all_eq_true.mp h place.toNat (List.mem_range.mpr (by omega))
  rwa [Int.toNat_of_nonneg h0] at this

end Mine

/-! ## R0 -/
namespace Mine
open PySem PySem.W PyProof.Rows PySem.Calls
open Sem (wp)
open Builtin Builtin.Str Builtin.Int Builtin.ObjectAttr
set_option maxRecDepth 100000
set_option maxHeartbeats 8000000
section
variable {fa : Addr} {prog : Program} {w : World} {A : Around} {E : Value → Shared → Prop} {s : Shared} {p : Program} {loose : List Str} {mg mb : Str → Option Value} {bm : Addr} {ob : Obj}

/-- a ledger of the whole heap, the frame left out -/
theorem whole {b h : Heap} {L : Addr} {m : Str → Option Value} (F : Fr b L h m) : ∃ nw, News b L h nw ∧ ∀ h' : Heap, (∀ a o, b.get? a = some o → h'.get? a = some o) → (∀ q ∈ nw, h'.get? q.1 = some q.2) → ∀ a o, a ≠ L → h.get? a = some o → h'.get? a = some o := by
  refine ⟨(List.range h.objs.size).filterMap fun a => if a = L ∨ (b.get? a).isSome = true then none else (h.get? a).map fun o => (a, o), fun q hq => ?_, fun h' k1 k2 a o ha e => ?_⟩
  · obtain ⟨a, ha, he⟩ := List.mem_filterMap.mp hq
    split at he
    · cases he
    · rename_i hC
      obtain ⟨o, ho, rfl⟩ := Option.map_eq_some_iff.mp he
      refine ⟨ho, fun e => hC (.inl e), ?_⟩
      cases e : b.get? a with
      | none => rfl
      | some o' => exact absurd (.inr (by rw [e]; rfl)) hC
  · cases e' : b.get? a with
    | some o' =>
      have := F.keep a o' e'
      rw [e] at this
      cases this
      exact k1 a o e'
    | none =>
      refine k2 (a, o) (List.mem_filterMap.mpr ⟨a, List.mem_range.mpr (Heap.lt_size e), ?_⟩)
      rw [if_neg (by rw [e']; simp [ha]), e]; rfl

theorem acc_getMethodN {x dx L : Addr} {its : Array Value} {n : Nat} {tk₀ : Tok} {k₀ : Nat} {name : Str} {f : Value} {T : String} {pl : Sem Bool} {Q : Value × List Value → Shared → Prop} {h₀ : Heap} {m : Str → Option Value} {news : List (Addr × Obj)}
    (F : Fr h₀ L s.heap m) (X : (hd.heap_39 w.params).In h₀) (N : News h₀ L s.heap news) (hm : (x, accObj dx its n) ∈ news) (hdm : (dx, accDict w.params tk₀ k₀) ∈ news) (hl : lookIn name (accDict w.params tk₀ k₀) = some none)
    (hf : findIn (hd.heap_39 w.params) (.ref 122) name = some (some f)) (hT : typeIn (hd.heap_39 w.params) f = some (.type T)) (hT' : (Value.type T != .type "function" && Value.type T != .type "method_descriptor" && Value.type T != .type "wrapper_descriptor") = false)
    (hQ : Q (f, [.ref x]) s) : wpAny (model prog w) A (getMethod (.ref x) name pl) Q E s :=
  acc_getMethod (X.keeps F.keep) (accInst (N _ hm).1 (N _ hdm).1) hl hf hT hT' hQ

abbrev lSc : Scope := { kind := .function, names := [("script", .local), ("total", .local), ("size", .local), ("start", .local), ("place", .local), ("due", .local), ("lines", .local), ("i", .local), ("light", .local), ("k", .local), ("hue", .local), ("share", .local), ("value", .local), ("_law_drawn", .globalImplicit), ("_law_due", .globalImplicit), ("_Accumulator", .globalImplicit), ("range", .globalImplicit), ("hls_to_rgb", .globalImplicit), ("int", .globalImplicit), ("rgb_to_hsv", .globalImplicit), ("len", .globalImplicit), ("_check_parenthesis", .globalImplicit), ("str", .globalImplicit)], isGenerator := false, isCoroutine := false }

end
local macro_rules | `(tactic| walk_at "getMethod ref") => `(tactic| (k_here; k_dflt (refine' acc_getMethodN (T := "function") ?F ?X ?N ?m ?d ?l ?f ?T ?T2 ?_; (case F => k_asm); (case X => k_asm); (case N => k_asm); (case m => k_mem); (case d => k_mem); (case l => rfl); (case f => k_is); (case T => k_is); (case T2 => decide))))
section
variable {fa : Addr} {prog : Program} {w : World} {A : Around} {E : Value → Shared → Prop} {s : Shared} {p : Program} {loose : List Str} {mg mb : Str → Option Value} {bm : Addr} {ob : Obj}

local macro_rules | `(tactic| walk_at "mine none") => `(tactic| fail)
theorem turn0 {h₀ : Heap} {L Ln Lt x dx y1 y2 : Addr} {m₁ : Str → Option Value} {size : Int} {ts tk ta tb tc : Tok} {nt lv : Nat} {l0 l1 l2 : UInt64} {ps : List (Str × Str)} {nm : Str} {cd : Value} {Q : Flow → Shared → Prop} {a1 a2 a3 a4 a5 a6 : Nat} {q1 q2 q3 q5 q6 q7 q8 q9 q10 q11 q12 q13 q14 q15 q16 q17 q18 q20 : Pos}
    (hA : A.handled = none) (hroom : A.depth < recursionLimit) (C : Ctx w p loose mg mb bm ob h₀) (hs2 : 2 ≤ size) (hs8 : size ≤ 8) (hlv : lv ≤ 16)
    (hX : Float64.isNaN (Float64.add (Float64.mul (Float64.ofInt (2 * size)) l0) 4602678819172646912) = false ∧ Float64.isInf (Float64.add (Float64.mul (Float64.ofInt (2 * size)) l0) 4602678819172646912) = false ∧ Flt.toInt Float64.truncOf (Float64.add (Float64.mul (Float64.ofInt (2 * size)) l0) 4602678819172646912) = lv)
    (F : Fr h₀ L s.heap (fun y => if y = "k" then some (.int 0 tk) else if y = "light" then some (.ref Lt) else if y = "size" then some (.int size ts) else if y = "lines" then some (.ref Ln) else m₁ y))
    (N : News h₀ L s.heap [(Lt, { cls := .type "tuple", data := .seq #[.float l0 ta, .float l1 tb, .float l2 tc] nt }), (Ln, W.listOf #[.ref x, .ref y1, .ref y2] 0)])
    (a : Acc w.params s.heap x dx ps) (hxn : h₀.get? x = none ∧ x ≠ L) (hdn : h₀.get? dx = none ∧ dx ≠ L) (hn : ps.length ≤ 1000)
    (hQ : ∀ h' tk, (∀ b o, b ≠ x → s.heap.get? b = some o → h'.get? b = some o) → Acc w.params h' x dx (ps ++ [(Str.ofString "", Txt.mul (Str.ofString "(") lv)]) → Q .next { s with heap := h', toks := tk }) :
    wpAny (model prog w) A (execs [.Expr (.Call (.Attribute (.Subscript (.Name "lines" q1) (.Name "k" q2) q3) "push" { line := a1, col := a2, endLine := 146, endCol := a3 }) [.Constant (.str "") 0 q5, .BinOp (.Constant (.str "(") 0 q6) .Mult (.Call (.Name "int" q7) [.BinOp (.BinOp (.BinOp (.Constant (.int 2) 0 q8) .Mult (.Name "size" q9) q10) .Mult (.Subscript (.Name "light" q11) (.Name "k" q12) q13) q14) .Add (.Constant (.float 4602678819172646912) 0 q15) q16] [] q17) q18] [] { line := 146, col := a4, endLine := a5, endCol := a6 }) q20] (envOf nm lSc L fa cd)) Q E s := by
  obtain ⟨hd0, d0, fr0, g0, u0⟩ := A
  cases hA
  have X := C.X
  have T := C.T
  have hxK : (hd.heap_39 w.params).lookup x = none := by
    cases e : (hd.heap_39 w.params).lookup x with
    | none => rfl
    | some o => have := X x o e; rw [hxn.1] at this; cases this
  have a' := a
  obtain ⟨its, n, tk₀, k₀, hx, hdx, hps⟩ := a'
  have N₁ : News h₀ L s.heap [(Lt, { cls := .type "tuple", data := .seq #[.float l0 ta, .float l1 tb, .float l2 tc] nt }), (Ln, W.listOf #[.ref x, .ref y1, .ref y2] 0), (x, accObj dx its n), (dx, accDict w.params tk₀ k₀)] := by
    intro q hq
    rcases List.mem_cons.mp hq with rfl | hq
    · exact N _ (.head _)
    rcases List.mem_cons.mp hq with rfl | hq
    · exact N _ (.tail _ (.head _))
    rcases List.mem_cons.mp hq with rfl | hq
    · exact ⟨hx, hxn.2, hxn.1⟩
    obtain rfl := List.mem_singleton.mp hq
    exact ⟨hdx, hdn.2, hdn.1⟩
  clear N
  k_steps
  rw [hX.2.2]
  refine accPush (C.keeps F.keep) a hxK rfl hroom hn fun h' tk k1 a2 => ?_
  exact wpAny_execs_nil (hQ h' tk k1 a2)

theorem turn1 {h₀ : Heap} {L Ln Lt x dx y0 y2 : Addr} {m₁ : Str → Option Value} {size : Int} {ts tk ta tb tc : Tok} {nt lv : Nat} {l0 l1 l2 : UInt64} {ps : List (Str × Str)} {nm : Str} {cd : Value} {Q : Flow → Shared → Prop} {a1 a2 a3 a4 a5 a6 : Nat} {q1 q2 q3 q5 q6 q7 q8 q9 q10 q11 q12 q13 q14 q15 q16 q17 q18 q20 : Pos}
    (hA : A.handled = none) (hroom : A.depth < recursionLimit) (C : Ctx w p loose mg mb bm ob h₀) (hs2 : 2 ≤ size) (hs8 : size ≤ 8) (hlv : lv ≤ 16)
    (hX : Float64.isNaN (Float64.add (Float64.mul (Float64.ofInt (2 * size)) l1) 4602678819172646912) = false ∧ Float64.isInf (Float64.add (Float64.mul (Float64.ofInt (2 * size)) l1) 4602678819172646912) = false ∧ Flt.toInt Float64.truncOf (Float64.add (Float64.mul (Float64.ofInt (2 * size)) l1) 4602678819172646912) = lv)
    (F : Fr h₀ L s.heap (fun y => if y = "k" then some (.int 1 tk) else if y = "light" then some (.ref Lt) else if y = "size" then some (.int size ts) else if y = "lines" then some (.ref Ln) else m₁ y))
    (N : News h₀ L s.heap [(Lt, { cls := .type "tuple", data := .seq #[.float l0 ta, .float l1 tb, .float l2 tc] nt }), (Ln, W.listOf #[.ref y0, .ref x, .ref y2] 0)])
    (a : Acc w.params s.heap x dx ps) (hxn : h₀.get? x = none ∧ x ≠ L) (hdn : h₀.get? dx = none ∧ dx ≠ L) (hn : ps.length ≤ 1000)
    (hQ : ∀ h' tk, (∀ b o, b ≠ x → s.heap.get? b = some o → h'.get? b = some o) → Acc w.params h' x dx (ps ++ [(Str.ofString "", Txt.mul (Str.ofString "(") lv)]) → Q .next { s with heap := h', toks := tk }) :
    wpAny (model prog w) A (execs [.Expr (.Call (.Attribute (.Subscript (.Name "lines" q1) (.Name "k" q2) q3) "push" { line := a1, col := a2, endLine := 146, endCol := a3 }) [.Constant (.str "") 0 q5, .BinOp (.Constant (.str "(") 0 q6) .Mult (.Call (.Name "int" q7) [.BinOp (.BinOp (.BinOp (.Constant (.int 2) 0 q8) .Mult (.Name "size" q9) q10) .Mult (.Subscript (.Name "light" q11) (.Name "k" q12) q13) q14) .Add (.Constant (.float 4602678819172646912) 0 q15) q16] [] q17) q18] [] { line := 146, col := a4, endLine := a5, endCol := a6 }) q20] (envOf nm lSc L fa cd)) Q E s := by
  obtain ⟨hd0, d0, fr0, g0, u0⟩ := A
  cases hA
  have X := C.X
  have T := C.T
  have hxK : (hd.heap_39 w.params).lookup x = none := by
    cases e : (hd.heap_39 w.params).lookup x with
    | none => rfl
    | some o => have := X x o e; rw [hxn.1] at this; cases this
  have a' := a
  obtain ⟨its, n, tk₀, k₀, hx, hdx, hps⟩ := a'
  have N₁ : News h₀ L s.heap [(Lt, { cls := .type "tuple", data := .seq #[.float l0 ta, .float l1 tb, .float l2 tc] nt }), (Ln, W.listOf #[.ref y0, .ref x, .ref y2] 0), (x, accObj dx its n), (dx, accDict w.params tk₀ k₀)] := by
    intro q hq
    rcases List.mem_cons.mp hq with rfl | hq
    · exact N _ (.head _)
    rcases List.mem_cons.mp hq with rfl | hq
    · exact N _ (.tail _ (.head _))
    rcases List.mem_cons.mp hq with rfl | hq
    · exact ⟨hx, hxn.2, hxn.1⟩
    obtain rfl := List.mem_singleton.mp hq
    exact ⟨hdx, hdn.2, hdn.1⟩
  clear N
  k_steps
  rw [hX.2.2]
  refine accPush (C.keeps F.keep) a hxK rfl hroom hn fun h' tk k1 a2 => ?_
  exact wpAny_execs_nil (hQ h' tk k1 a2)

theorem turn2 {h₀ : Heap} {L Ln Lt x dx y0 y1 : Addr} {m₁ : Str → Option Value} {size : Int} {ts tk ta tb tc : Tok} {nt lv : Nat} {l0 l1 l2 : UInt64} {ps : List (Str × Str)} {nm : Str} {cd : Value} {Q : Flow → Shared → Prop} {a1 a2 a3 a4 a5 a6 : Nat} {q1 q2 q3 q5 q6 q7 q8 q9 q10 q11 q12 q13 q14 q15 q16 q17 q18 q20 : Pos}
    (hA : A.handled = none) (hroom : A.depth < recursionLimit) (C : Ctx w p loose mg mb bm ob h₀) (hs2 : 2 ≤ size) (hs8 : size ≤ 8) (hlv : lv ≤ 16)
    (hX : Float64.isNaN (Float64.add (Float64.mul (Float64.ofInt (2 * size)) l2) 4602678819172646912) = false ∧ Float64.isInf (Float64.add (Float64.mul (Float64.ofInt (2 * size)) l2) 4602678819172646912) = false ∧ Flt.toInt Float64.truncOf (Float64.add (Float64.mul (Float64.ofInt (2 * size)) l2) 4602678819172646912) = lv)
    (F : Fr h₀ L s.heap (fun y => if y = "k" then some (.int 2 tk) else if y = "light" then some (.ref Lt) else if y = "size" then some (.int size ts) else if y = "lines" then some (.ref Ln) else m₁ y))
    (N : News h₀ L s.heap [(Lt, { cls := .type "tuple", data := .seq #[.float l0 ta, .float l1 tb, .float l2 tc] nt }), (Ln, W.listOf #[.ref y0, .ref y1, .ref x] 0)])
    (a : Acc w.params s.heap x dx ps) (hxn : h₀.get? x = none ∧ x ≠ L) (hdn : h₀.get? dx = none ∧ dx ≠ L) (hn : ps.length ≤ 1000)
    (hQ : ∀ h' tk, (∀ b o, b ≠ x → s.heap.get? b = some o → h'.get? b = some o) → Acc w.params h' x dx (ps ++ [(Str.ofString "", Txt.mul (Str.ofString "(") lv)]) → Q .next { s with heap := h', toks := tk }) :
    wpAny (model prog w) A (execs [.Expr (.Call (.Attribute (.Subscript (.Name "lines" q1) (.Name "k" q2) q3) "push" { line := a1, col := a2, endLine := 146, endCol := a3 }) [.Constant (.str "") 0 q5, .BinOp (.Constant (.str "(") 0 q6) .Mult (.Call (.Name "int" q7) [.BinOp (.BinOp (.BinOp (.Constant (.int 2) 0 q8) .Mult (.Name "size" q9) q10) .Mult (.Subscript (.Name "light" q11) (.Name "k" q12) q13) q14) .Add (.Constant (.float 4602678819172646912) 0 q15) q16] [] q17) q18] [] { line := 146, col := a4, endLine := a5, endCol := a6 }) q20] (envOf nm lSc L fa cd)) Q E s := by
  obtain ⟨hd0, d0, fr0, g0, u0⟩ := A
  cases hA
  have X := C.X
  have T := C.T
  have hxK : (hd.heap_39 w.params).lookup x = none := by
    cases e : (hd.heap_39 w.params).lookup x with
    | none => rfl
    | some o => have := X x o e; rw [hxn.1] at this; cases this
  have a' := a
  obtain ⟨its, n, tk₀, k₀, hx, hdx, hps⟩ := a'
  have N₁ : News h₀ L s.heap [(Lt, { cls := .type "tuple", data := .seq #[.float l0 ta, .float l1 tb, .float l2 tc] nt }), (Ln, W.listOf #[.ref y0, .ref y1, .ref x] 0), (x, accObj dx its n), (dx, accDict w.params tk₀ k₀)] := by
    intro q hq
    rcases List.mem_cons.mp hq with rfl | hq
    · exact N _ (.head _)
    rcases List.mem_cons.mp hq with rfl | hq
    · exact N _ (.tail _ (.head _))
    rcases List.mem_cons.mp hq with rfl | hq
    · exact ⟨hx, hxn.2, hxn.1⟩
    obtain rfl := List.mem_singleton.mp hq
    exact ⟨hdx, hdn.2, hdn.1⟩
  clear N
  k_steps
  rw [hX.2.2]
  refine accPush (C.keeps F.keep) a hxK rfl hroom hn fun h' tk k1 a2 => ?_
  exact wpAny_execs_nil (hQ h' tk k1 a2)

end


/-! ## R2 -/
section
set_option maxRecDepth 100000
set_option maxHeartbeats 8000000
section
variable {prog : Program} {w : World} {A : Around} {E : Value → Shared → Prop} {s : Shared} {p : Program} {loose : List Str} {mg mb : Str → Option Value} {bm : Addr} {ob : Obj}

/-- what a step may change, none of it a tuple -/
def Stays (S : List Addr) (h h' : Heap) : Prop := ∀ b o, b ∉ S → h.get? b = some o → h'.get? b = some o
theorem Stays.refl (S : List Addr) (h : Heap) : Stays S h h := fun _ _ _ e => e
theorem Stays.trans {S : List Addr} {h h₁ h₂ : Heap} (x : Stays S h h₁) (y : Stays S h₁ h₂) : Stays S h h₂ := fun b o hb e => y b o hb (x b o hb e)
theorem Stays.one {S : List Addr} {a : Addr} {h h' : Heap} (ha : a ∈ S) (k : ∀ b o, b ≠ a → h.get? b = some o → h'.get? b = some o) : Stays S h h' := fun b o hb e => k b o (fun e' => hb (e' ▸ ha)) e
theorem Stays.all {S : List Addr} {h h' : Heap} (k : ∀ b o, h.get? b = some o → h'.get? b = some o) : Stays S h h' := fun b o _ e => k b o e

theorem Acc.stays {P : Params} {h h' : Heap} {x dx : Addr} {ps : List (Str × Str)} {S : List Addr} (a : Acc P h x dx ps) (k : Stays S h h') (hx : x ∉ S) (hd : dx ∉ S) (ht : ∀ b ∈ S, ∀ o its n, h.get? b = some o → o.cls = .type "tuple" → o.data = .seq its n → False) : Acc P h' x dx ps := by
  obtain ⟨its, n, tk, k₀, h1, h2, h3⟩ := a
  refine ⟨its, n, tk, k₀, k _ _ hx h1, k _ _ hd h2, h3.1, fun i q e => ?_⟩
  obtain ⟨T, t, u, e1, o, ho, hc, n', r⟩ := h3.2 i q e
  exact ⟨T, t, u, e1, o, k _ _ (fun hm => ht T hm o _ _ ho hc r) ho, hc, n', r⟩

theorem canonK {m : Str → Option Value} {v a b c : Value} (h1 : m "light" = some a) (h2 : m "size" = some b) (h3 : m "lines" = some c) :
    (fun (y : Str) => if y = "k" then some v else m y) = (fun (y : Str) => if y = "k" then some v else if y = "light" then some a else if y = "size" then some b else if y = "lines" then some c else m y) := by
  funext y
  by_cases e1 : y = "light"
  · subst e1; rw [h1]; simp
  · by_cases e2 : y = "size"
    · subst e2; rw [h2]; simp [e1]
    · by_cases e3 : y = "lines"
      · subst e3; rw [h3]; simp [e1, e2]
      · simp only [if_neg e1, if_neg e2, if_neg e3]

/-- the three accumulators and the list that holds them -/
structure Lines (P : Params) (b h : Heap) (L Ln x0 d0 x1 d1 x2 d2 : Addr) (ps0 ps1 ps2 : List (Str × Str)) : Prop where
  ln : h.get? Ln = some (W.listOf #[.ref x0, .ref x1, .ref x2] 0)
  a0 : Acc P h x0 d0 ps0
  a1 : Acc P h x1 d1 ps1
  a2 : Acc P h x2 d2 ps2
  new : ∀ c ∈ [Ln, x0, d0, x1, d1, x2, d2], b.get? c = none ∧ c ≠ L
  n01 : x0 ≠ x1
  n02 : x0 ≠ x2
  n12 : x1 ≠ x2

theorem Lines.keep {P : Params} {b h h' : Heap} {L Ln x0 d0 x1 d1 x2 d2 : Addr} {ps0 ps1 ps2 : List (Str × Str)} {S : List Addr} {m : Str → Option Value} (l : Lines P b h L Ln x0 d0 x1 d1 x2 d2 ps0 ps1 ps2) (hn : h.Ns L m) (k : Stays S h h')
    (hS : ∀ c ∈ S, c = L ∨ ∃ x left step, IsRangeIter h c x left step) : Lines P b h' L Ln x0 d0 x1 d1 x2 d2 ps0 ps1 ps2 := by
  have tup : ∀ c ∈ S, ∀ o its n, h.get? c = some o → o.cls = .type "tuple" → o.data = .seq its n → False := fun c hc o its n e h1 h2 => by
    rcases hS c hc with rfl | ⟨x, left, step, hr⟩
    · obtain ⟨o', es, ep, e', hd, -⟩ := hn
      rw [e] at e'; cases e'; rw [h2] at hd; cases hd
    · unfold IsRangeIter at hr; rw [e] at hr; cases hr; simp at h1
  have out : ∀ c o, c ∈ [Ln, x0, d0, x1, d1, x2, d2] → h.get? c = some o → (∀ vs, o.data ≠ .fields vs) → c ∉ S := fun c o hc e hf hm => by
    rcases hS c hm with rfl | ⟨x, left, step, hr⟩
    · exact (l.new _ hc).2 rfl
    · unfold IsRangeIter at hr; rw [e] at hr; cases hr; exact hf _ rfl
  have o1 : ∀ {x dx ps}, x ∈ [Ln, x0, d0, x1, d1, x2, d2] → dx ∈ [Ln, x0, d0, x1, d1, x2, d2] → Acc P h x dx ps → x ∉ S ∧ dx ∉ S := fun hx hd a => by
    obtain ⟨its, n, tk, k₀, h1, h2, -⟩ := a
    exact ⟨out _ _ hx h1 (fun _ e => by cases e), out _ _ hd h2 (fun _ e => by cases e)⟩
  have p0 := o1 (by simp) (by simp) l.a0
  have p1 := o1 (by simp) (by simp) l.a1
  have p2 := o1 (by simp) (by simp) l.a2
  exact ⟨k _ _ (out _ _ (by simp) l.ln (fun _ e => by cases e)) l.ln, l.a0.stays k p0.1 p0.2 tup, l.a1.stays k p1.1 p1.2 tup, l.a2.stays k p2.1 p2.2 tup, l.new, l.n01, l.n02, l.n12⟩

/-- another accumulator changes -/
theorem Acc.other {P : Params} {h h' : Heap} {x dx y dy : Addr} {ps qs : List (Str × Str)} (a : Acc P h x dx ps) (b : Acc P h y dy qs) (k : ∀ c o, c ≠ y → h.get? c = some o → h'.get? c = some o) (hxy : x ≠ y) : Acc P h' x dx ps := by
  have b' := b
  obtain ⟨its', n', tk', k', g1, g2, -⟩ := b'
  refine a.stays (S := [y]) (Stays.one (.head _) k) (fun hm => hxy (List.mem_singleton.mp hm)) (fun hm => ?_) fun c hc o its n e h1 _ => ?_
  · obtain ⟨its, n, tk, k₀, h1, h2, -⟩ := a
    rw [List.mem_singleton.mp hm, g1] at h2
    cases h2
  · rw [List.mem_singleton.mp hc, g1] at e
    cases e
    cases h1

theorem Lines.ln_other {P : Params} {b h h' : Heap} {L Ln x0 d0 x1 d1 x2 d2 y dy : Addr} {ps0 ps1 ps2 qs : List (Str × Str)} (l : Lines P b h L Ln x0 d0 x1 d1 x2 d2 ps0 ps1 ps2) (a : Acc P h y dy qs) (k : ∀ c o, c ≠ y → h.get? c = some o → h'.get? c = some o) : h'.get? Ln = some (W.listOf #[.ref x0, .ref x1, .ref x2] 0) := by
  obtain ⟨its', n', tk', k', g1, g2, -⟩ := a
  refine k _ _ (fun e => ?_) l.ln
  have := l.ln
  rw [e, g1] at this
  cases this

theorem Lines.set0 {P : Params} {b h h' : Heap} {L Ln x0 d0 x1 d1 x2 d2 : Addr} {ps0 ps1 ps2 qs : List (Str × Str)} (l : Lines P b h L Ln x0 d0 x1 d1 x2 d2 ps0 ps1 ps2) (k : ∀ c o, c ≠ x0 → h.get? c = some o → h'.get? c = some o) (a : Acc P h' x0 d0 qs) : Lines P b h' L Ln x0 d0 x1 d1 x2 d2 qs ps1 ps2 :=
  ⟨l.ln_other l.a0 k, a, l.a1.other l.a0 k l.n01.symm, l.a2.other l.a0 k l.n02.symm, l.new, l.n01, l.n02, l.n12⟩
theorem Lines.set1 {P : Params} {b h h' : Heap} {L Ln x0 d0 x1 d1 x2 d2 : Addr} {ps0 ps1 ps2 qs : List (Str × Str)} (l : Lines P b h L Ln x0 d0 x1 d1 x2 d2 ps0 ps1 ps2) (k : ∀ c o, c ≠ x1 → h.get? c = some o → h'.get? c = some o) (a : Acc P h' x1 d1 qs) : Lines P b h' L Ln x0 d0 x1 d1 x2 d2 ps0 qs ps2 :=
  ⟨l.ln_other l.a1 k, l.a0.other l.a1 k l.n01, a, l.a2.other l.a1 k l.n12.symm, l.new, l.n01, l.n02, l.n12⟩
theorem Lines.set2 {P : Params} {b h h' : Heap} {L Ln x0 d0 x1 d1 x2 d2 : Addr} {ps0 ps1 ps2 qs : List (Str × Str)} (l : Lines P b h L Ln x0 d0 x1 d1 x2 d2 ps0 ps1 ps2) (k : ∀ c o, c ≠ x2 → h.get? c = some o → h'.get? c = some o) (a : Acc P h' x2 d2 qs) : Lines P b h' L Ln x0 d0 x1 d1 x2 d2 ps0 ps1 qs :=
  ⟨l.ln_other l.a2 k, l.a0.other l.a2 k l.n02, l.a1.other l.a2 k l.n12, a, l.new, l.n01, l.n02, l.n12⟩

theorem lookup_none {h₀ : Heap} {x : Addr} (X : (hd.heap_39 w.params).In h₀) (hx : h₀.get? x = none) : (hd.heap_39 w.params).lookup x = none := by
  cases e : (hd.heap_39 w.params).lookup x with
  | none => rfl
  | some o => have := X x o e; rw [hx] at this; cases this
end

end

/-! ## R3 -/
section
set_option maxRecDepth 100000
set_option maxHeartbeats 8000000
section
variable {fa : Addr} {prog : Program} {w : World} {A : Around} {E : Value → Shared → Prop} {s : Shared} {p : Program} {loose : List Str} {mg mb : Str → Option Value} {bm : Addr} {ob : Obj}

/-- one push of opening brackets, if its turn has come -/
def grow (b : Bool) (ps : List (Str × Str)) (v : Nat) : List (Str × Str) := if b then ps ++ [(Str.ofString "", Txt.mul (Str.ofString "(") v)] else ps

theorem inner_loop {R : Result → Shared → Prop} {h₀ : Heap} {L Ln Lt it x0 d0 x1 d1 x2 d2 : Addr} {m : Str → Option Value} {size : Int} {ts ta tb tc : Tok} {nt v0 v1 v2 : Nat} {l0 l1 l2 : UInt64} {ps0 ps1 ps2 : List (Str × Str)} {nm : Str} {cd : Value} {a1 a2 a3 a4 a5 a6 : Nat} {q0 q1 q2 q3 q5 q6 q7 q8 q9 q10 q11 q12 q13 q14 q15 q16 q17 q18 q20 : Pos}
    (hA : A.handled = none) (hroom : A.depth < recursionLimit) (C : Ctx w p loose mg mb bm ob h₀) (hs2 : 2 ≤ size) (hs8 : size ≤ 8) (hv0 : v0 ≤ 16) (hv1 : v1 ≤ 16) (hv2 : v2 ≤ 16)
    (hX0 : Float64.isNaN (Float64.add (Float64.mul (Float64.ofInt (2 * size)) l0) 4602678819172646912) = false ∧ Float64.isInf (Float64.add (Float64.mul (Float64.ofInt (2 * size)) l0) 4602678819172646912) = false ∧ Flt.toInt Float64.truncOf (Float64.add (Float64.mul (Float64.ofInt (2 * size)) l0) 4602678819172646912) = v0) (hX1 : Float64.isNaN (Float64.add (Float64.mul (Float64.ofInt (2 * size)) l1) 4602678819172646912) = false ∧ Float64.isInf (Float64.add (Float64.mul (Float64.ofInt (2 * size)) l1) 4602678819172646912) = false ∧ Flt.toInt Float64.truncOf (Float64.add (Float64.mul (Float64.ofInt (2 * size)) l1) 4602678819172646912) = v1) (hX2 : Float64.isNaN (Float64.add (Float64.mul (Float64.ofInt (2 * size)) l2) 4602678819172646912) = false ∧ Float64.isInf (Float64.add (Float64.mul (Float64.ofInt (2 * size)) l2) 4602678819172646912) = false ∧ Flt.toInt Float64.truncOf (Float64.add (Float64.mul (Float64.ofInt (2 * size)) l2) 4602678819172646912) = v2)
    (F : Fr h₀ L s.heap m) (hm1 : m "light" = some (.ref Lt)) (hm2 : m "size" = some (.int size ts)) (hm3 : m "lines" = some (.ref Ln))
    (hLt : s.heap.get? Lt = some { cls := .type "tuple", data := .seq #[.float l0 ta, .float l1 tb, .float l2 tc] nt }) (hLt0 : h₀.get? Lt = none ∧ Lt ≠ L) (l : Lines w.params h₀ s.heap L Ln x0 d0 x1 d1 x2 d2 ps0 ps1 ps2)
    (hit : IsRangeIter s.heap it 0 3 1) (hi0 : h₀.get? it = none ∧ it ≠ L) (hn0 : ps0.length ≤ 1000) (hn1 : ps1.length ≤ 1000) (hn2 : ps2.length ≤ 1000)
    (hR : ∀ h' tk m', Fr h₀ L h' m' → (∀ y, y ≠ Str.ofString "k" → m' y = m y) → Lines w.params h₀ h' L Ln x0 d0 x1 d1 x2 d2 (grow true ps0 v0) (grow true ps1 v1) (grow true ps2 v2) → Stays [L, it, x0, x1, x2] s.heap h' → R (.ok .next) { s with heap := h', toks := tk }) :
    codeAny (model prog w) A (.forLoop (.Name "k" q0) (.ref it) [.Expr (.Call (.Attribute (.Subscript (.Name "lines" q1) (.Name "k" q2) q3) "push" { line := a1, col := a2, endLine := 146, endCol := a3 }) [.Constant (.str "") 0 q5, .BinOp (.Constant (.str "(") 0 q6) .Mult (.Call (.Name "int" q7) [.BinOp (.BinOp (.BinOp (.Constant (.int 2) 0 q8) .Mult (.Name "size" q9) q10) .Mult (.Subscript (.Name "light" q11) (.Name "k" q12) q13) q14) .Add (.Constant (.float 4602678819172646912) 0 q15) q16] [] q17) q18] [] { line := 146, col := a4, endLine := a5, endCol := a6 }) q20] [] (envOf nm lSc L fa cd)) R s := by
  refine codeAny_forLoop_any (fun n s' => ∃ (j : Nat) (h' : Heap) (tk : Nat) (m' : Str → Option Value), j ≤ 3 ∧ n = 4 - j ∧ s' = { s with heap := h', toks := tk } ∧ Fr h₀ L h' m' ∧ (∀ y, y ≠ Str.ofString "k" → m' y = m y) ∧ IsRangeIter h' it (j : Nat) (3 - j : Int) 1 ∧
      h'.get? Lt = some { cls := .type "tuple", data := .seq #[.float l0 ta, .float l1 tb, .float l2 tc] nt } ∧ Stays [L, it, x0, x1, x2] s.heap h' ∧ Lines w.params h₀ h' L Ln x0 d0 x1 d1 x2 d2 (grow (decide (0 < j)) ps0 v0) (grow (decide (1 < j)) ps1 v1) (grow (decide (2 < j)) ps2 v2)) ?_ 4
    ⟨0, s.heap, s.toks, m, by omega, rfl, rfl, F, fun _ _ => rfl, (by simpa using hit), hLt, Stays.refl _ _, l⟩
  rintro n s' ⟨j, h', tk, m', hj, rfl, rfl, F', hm', hit', hLt', hst, l'⟩
  have ne1 : (Str.ofString "light") ≠ Str.ofString "k" := by decide +kernel
  have ne2 : (Str.ofString "size") ≠ Str.ofString "k" := by decide +kernel
  have ne3 : (Str.ofString "lines") ≠ Str.ofString "k" := by decide +kernel
  rcases Nat.lt_or_ge j 3 with hlt | hge
  · refine wpAny_pyNext_range_item hit' (by omega) fun h₁ hit₁ hs₁ => ?_
    replace hs₁ : Heap.SameBut it h' h₁ := hs₁
    refine wpAny_pure (a := ()) ?_
    have F₁ : Fr h₀ L h₁ m' := F'.change hs₁ hi0.2 hi0.1
    refine wpAny_assign_Name (wpAny_storeName_local rfl F₁.ns (fun h₂ hn₂ hs₂ => ?_) rfl)
    replace hs₂ : Heap.SameBut L h₁ h₂ := hs₂
    have F₂ := F₁.set hn₂ hs₂
    have st₂ : Stays [L, it] h' h₂ := fun b o hb e => (hs₂.2 b fun h => hb (by simp [h])).trans ((hs₁.2 b fun h => hb (by simp [h])).trans e)
    have l₂ := l'.keep F'.ns st₂ fun c hc => by
      rcases List.mem_cons.mp hc with rfl | hc
      · exact .inl rfl
      · rw [List.mem_singleton.mp hc]; exact .inr ⟨_, _, _, hit'⟩
    have hLit : Lt ≠ it := fun e => by unfold IsRangeIter at hit'; rw [← e, hLt'] at hit'; exact absurd (congrArg Obj.cls (Option.some.inj hit')) (by simp)
    have hLt₂ := st₂ Lt _ (by simp [hLt0.2, hLit]) hLt'
    have hit₂ : IsRangeIter h₂ it ((j : Int) + 1) (3 - j - 1) 1 := (hs₂.2 it hi0.2).trans hit₁
    have hm₂1 := (hm' _ ne1).trans hm1
    have hm₂2 := (hm' _ ne2).trans hm2
    have hm₂3 := (hm' _ ne3).trans hm3
    have F₃ : Fr h₀ L h₂ (fun (y : Str) => if y = "k" then some (.int (j : Int) tk) else if y = "light" then some (.ref Lt) else if y = "size" then some (.int size ts) else if y = "lines" then some (.ref Ln) else m' y) := canonK hm₂1 hm₂2 hm₂3 ▸ F₂
    have N₂ : News h₀ L h₂ [(Lt, { cls := .type "tuple", data := .seq #[.float l0 ta, .float l1 tb, .float l2 tc] nt }), (Ln, W.listOf #[.ref x0, .ref x1, .ref x2] 0)] := by
      intro q hq
      rcases List.mem_cons.mp hq with rfl | hq
      · exact ⟨hLt₂, hLt0.2, hLt0.1⟩
      · obtain rfl := List.mem_singleton.mp hq
        exact ⟨l₂.ln, (l.new Ln (by simp)).2, (l.new Ln (by simp)).1⟩
    have st' : Stays [L, it, x0, x1, x2] s.heap h₂ := hst.trans fun b o hb e => st₂ b o (fun hm => hb (by simp at hm ⊢; rcases hm with h | h <;> simp [h])) e
    have itx : ∀ {c dc qs}, Acc w.params h₂ c dc qs → it ≠ c := fun a e => by
      obtain ⟨its, n, tk, k₀, h1, -⟩ := a
      unfold IsRangeIter at hit₂
      rw [e, h1] at hit₂; cases hit₂
    have Ltx : ∀ {c dc qs}, Acc w.params h₂ c dc qs → Lt ≠ c := fun a e => by
      obtain ⟨its, n, tk, k₀, h1, -⟩ := a
      rw [e, h1] at hLt₂; cases hLt₂
    have hj' : j = 0 ∨ j = 1 ∨ j = 2 := by omega
    rcases hj' with rfl | rfl | rfl
    · refine turn0 hA hroom C hs2 hs8 hv0 hX0 F₃ N₂ l₂.a0 (l.new x0 (by simp)) (l.new d0 (by simp)) hn0 fun h₄ tk₄ k₄ a₄ => ?_
      have F₄ : Fr h₀ L h₄ _ := ⟨F₃.ns.at' fun o e => k₄ L o (l.new x0 (by simp)).2.symm e, fun b o e => k₄ b o (fun h => by rw [h, (l.new x0 (by simp)).1] at e; cases e) (F₃.keep b o e), F₃.above⟩
      refine ⟨4 - 1, by omega, 1, h₄, tk₄, _, by omega, rfl, rfl, F₄, fun y hy => ?_, ?_, ?_, ?_, ?_⟩
      · have e := congrFun (canonK (v := .int ((0 : Nat) : Int) tk) hm₂1 hm₂2 hm₂3) y
        rw [← e, if_neg hy]
        exact hm' y hy
      · exact k₄ _ _ (itx l₂.a0) hit₂
      · exact k₄ _ _ (Ltx l₂.a0) hLt₂
      · exact st'.trans (Stays.one (a := x0) (by simp) k₄)
      · exact l₂.set0 k₄ a₄
    · refine turn1 hA hroom C hs2 hs8 hv1 hX1 F₃ N₂ l₂.a1 (l.new x1 (by simp)) (l.new d1 (by simp)) hn1 fun h₄ tk₄ k₄ a₄ => ?_
      have F₄ : Fr h₀ L h₄ _ := ⟨F₃.ns.at' fun o e => k₄ L o (l.new x1 (by simp)).2.symm e, fun b o e => k₄ b o (fun h => by rw [h, (l.new x1 (by simp)).1] at e; cases e) (F₃.keep b o e), F₃.above⟩
      refine ⟨4 - 2, by omega, 2, h₄, tk₄, _, by omega, rfl, rfl, F₄, fun y hy => ?_, ?_, ?_, ?_, ?_⟩
      · have e := congrFun (canonK (v := .int ((1 : Nat) : Int) tk) hm₂1 hm₂2 hm₂3) y
        rw [← e, if_neg hy]
        exact hm' y hy
      · exact k₄ _ _ (itx l₂.a1) hit₂
      · exact k₄ _ _ (Ltx l₂.a1) hLt₂
      · exact st'.trans (Stays.one (a := x1) (by simp) k₄)
      · exact l₂.set1 k₄ a₄
    · refine turn2 hA hroom C hs2 hs8 hv2 hX2 F₃ N₂ l₂.a2 (l.new x2 (by simp)) (l.new d2 (by simp)) hn2 fun h₄ tk₄ k₄ a₄ => ?_
      have F₄ : Fr h₀ L h₄ _ := ⟨F₃.ns.at' fun o e => k₄ L o (l.new x2 (by simp)).2.symm e, fun b o e => k₄ b o (fun h => by rw [h, (l.new x2 (by simp)).1] at e; cases e) (F₃.keep b o e), F₃.above⟩
      refine ⟨4 - 3, by omega, 3, h₄, tk₄, _, by omega, rfl, rfl, F₄, fun y hy => ?_, ?_, ?_, ?_, ?_⟩
      · have e := congrFun (canonK (v := .int ((2 : Nat) : Int) tk) hm₂1 hm₂2 hm₂3) y
        rw [← e, if_neg hy]
        exact hm' y hy
      · exact k₄ _ _ (itx l₂.a2) hit₂
      · exact k₄ _ _ (Ltx l₂.a2) hLt₂
      · exact st'.trans (Stays.one (a := x2) (by simp) k₄)
      · exact l₂.set2 k₄ a₄
  · have : j = 3 := by omega
    subst this
    refine wpAny_pyNext_range_end hA hit' (by omega) fun h₁ he₁ => ?_
    replace he₁ : Heap.ExtBut it h' h₁ := he₁
    refine wpAny_execs_nil ?_
    have st₁ : Stays [it] h' h₁ := fun b o hb e => he₁ b o (fun h => hb (by simp [h])) e
    have F₁ : Fr h₀ L h₁ m' := ⟨F'.ns.at' fun o e => he₁ L o hi0.2.symm e, fun b o e => he₁ b o (fun h => by rw [h, hi0.1] at e; cases e) (F'.keep b o e), F'.above⟩
    exact hR h₁ _ m' F₁ hm' (l'.keep F'.ns st₁ fun c hc => by rw [List.mem_singleton.mp hc]; exact .inr ⟨_, _, _, hit'⟩) (hst.trans fun b o hb e => st₁ b o (fun hm => hb (by simp at hm ⊢; simp [hm])) e)
end

end

/-! ## R4 -/
section
set_option maxRecDepth 100000
set_option maxHeartbeats 8000000
section
variable {fa : Addr} {prog : Program} {w : World} {A : Around} {E : Value → Shared → Prop} {s : Shared} {p : Program} {loose : List Str} {mg mb : Str → Option Value} {bm : Addr} {ob : Obj}

theorem hls_callF {h : UInt64} {t1 t2 t3 : Tok} {h₀ : Heap} {L : Addr} {m : Str → Option Value} {news : List (Addr × Obj)} {Q : Value → Shared → Prop} (F : Fr h₀ L s.heap m) (N : News h₀ L s.heap news) (X : (hd.heap_39 w.params).In h₀) (T : TopRead p loose mg mb h₀) (hA : A.handled = none) (hroom : A.depth + 1 < recursionLimit)
    (hQ : ∀ h' tk a n ta tb tc, Fr h₀ L h' m → News h₀ L h' ((a, { cls := .type "tuple", data := .seq #[.float (lightF h).1 ta, .float (lightF h).2.1 tb, .float (lightF h).2.2 tc] n }) :: news) → Q (.ref a) { s with heap := h', toks := tk }) :
    wpAny (model prog w) A (call (.ref 28) [.float h t1, .float 4602678819172646912 t2, .float 4607182418800017408 t3]) Q E s := by
  refine hls_call (X.keeps F.keep) (T.keeps F.keep) hA hroom fun h' tk a n ta tb tc k ha0 ha => hQ h' tk a n ta tb tc ⟨F.ns.keeps k, fun b o e => k b o (F.keep b o e), F.above⟩ fun q hq => ?_
  rcases List.mem_cons.mp hq with rfl | hq
  · refine ⟨ha, fun e => ?_, ?_⟩
    · obtain ⟨oL, _, _, hL, -⟩ := F.ns
      have e' : a = L := e
      rw [e', hL] at ha0; cases ha0
    · cases e : h₀.get? a with
      | none => rfl
      | some o => have := F.keep a o e; rw [ha0] at this; cases this
  · exact ⟨k _ _ (N q hq).1, (N q hq).2⟩


/-- how the statement that makes a light ends -/
def LightOut (h₀ : Heap) (L : Addr) (m : Str → Option Value) (h : UInt64) (nw : List (Addr × Obj)) (s : Shared) (f : Flow) (s' : Shared) : Prop :=
  f = .next ∧ ∃ h' tk a n ta tb tc, s' = { s with heap := h', toks := tk } ∧ Fr h₀ L h' (fun y => if y = "light" then some (.ref a) else m y) ∧ News h₀ L h' ((a, { cls := .type "tuple", data := .seq #[.float (lightF h).1 ta, .float (lightF h).2.1 tb, .float (lightF h).2.2 tc] n }) :: nw)

theorem LightOut.go {M₀ : Model} {t₀ : Sem Flow} {h₀ : Heap} {L : Addr} {m : Str → Option Value} {h : UInt64} {nw : List (Addr × Obj)} {G : Flow → Shared → Prop} (o : wpAny M₀ A t₀ (LightOut h₀ L m h nw s) (fun _ _ => False) s)
    (k : ∀ h' tk a n ta tb tc, Fr h₀ L h' (fun y => if y = "light" then some (.ref a) else m y) → News h₀ L h' ((a, { cls := .type "tuple", data := .seq #[.float (lightF h).1 ta, .float (lightF h).2.1 tb, .float (lightF h).2.2 tc] n }) :: nw) → G .next { s with heap := h', toks := tk }) : wpAny M₀ A t₀ G E s :=
  wpAny_mono o (fun f s' ho => by
    obtain ⟨rfl, h', tk, a, n, ta, tb, tc, rfl, F, N⟩ := ho
    exact k _ _ _ _ _ _ _ F N) fun _ _ z => z.elim

theorem light_stmt {h₀ : Heap} {L : Addr} {m₁ : Str → Option Value} {size start i : Int} {ts tt ti : Tok} {nw : List (Addr × Obj)} {nm : Str} {cd : Value} {q1 q2 q3 q4 q5 q6 q7 q8 q9 q10 q11 q12 q13 q14 q15 : Pos}
    (hA : A.handled = none) (hroom : A.depth + 1 < recursionLimit) (C : Ctx w p loose mg mb bm ob h₀) (hs2 : 2 ≤ size) (hs8 : size ≤ 8) (hlo : -96 ≤ start) (hhi : start ≤ 200) (hi0 : 0 ≤ i) (hi8 : i ≤ 8)
    (F : Fr h₀ L s.heap (fun y => if y = "i" then some (.int i ti) else if y = "start" then some (.int start tt) else if y = "size" then some (.int size ts) else m₁ y)) (N : News h₀ L s.heap nw) :
    wpAny (model prog w) A (exec (.Assign [.Name "light" q1] (.Call (.Name "hls_to_rgb" q2) [.BinOp (.BinOp (.Name "start" q3) .Add (.BinOp (.Constant (.int 12) 0 q4) .Mult (.Name "i" q5) q6) q7) .Div (.BinOp (.Constant (.int 12) 0 q8) .Mult (.Name "size" q9) q10) q11, .Constant (.float 4602678819172646912) 0 q12, .Constant (.float 4607182418800017408) 0 q13] [] q14) q15) (envOf nm lSc L fa cd))
      (LightOut h₀ L (fun y => if y = "i" then some (.int i ti) else if y = "start" then some (.int start tt) else if y = "size" then some (.int size ts) else m₁ y) (fq (start + 12 * i) (12 * size)) nw s) E s := by
  obtain ⟨hd0, d0, fr0, g0, u0⟩ := A
  cases hA
  have X := C.X
  have T := C.T
  have hroom' : d0 + 1 < recursionLimit := hroom
  k_steps
  rename Fr _ _ _ _ => F1
  rename News _ _ _ _ => N1
  refine hls_callF F1 N1 X T rfl hroom' fun h' tk' a' n' ta' tb' tc' F' N' => ?_
  clear F1 N1
  try dsimp only
  k_steps
  rename Fr _ _ _ _ => FF
  rename News _ _ _ _ => NN
  exact ⟨rfl, _, _, _, _, _, _, _, rfl, FF, NN⟩

theorem fin_of {X : UInt64} {v : Int} (h : truncI X = v) (h0 : 0 ≤ v) : Float64.isNaN X = false ∧ Float64.isInf X = false ∧ Flt.toInt Float64.truncOf X = v := by
  unfold truncI at h
  unfold Float64.isNaN Float64.isInf Flt.toInt
  split at h
  · rename_i a m e hd
    rw [hd]
    exact ⟨rfl, rfl, h⟩
  · omega

theorem want_range {m : Nat} {n : Int} {k : Nat} (h8 : m ≤ 8) : 0 ≤ want m n k ∧ want m n k ≤ 16 := by
  unfold want
  omega

/-- what a light's three numbers are good for -/
theorem light_facts {m : Nat} {n : Int} (h2 : 2 ≤ m) (h8 : m ≤ 8) (hlo : -(12 * m : Int) ≤ n) (hhi : n < 36 * m) :
    (∀ l k, (l = (lightF (fq n (12 * m))).1 ∧ k = 0) ∨ (l = (lightF (fq n (12 * m))).2.1 ∧ k = 1) ∨ (l = (lightF (fq n (12 * m))).2.2 ∧ k = 2) →
      Float64.isNaN (Float64.add (Float64.mul (Float64.ofInt (2 * (m : Int))) l) 4602678819172646912) = false ∧ Float64.isInf (Float64.add (Float64.mul (Float64.ofInt (2 * (m : Int))) l) 4602678819172646912) = false ∧
        Flt.toInt Float64.truncOf (Float64.add (Float64.mul (Float64.ofInt (2 * (m : Int))) l) 4602678819172646912) = ((want m n k).toNat : Nat)) := by
  obtain ⟨e0, e1, e2⟩ := light_ok h2 h8 hlo hhi
  have go : ∀ l k, lvl m l = want m n k → Float64.isNaN (Float64.add (Float64.mul (Float64.ofInt (2 * (m : Int))) l) 4602678819172646912) = false ∧ Float64.isInf (Float64.add (Float64.mul (Float64.ofInt (2 * (m : Int))) l) 4602678819172646912) = false ∧
        Flt.toInt Float64.truncOf (Float64.add (Float64.mul (Float64.ofInt (2 * (m : Int))) l) 4602678819172646912) = ((want m n k).toNat : Nat) := fun l k e => by
    have r := want_range (m := m) (n := n) (k := k) h8
    obtain ⟨a, b, c⟩ := fin_of (v := want m n k) e r.1
    exact ⟨a, b, by rw [c]; omega⟩
  rintro l k (⟨rfl, rfl⟩ | ⟨rfl, rfl⟩ | ⟨rfl, rfl⟩)
  · exact go _ _ e0
  · exact go _ _ e1
  · exact go _ _ e2
end

end

/-! ## R5 -/
section
set_option maxRecDepth 100000
set_option maxHeartbeats 8000000
section
variable {fa : Addr} {prog : Program} {w : World} {A : Around} {E : Value → Shared → Prop} {s : Shared} {p : Program} {loose : List Str} {mg mb : Str → Option Value} {bm : Addr} {ob : Obj}

/-- a `range` call's end -/
def RangeOut (h₀ : Heap) (L : Addr) (m : Str → Option Value) (n : Int) (s : Shared) (v : Value) (s' : Shared) : Prop :=
  ∃ h' tk r t u v', v = .ref r ∧ s' = { s with heap := h', toks := tk } ∧ Fr h₀ L h' m ∧ IsRange h' r 0 n 1 t u v' ∧ (∀ b o, s.heap.get? b = some o → h'.get? b = some o)

theorem RangeOut.go {M₀ : Model} {t₀ : Sem Value} {h₀ : Heap} {L : Addr} {m : Str → Option Value} {n : Int} {G : Value → Shared → Prop} (o : wpAny M₀ A t₀ (RangeOut h₀ L m n s) (fun _ _ => False) s)
    (k : ∀ h' tk r t u v', Fr h₀ L h' m → IsRange h' r 0 n 1 t u v' → (∀ b o, s.heap.get? b = some o → h'.get? b = some o) → G (.ref r) { s with heap := h', toks := tk }) : wpAny M₀ A t₀ G E s :=
  wpAny_mono o (fun v s' ho => by
    obtain ⟨h', tk, r, t, u, v', rfl, rfl, F, I, K⟩ := ho
    exact k _ _ _ _ _ _ F I K) fun _ _ z => z.elim

theorem range3 {h₀ : Heap} {L : Addr} {m : Str → Option Value} {nm : Str} {cd : Value} {q1 q2 q3 : Pos}
    (hA : A.handled = none) (C : Ctx w p loose mg mb bm ob h₀) (F : Fr h₀ L s.heap m) :
    wpAny (model prog w) A (eval (.Call (.Name "range" q1) [.Constant (.int 3) 0 q2] [] q3) (envOf nm lSc L fa cd)) (RangeOut h₀ L m 3 s) E s := by
  obtain ⟨hd0, d0, fr0, g0, u0⟩ := A
  cases hA
  have X := C.X
  have T := C.T
  have N : News h₀ L s.heap [] := News.nil
  k_steps
  rename IsRange _ _ _ _ _ _ _ _ => RR
  rename ∀ (b : Addr) (o : Obj), _ => KK
  rename Fr _ _ _ _ => FF
  exact ⟨_, _, _, _, _, _, rfl, rfl, FF, RR, KK⟩

theorem rangeN {h₀ : Heap} {L : Addr} {m₁ : Str → Option Value} {size : Int} {ts : Tok} {nm : Str} {cd : Value} {q1 q2 q3 : Pos}
    (hA : A.handled = none) (C : Ctx w p loose mg mb bm ob h₀) (hs2 : 2 ≤ size) (hs8 : size ≤ 8) (F : Fr h₀ L s.heap (fun y => if y = "size" then some (.int size ts) else m₁ y)) :
    wpAny (model prog w) A (eval (.Call (.Name "range" q1) [.Name "size" q2] [] q3) (envOf nm lSc L fa cd)) (RangeOut h₀ L (fun y => if y = "size" then some (.int size ts) else m₁ y) size s) E s := by
  obtain ⟨hd0, d0, fr0, g0, u0⟩ := A
  cases hA
  have X := C.X
  have T := C.T
  have N : News h₀ L s.heap [] := News.nil
  k_steps
  rename IsRange _ _ _ _ _ _ _ _ => RR
  rename ∀ (b : Addr) (o : Obj), _ => KK
  rename Fr _ _ _ _ => FF
  exact ⟨_, _, _, _, _, _, rfl, rfl, FF, RR, KK⟩

/-- the iterator of such a range -/
theorem range_iter {r : Addr} {n : Int} {t u v : Tok} {Q : Value → Shared → Prop} (hn0 : 2 ≤ n) (hn : n ≤ 8) (hr : IsRange s.heap r 0 n 1 t u v)
    (hQ : ∀ h', IsRangeIter h' s.heap.objs.size 0 n 1 → (∀ b o, s.heap.get? b = some o → h'.get? b = some o) → Q (.ref s.heap.objs.size) { s with heap := h' }) : wpAny (model prog w) A (pyIter (.ref r)) Q E s := by
  have hs : Builtin.Range.small 0 n 1 = true ∧ Builtin.Range.rangeSize 0 n 1 = n := by
    have : n = 2 ∨ n = 3 ∨ n = 4 ∨ n = 5 ∨ n = 6 ∨ n = 7 ∨ n = 8 := by omega
    rcases this with rfl | rfl | rfl | rfl | rfl | rfl | rfl <;> exact ⟨by decide, by decide⟩
  refine wpAny_pyIter_range hr hs.1 (hQ _ ?_ fun b o e => Heap.get?_push_of_some _ e)
  unfold IsRangeIter
  rw [hs.2]
  exact Heap.get?_push_size _ rfl
end

end

/-! ## R6 -/
section
set_option maxRecDepth 100000
set_option maxHeartbeats 8000000
section
variable {fa : Addr} {prog : Program} {w : World} {A : Around} {E : Value → Shared → Prop} {s : Shared} {p : Program} {loose : List Str} {mg mb : Str → Option Value} {bm : Addr} {ob : Obj}

theorem canonI {m : Str → Option Value} {v a b : Value} (h1 : m "start" = some a) (h2 : m "size" = some b) (h0 : m "i" = some v) :
    m = (fun (y : Str) => if y = "i" then some v else if y = "start" then some a else if y = "size" then some b else m y) := by
  funext y
  by_cases e0 : y = "i"
  · subst e0; rw [h0]; simp
  · by_cases e1 : y = "start"
    · subst e1; rw [h1]; simp [e0]
    · by_cases e2 : y = "size"
      · subst e2; rw [h2]; simp [e0, e1]
      · simp only [if_neg e0, if_neg e1, if_neg e2]

theorem outer_body {h₀ : Heap} {L Ln x0 d0 x1 d1 x2 d2 : Addr} {m : Str → Option Value} {M : Nat} {start : Int} {i : Nat} {ti tt ts : Tok} {ps0 ps1 ps2 : List (Str × Str)} {nm : Str} {cd : Value} {Q : Flow → Shared → Prop} {a1 a2 a3 a4 a5 a6 : Nat} {z1 z2 z3 z4 z5 z6 z7 z8 z9 z10 z11 z12 z13 z14 z15 r1 r2 r3 r4 q0 q1 q2 q3 q5 q6 q7 q8 q9 q10 q11 q12 q13 q14 q15 q16 q17 q18 q20 : Pos}
    (hA : A.handled = none) (hroom : A.depth + 1 < recursionLimit) (C : Ctx w p loose mg mb bm ob h₀) (h2 : 2 ≤ M) (h8 : M ≤ 8) (hlo : -(12 * M : Int) ≤ start) (hhi : start < 24 * M) (hi : i < M)
    (F : Fr h₀ L s.heap m) (hmi : m "i" = some (.int i ti)) (hms : m "start" = some (.int start tt)) (hmz : m "size" = some (.int M ts)) (hml : m "lines" = some (.ref Ln)) (l : Lines w.params h₀ s.heap L Ln x0 d0 x1 d1 x2 d2 ps0 ps1 ps2)
    (hn0 : ps0.length ≤ 1000) (hn1 : ps1.length ≤ 1000) (hn2 : ps2.length ≤ 1000)
    (hQ : ∀ h' tk m', Fr h₀ L h' m' → (∀ y, y ≠ Str.ofString "k" → y ≠ Str.ofString "light" → m' y = m y) → Lines w.params h₀ h' L Ln x0 d0 x1 d1 x2 d2 (grow true ps0 (want M (start + 12 * i) 0).toNat) (grow true ps1 (want M (start + 12 * i) 1).toNat) (grow true ps2 (want M (start + 12 * i) 2).toNat) →
      Stays [L, x0, x1, x2] s.heap h' → Q .next { s with heap := h', toks := tk }) :
    wpAny (model prog w) A (execs [.Assign [.Name "light" z1] (.Call (.Name "hls_to_rgb" z2) [.BinOp (.BinOp (.Name "start" z3) .Add (.BinOp (.Constant (.int 12) 0 z4) .Mult (.Name "i" z5) z6) z7) .Div (.BinOp (.Constant (.int 12) 0 z8) .Mult (.Name "size" z9) z10) z11, .Constant (.float 4602678819172646912) 0 z12, .Constant (.float 4607182418800017408) 0 z13] [] z14) z15,
      .For (.Name "k" q0) (.Call (.Name "range" r1) [.Constant (.int 3) 0 r2] [] r3) [.Expr (.Call (.Attribute (.Subscript (.Name "lines" q1) (.Name "k" q2) q3) "push" { line := a1, col := a2, endLine := 146, endCol := a3 }) [.Constant (.str "") 0 q5, .BinOp (.Constant (.str "(") 0 q6) .Mult (.Call (.Name "int" q7) [.BinOp (.BinOp (.BinOp (.Constant (.int 2) 0 q8) .Mult (.Name "size" q9) q10) .Mult (.Subscript (.Name "light" q11) (.Name "k" q12) q13) q14) .Add (.Constant (.float 4602678819172646912) 0 q15) q16] [] q17) q18] [] { line := 146, col := a4, endLine := a5, endCol := a6 }) q20] [] r4] (envOf nm lSc L fa cd)) Q E s := by
  obtain ⟨nw, NW, stay⟩ := whole F
  have Fc : Fr h₀ L s.heap (fun (y : Str) => if y = "i" then some (.int (i : Int) ti) else if y = "start" then some (.int start tt) else if y = "size" then some (.int (M : Int) ts) else m y) := canonI hms hmz hmi ▸ F
  refine wpAny_execs_cons (LightOut.go (light_stmt hA hroom C (by omega) (by omega) (by omega) (by omega) (by omega) (by omega) Fc NW) fun h₁ tk₁ Lt nt ta tb tc F₁ N₁ => ?_)
  replace F₁ : Fr h₀ L h₁ (fun y => if y = "light" then some (.ref Lt) else m y) := by rw [canonI hms hmz hmi]; exact F₁
  dsimp only
  have st₁ : Stays [L] s.heap h₁ := fun b o hb e => stay h₁ F₁.keep (fun q hq => (N₁ q (.tail _ hq)).1) b o (fun h => hb (by simp [h])) e
  have l₁ := l.keep F.ns st₁ fun c hc => .inl (List.mem_singleton.mp hc)
  have hLt := N₁ _ (.head _)
  refine wpAny_execs_cons (wpAny_For (RangeOut.go (range3 hA C F₁) fun h₂ tk₂ r t u v' F₂ hr k₂ => ?_))
  dsimp only at k₂
  refine range_iter (by decide) (by decide) hr fun h₃ hit k₃ => ?_
  dsimp only at hit k₃ ⊢
  have F₃ : Fr h₀ L h₃ _ := ⟨F₂.ns.keeps k₃, fun b o e => k₃ b o (F₂.keep b o e), F₂.above⟩
  have k13 : ∀ b o, h₁.get? b = some o → h₃.get? b = some o := fun b o e => k₃ b o (k₂ b o e)
  have l₃ := l₁.keep (S := []) F₁.ns (Stays.all k13) fun c hc => nomatch hc
  have hI : ∀ b o, h₂.get? b = some o → b ≠ h₂.objs.size := fun b o e => Nat.ne_of_lt (Heap.lt_size e)
  have hi0 : h₀.get? h₂.objs.size = none ∧ h₂.objs.size ≠ L := by
    refine ⟨?_, fun e => ?_⟩
    · cases e : h₀.get? h₂.objs.size with
      | none => rfl
      | some o => exact absurd rfl (hI _ _ (F₂.keep _ _ e))
    · exact absurd e (Nat.ne_of_gt F₂.ns.lt)
  have fx := light_facts (m := M) (n := start + 12 * i) h2 h8 (by omega) (by omega)
  have wr : ∀ k, (want M (start + 12 * i) k).toNat ≤ 16 := fun k => by have := want_range (m := M) (n := start + 12 * i) (k := k) h8; omega
  have e1 : (Str.ofString "size") ≠ Str.ofString "light" := by decide +kernel
  have e2 : (Str.ofString "lines") ≠ Str.ofString "light" := by decide +kernel
  refine inner_loop (Lt := Lt) (size := (M : Int)) (ts := ts) hA (Nat.lt_of_succ_lt hroom) C (by omega) (by omega) (wr 0) (wr 1) (wr 2) (fx _ 0 (.inl ⟨rfl, rfl⟩)) (fx _ 1 (.inr (.inl ⟨rfl, rfl⟩))) (fx _ 2 (.inr (.inr ⟨rfl, rfl⟩))) F₃ (if_pos rfl) ((if_neg e1).trans hmz) ((if_neg e2).trans hml)
    (k13 _ _ hLt.1) ⟨hLt.2.2, hLt.2.1⟩ l₃ hit hi0 hn0 hn1 hn2 fun h₄ tk₄ m₄ F₄ hm₄ l₄ st₄ => ?_
  refine wpAny_execs_nil (hQ h₄ tk₄ m₄ F₄ (fun y hk hl => (hm₄ y hk).trans (if_neg hl)) l₄ ?_)
  intro b o hb e
  have hbL : b ≠ L := fun h => hb (by simp [h])
  have e1' := st₁ b o (fun hm => hbL (List.mem_singleton.mp hm)) e
  refine st₄ b o (fun hm => ?_) (k13 _ _ e1')
  simp only [List.mem_cons, List.not_mem_nil, or_false] at hm hb
  rcases hm with h | h | h
  · exact hbL h
  · exact hI _ _ (k₂ _ _ e1') h
  · exact hb (.inr h)
end

end

/-! ## R7 -/
section
set_option maxRecDepth 100000
set_option maxHeartbeats 8000000
section
variable {fa : Addr} {prog : Program} {w : World} {A : Around} {E : Value → Shared → Prop} {s : Shared} {p : Program} {loose : List Str} {mg mb : Str → Option Value} {bm : Addr} {ob : Obj}

/-- what line k holds behind j lights -/
def pts (M : Nat) (start : Int) (k j : Nat) : List (Str × Str) := (List.range j).map fun (i : Nat) => (Str.ofString "", Txt.mul (Str.ofString "(") ((want M (start + 12 * i) k).toNat : Nat))
theorem pts_succ (M : Nat) (start : Int) (k j : Nat) : grow true (pts M start k j) (want M (start + 12 * j) k).toNat = pts M start k (j + 1) := by
  unfold grow pts
  rw [List.range_succ, List.map_append]
  rfl
theorem pts_length (M : Nat) (start : Int) (k j : Nat) : (pts M start k j).length = j := by unfold pts; simp

theorem outer_loop {R : Result → Shared → Prop} {h₀ : Heap} {L Ln it x0 d0 x1 d1 x2 d2 : Addr} {m : Str → Option Value} {M : Nat} {start : Int} {tt ts : Tok} {nm : Str} {cd : Value} {a1 a2 a3 a4 a5 a6 : Nat} {z0 z1 z2 z3 z4 z5 z6 z7 z8 z9 z10 z11 z12 z13 z14 z15 r1 r2 r3 r4 q0 q1 q2 q3 q5 q6 q7 q8 q9 q10 q11 q12 q13 q14 q15 q16 q17 q18 q20 : Pos}
    (hA : A.handled = none) (hroom : A.depth + 1 < recursionLimit) (C : Ctx w p loose mg mb bm ob h₀) (h2 : 2 ≤ M) (h8 : M ≤ 8) (hlo : -(12 * M : Int) ≤ start) (hhi : start < 24 * M)
    (F : Fr h₀ L s.heap m) (hms : m "start" = some (.int start tt)) (hmz : m "size" = some (.int M ts)) (hml : m "lines" = some (.ref Ln)) (l : Lines w.params h₀ s.heap L Ln x0 d0 x1 d1 x2 d2 [] [] [])
    (hit : IsRangeIter s.heap it 0 M 1) (hi0 : h₀.get? it = none ∧ it ≠ L)
    (hR : ∀ h' tk m', Fr h₀ L h' m' → (∀ y, y ≠ Str.ofString "k" → y ≠ Str.ofString "light" → y ≠ Str.ofString "i" → m' y = m y) → Lines w.params h₀ h' L Ln x0 d0 x1 d1 x2 d2 (pts M start 0 M) (pts M start 1 M) (pts M start 2 M) →
      Stays [L, it, x0, x1, x2] s.heap h' → R (.ok .next) { s with heap := h', toks := tk }) :
    codeAny (model prog w) A (.forLoop (.Name "i" z0) (.ref it) [.Assign [.Name "light" z1] (.Call (.Name "hls_to_rgb" z2) [.BinOp (.BinOp (.Name "start" z3) .Add (.BinOp (.Constant (.int 12) 0 z4) .Mult (.Name "i" z5) z6) z7) .Div (.BinOp (.Constant (.int 12) 0 z8) .Mult (.Name "size" z9) z10) z11, .Constant (.float 4602678819172646912) 0 z12, .Constant (.float 4607182418800017408) 0 z13] [] z14) z15,
      .For (.Name "k" q0) (.Call (.Name "range" r1) [.Constant (.int 3) 0 r2] [] r3) [.Expr (.Call (.Attribute (.Subscript (.Name "lines" q1) (.Name "k" q2) q3) "push" { line := a1, col := a2, endLine := 146, endCol := a3 }) [.Constant (.str "") 0 q5, .BinOp (.Constant (.str "(") 0 q6) .Mult (.Call (.Name "int" q7) [.BinOp (.BinOp (.BinOp (.Constant (.int 2) 0 q8) .Mult (.Name "size" q9) q10) .Mult (.Subscript (.Name "light" q11) (.Name "k" q12) q13) q14) .Add (.Constant (.float 4602678819172646912) 0 q15) q16] [] q17) q18] [] { line := 146, col := a4, endLine := a5, endCol := a6 }) q20] [] r4] [] (envOf nm lSc L fa cd)) R s := by
  refine codeAny_forLoop_any (fun n s' => ∃ (j : Nat) (h' : Heap) (tk : Nat) (m' : Str → Option Value), j ≤ M ∧ n = M + 1 - j ∧ s' = { s with heap := h', toks := tk } ∧ Fr h₀ L h' m' ∧ (∀ y, y ≠ Str.ofString "k" → y ≠ Str.ofString "light" → y ≠ Str.ofString "i" → m' y = m y) ∧ IsRangeIter h' it (j : Nat) (M - j : Int) 1 ∧
      Stays [L, it, x0, x1, x2] s.heap h' ∧ Lines w.params h₀ h' L Ln x0 d0 x1 d1 x2 d2 (pts M start 0 j) (pts M start 1 j) (pts M start 2 j)) ?_ (M + 1)
    ⟨0, s.heap, s.toks, m, by omega, rfl, rfl, F, fun _ _ _ _ => rfl, (by simpa using hit), Stays.refl _ _, l⟩
  rintro n s' ⟨j, h', tk, m', hj, rfl, rfl, F', hm', hit', hst, l'⟩
  rcases Nat.lt_or_ge j M with hlt | hge
  · refine wpAny_pyNext_range_item hit' (by omega) fun h₁ hit₁ hs₁ => ?_
    replace hs₁ : Heap.SameBut it h' h₁ := hs₁
    refine wpAny_pure (a := ()) ?_
    have F₁ : Fr h₀ L h₁ m' := F'.change hs₁ hi0.2 hi0.1
    refine wpAny_assign_Name (wpAny_storeName_local rfl F₁.ns (fun h₂ hn₂ hs₂ => ?_) rfl)
    replace hs₂ : Heap.SameBut L h₁ h₂ := hs₂
    have F₂ := F₁.set hn₂ hs₂
    have st₂ : Stays [L, it] h' h₂ := fun b o hb e => (hs₂.2 b fun h => hb (by simp [h])).trans ((hs₁.2 b fun h => hb (by simp [h])).trans e)
    have l₂ := l'.keep F'.ns st₂ fun c hc => by
      rcases List.mem_cons.mp hc with rfl | hc
      · exact .inl rfl
      · rw [List.mem_singleton.mp hc]; exact .inr ⟨_, _, _, hit'⟩
    have hit₂ : IsRangeIter h₂ it ((j : Int) + 1) (M - j - 1) 1 := (hs₂.2 it hi0.2).trans hit₁
    have n1 : (Str.ofString "start") ≠ Str.ofString "k" ∧ (Str.ofString "start") ≠ Str.ofString "light" ∧ (Str.ofString "start") ≠ Str.ofString "i" := by decide +kernel
    have n2 : (Str.ofString "size") ≠ Str.ofString "k" ∧ (Str.ofString "size") ≠ Str.ofString "light" ∧ (Str.ofString "size") ≠ Str.ofString "i" := by decide +kernel
    have n3 : (Str.ofString "lines") ≠ Str.ofString "k" ∧ (Str.ofString "lines") ≠ Str.ofString "light" ∧ (Str.ofString "lines") ≠ Str.ofString "i" := by decide +kernel
    refine outer_body (i := j) (ti := tk) (tt := tt) (ts := ts) hA hroom C h2 h8 hlo hhi hlt F₂ (if_pos rfl) ((if_neg n1.2.2).trans ((hm' _ n1.1 n1.2.1 n1.2.2).trans hms)) ((if_neg n2.2.2).trans ((hm' _ n2.1 n2.2.1 n2.2.2).trans hmz)) ((if_neg n3.2.2).trans ((hm' _ n3.1 n3.2.1 n3.2.2).trans hml)) l₂
      (by rw [pts_length]; omega) (by rw [pts_length]; omega) (by rw [pts_length]; omega) fun h₄ tk₄ m₄ F₄ hm₄ l₄ st₄ => ?_
    rw [pts_succ, pts_succ, pts_succ] at l₄
    have itx : ∀ {c dc qs}, Acc w.params h₂ c dc qs → it ≠ c := fun a e => by
      obtain ⟨its, n, tk, k₀, h1, -⟩ := a
      unfold IsRangeIter at hit₂
      rw [e, h1] at hit₂; cases hit₂
    refine ⟨M + 1 - (j + 1), by omega, j + 1, h₄, tk₄, m₄, hlt, rfl, rfl, F₄, fun y y1 y2 y3 => (hm₄ y y1 y2).trans ((if_neg y3).trans (hm' y y1 y2 y3)), ?_, ?_, l₄⟩
    · have := st₄ it _ (by simp [hi0.2, itx l₂.a0, itx l₂.a1, itx l₂.a2]) hit₂
      unfold IsRangeIter
      rw [this]
      simp only [Int.natCast_add, Int.sub_sub]
      rfl
    · intro b o hb e
      simp only [List.mem_cons, List.not_mem_nil, or_false, not_or] at hb
      exact st₄ b o (by simp [hb]) (st₂ b o (by simp [hb]) (hst b o (by simp [hb]) e))
  · have : j = M := by omega
    subst this
    refine wpAny_pyNext_range_end hA hit' (by omega) fun h₁ he₁ => ?_
    replace he₁ : Heap.ExtBut it h' h₁ := he₁
    refine wpAny_execs_nil ?_
    have st₁ : Stays [it] h' h₁ := fun b o hb e => he₁ b o (fun h => hb (by simp [h])) e
    have F₁ : Fr h₀ L h₁ m' := ⟨F'.ns.at' fun o e => he₁ L o hi0.2.symm e, fun b o e => he₁ b o (fun h => by rw [h, hi0.1] at e; cases e) (F'.keep b o e), F'.above⟩
    refine hR h₁ _ m' F₁ hm' (l'.keep F'.ns st₁ fun c hc => by rw [List.mem_singleton.mp hc]; exact .inr ⟨_, _, _, hit'⟩) fun b o hb e => ?_
    simp only [List.mem_cons, List.not_mem_nil, or_false, not_or] at hb
    exact st₁ b o (by simp [hb]) (hst b o (by simp [hb]) e)
end

end

/-! ## R8 -/
section
set_option maxRecDepth 100000
set_option maxHeartbeats 8000000
section
variable {prog : Program} {w : World} {A : Around} {E : Value → Shared → Prop} {s : Shared} {p : Program} {loose : List Str} {mg mb : Str → Option Value} {bm : Addr} {ob : Obj}

theorem Lines.keepF {P : Params} {b h h' : Heap} {L Ln x0 d0 x1 d1 x2 d2 : Addr} {ps0 ps1 ps2 : List (Str × Str)} {c : Addr} {o : Obj} {vs : Array Value} (l : Lines P b h L Ln x0 d0 x1 d1 x2 d2 ps0 ps1 ps2) (ho : h.get? c = some o) (hd : o.data = .fields vs) (k : ∀ a o, a ≠ c → h.get? a = some o → h'.get? a = some o) :
    Lines P b h' L Ln x0 d0 x1 d1 x2 d2 ps0 ps1 ps2 := by
  have st : Stays [c] h h' := Stays.one (.head _) k
  have tup : ∀ a ∈ [c], ∀ o its n, h.get? a = some o → o.cls = .type "tuple" → o.data = .seq its n → False := fun a ha o' its n e h1 h2 => by
    rw [List.mem_singleton.mp ha, ho] at e; cases e; rw [hd] at h2; cases h2
  have out : ∀ a o', h.get? a = some o' → (∀ vs, o'.data ≠ .fields vs) → a ∉ [c] := fun a o' e hf hm => by
    rw [List.mem_singleton.mp hm, ho] at e; cases e; exact hf _ hd
  have o1 : ∀ {x dx ps}, Acc P h x dx ps → x ∉ [c] ∧ dx ∉ [c] := fun a => by
    obtain ⟨its, n, tk, k₀, h1, h2, -⟩ := a
    exact ⟨out _ _ h1 (fun _ e => by cases e), out _ _ h2 (fun _ e => by cases e)⟩
  exact ⟨st _ _ (out _ _ l.ln (fun _ e => by cases e)) l.ln, l.a0.stays st (o1 l.a0).1 (o1 l.a0).2 tup, l.a1.stays st (o1 l.a1).1 (o1 l.a1).2 tup, l.a2.stays st (o1 l.a2).1 (o1 l.a2).2 tup, l.new, l.n01, l.n02, l.n12⟩

/-- a sign, so many times -/
theorem mul_signs {y : Str} {c : Nat} (hy : y = ⟨#[c]⟩) (n : Nat) : (Txt.mul y (n : Nat)).cps.toList = List.replicate n c := by
  subst hy
  have fold : ∀ (k : Nat) (acc : Array Nat), ((List.replicate k (#[c] : Array Nat)).foldl (· ++ ·) acc).toList = acc.toList ++ List.replicate k c := by
    intro k
    induction k with
    | zero => intro acc; simp
    | succ k ih =>
      intro acc
      rw [List.replicate_succ, List.foldl_cons, ih, List.replicate_succ]
      simp
  unfold Txt.mul
  split
  · have : n = 0 := by omega
    subst this
    rfl
  · split
    · rename_i h1 h2
      have : n = 1 := by
        rcases Bool.or_eq_true_iff.mp h2 with h | h
        · have := beq_iff_eq.mp h; omega
        · exact absurd h (show ¬ ((1 == 0) = true) by decide)
      subst this
      rfl
    · rw [Int.toNat_natCast, fold]
      simp
theorem len_mul (n : Nat) : (Txt.mul (Str.ofString "(") (n : Nat)).length = n := by
  have h1 : (Str.ofString "(") = ⟨#[40]⟩ := by decide +kernel
  have := congrArg List.length (mul_signs h1 n)
  rw [List.length_replicate, Array.length_toList] at this
  exact this
theorem len_pts {M : Nat} {start : Int} {k j : Nat} (h8 : M ≤ 8) : preSum (lenOf (pts M start k j)) j = heap3 M start k j := by
  have gen : ∀ i, i ≤ j → preSum (lenOf (pts M start k j)) i = heap3 M start k i := by
    intro i
    induction i with
    | zero => intro _; rfl
    | succ i ih =>
      intro hi
      have e : (pts M start k j)[i]? = some (Str.ofString "", Txt.mul (Str.ofString "(") ((want M (start + 12 * i) k).toNat : Nat)) := by
        unfold pts
        rw [List.getElem?_map, List.getElem?_range (by omega)]
        rfl
      show preSum _ i + lenOf _ i = heap3 M start k i + want M (start + 12 * i) k
      rw [ih (by omega)]
      unfold lenOf
      rw [e]
      dsimp only
      have e0 : (Str.ofString "").length = 0 := by decide +kernel
      have r := want_range (m := M) (n := start + 12 * i) (k := k) h8
      rw [e0, len_mul]
      omega
  exact gen j (Nat.le_refl _)
end

end

/-! ## R9 -/
section
set_option maxRecDepth 100000
theorem heap3_nonneg {M : Nat} {start : Int} {k : Nat} (h8 : M ≤ 8) : ∀ j, 0 ≤ heap3 M start k j
  | 0 => Int.le_refl _
  | j + 1 => by
    have := heap3_nonneg (start := start) (k := k) h8 j
    have := want_range (m := M) (n := start + 12 * j) (k := k) h8
    show 0 ≤ heap3 M start k j + want M (start + 12 * j) k
    omega
theorem signs_pts {M : Nat} {start : Int} {k : Nat} (h8 : M ≤ 8) : ∀ j, signs (pts M start k j) = List.replicate (heap3 M start k j).toNat 40
  | 0 => rfl
  | j + 1 => by
    have ih := signs_pts (start := start) (k := k) h8 j
    have h1 : (Str.ofString "(") = ⟨#[40]⟩ := by decide +kernel
    have e0 : (Str.ofString "").cps.toList = [] := by decide +kernel
    have r := want_range (m := M) (n := start + 12 * j) (k := k) h8
    have r0 := heap3_nonneg (start := start) (k := k) h8 j
    rw [← pts_succ]
    unfold grow signs
    rw [if_pos rfl, List.flatMap_append]
    show signs (pts M start k j) ++ _ = _
    rw [ih]
    simp only [List.flatMap_cons, List.flatMap_nil, List.append_nil, e0, List.nil_append, mul_signs h1]
    rw [List.replicate_append_replicate]
    congr 1
    show _ = (heap3 M start k j + want M (start + 12 * j) k).toNat
    omega
theorem shape_pts {M : Nat} {start : Int} {k b : Nat} (h8 : M ≤ 8) (j : Nat) :
    (Txt.join (Str.ofString "") ((pts M start k j ++ [(Str.ofString " ", Txt.mul (Str.ofString ")") (b : Nat))]).map fun q => Txt.join (Str.ofString "") [q.1, q.2])).cps.toList = List.replicate (heap3 M start k j).toNat 40 ++ 32 :: List.replicate b 41 := by
  have h1 : (Str.ofString ")") = ⟨#[41]⟩ := by decide +kernel
  have e0 : (Str.ofString " ").cps.toList = [32] := by decide +kernel
  rw [text_signs]
  unfold signs
  rw [List.flatMap_append]
  show signs (pts M start k j) ++ _ = _
  rw [signs_pts h8]
  simp only [List.flatMap_cons, List.flatMap_nil, List.append_nil, e0, mul_signs h1]
  rfl

end

/-! ## R10 -/
section
set_option maxRecDepth 100000
set_option maxHeartbeats 8000000
section
variable {prog : Program} {w : World} {A : Around} {E : Value → Shared → Prop} {s : Shared} {p : Program} {loose : List Str} {mg mb : Str → Option Value} {bm : Addr} {ob : Obj}
theorem heap3_le {M : Nat} {start : Int} {k : Nat} (h8 : M ≤ 8) : ∀ j, heap3 M start k j ≤ 16 * j
  | 0 => Int.le_refl _
  | j + 1 => by
    have := heap3_le (start := start) (k := k) h8 j
    have := want_range (m := M) (n := start + 12 * j) (k := k) h8
    show heap3 M start k j + want M (start + 12 * j) k ≤ _
    omega
theorem pts_fit {M : Nat} {start : Int} {k j : Nat} (h8 : M ≤ 8) : ∀ q ∈ pts M start k j, q.1.length ≤ 100000 ∧ q.2.length ≤ 100000 := by
  intro q hq
  unfold pts at hq
  obtain ⟨i, -, rfl⟩ := List.mem_map.mp hq
  have e0 : (Str.ofString "").length = 0 := by decide +kernel
  have r := want_range (m := M) (n := start + 12 * i) (k := k) h8
  refine ⟨by rw [e0]; omega, ?_⟩
  dsimp only
  rw [len_mul]
  omega

theorem lenL0 {hr h₀ : Heap} {L Ln x0 d0 x1 d1 x2 d2 : Addr} {m : Str → Option Value} {M : Nat} {start : Int} {p0 : Array Value} {Q : Value → Shared → Prop} (h2 : 2 ≤ M) (h8 : M ≤ 8) (hA : A.handled = none) (hroom : A.depth + 7 < recursionLimit)
    (F : Fr h₀ L s.heap m) (C : Ctx w p loose mg mb bm ob h₀) (l : Lines w.params h₀ s.heap L Ln x0 d0 x1 d1 x2 d2 (pts M start 0 M) (pts M start 1 M) (pts M start 2 M)) (h84 : h₀.get? 84 = none) (hL : L ≠ 84) (ht₀ : hr.TableAt 88 84 p0) (Rn : Run hr s.heap) (hb : AllBare s.gens)
    (hQ : ∀ h' tk g' t, Fr h₀ L h' m → Lines w.params h₀ h' L Ln x0 d0 x1 d1 x2 d2 (pts M start 0 M) (pts M start 1 M) (pts M start 2 M) → Run hr h' → AllBare g' → (∀ b o, b ≠ 84 → s.heap.get? b = some o → h'.get? b = some o) → Q (.int (heap3 M start 0 M) t) { s with heap := h', toks := tk, gens := g' }) :
    wpAny (model prog w) A (call (.builtin "len") [.ref x0]) Q E s := by
  obtain ⟨tps, hc, ht⟩ := Rn.t1
  have e := len_pts (M := M) (start := start) (k := 0) (j := M) h8
  have e' : preSum (lenOf (pts M start 0 M)) (pts M start 0 M).length = heap3 M start 0 M := by rw [pts_length]; exact e
  have hn := heap3_nonneg (M := M) (start := start) (k := 0) h8 M
  have hu := heap3_le (M := M) (start := start) (k := 0) h8 M
  refine accLen F C l.a0 hc ht hA hroom (pts_fit h8) (by rw [e']; exact hn) (by rw [e']; omega) fun h' tk g' t more k1 k2 k3 k4 => ?_
  rw [e']
  exact hQ h' tk g' t ⟨F.ns.at' fun o e => k1 L o hL e, fun b o e => k1 b o (fun h => by rw [h, h84] at e; cases e) (F.keep b o e), F.above⟩ (l.keepF ht.2 rfl k1) (Rn.tab84 ht₀ ht k2 k3 k1) (k4 hb) k1

theorem lenL1 {hr h₀ : Heap} {L Ln x0 d0 x1 d1 x2 d2 : Addr} {m : Str → Option Value} {M : Nat} {start : Int} {p0 : Array Value} {Q : Value → Shared → Prop} (h2 : 2 ≤ M) (h8 : M ≤ 8) (hA : A.handled = none) (hroom : A.depth + 7 < recursionLimit)
    (F : Fr h₀ L s.heap m) (C : Ctx w p loose mg mb bm ob h₀) (l : Lines w.params h₀ s.heap L Ln x0 d0 x1 d1 x2 d2 (pts M start 0 M) (pts M start 1 M) (pts M start 2 M)) (h84 : h₀.get? 84 = none) (hL : L ≠ 84) (ht₀ : hr.TableAt 88 84 p0) (Rn : Run hr s.heap) (hb : AllBare s.gens)
    (hQ : ∀ h' tk g' t, Fr h₀ L h' m → Lines w.params h₀ h' L Ln x0 d0 x1 d1 x2 d2 (pts M start 0 M) (pts M start 1 M) (pts M start 2 M) → Run hr h' → AllBare g' → (∀ b o, b ≠ 84 → s.heap.get? b = some o → h'.get? b = some o) → Q (.int (heap3 M start 1 M) t) { s with heap := h', toks := tk, gens := g' }) :
    wpAny (model prog w) A (call (.builtin "len") [.ref x1]) Q E s := by
  obtain ⟨tps, hc, ht⟩ := Rn.t1
  have e := len_pts (M := M) (start := start) (k := 1) (j := M) h8
  have e' : preSum (lenOf (pts M start 1 M)) (pts M start 1 M).length = heap3 M start 1 M := by rw [pts_length]; exact e
  have hn := heap3_nonneg (M := M) (start := start) (k := 1) h8 M
  have hu := heap3_le (M := M) (start := start) (k := 1) h8 M
  refine accLen F C l.a1 hc ht hA hroom (pts_fit h8) (by rw [e']; exact hn) (by rw [e']; omega) fun h' tk g' t more k1 k2 k3 k4 => ?_
  rw [e']
  exact hQ h' tk g' t ⟨F.ns.at' fun o e => k1 L o hL e, fun b o e => k1 b o (fun h => by rw [h, h84] at e; cases e) (F.keep b o e), F.above⟩ (l.keepF ht.2 rfl k1) (Rn.tab84 ht₀ ht k2 k3 k1) (k4 hb) k1

theorem lenL2 {hr h₀ : Heap} {L Ln x0 d0 x1 d1 x2 d2 : Addr} {m : Str → Option Value} {M : Nat} {start : Int} {p0 : Array Value} {Q : Value → Shared → Prop} (h2 : 2 ≤ M) (h8 : M ≤ 8) (hA : A.handled = none) (hroom : A.depth + 7 < recursionLimit)
    (F : Fr h₀ L s.heap m) (C : Ctx w p loose mg mb bm ob h₀) (l : Lines w.params h₀ s.heap L Ln x0 d0 x1 d1 x2 d2 (pts M start 0 M) (pts M start 1 M) (pts M start 2 M)) (h84 : h₀.get? 84 = none) (hL : L ≠ 84) (ht₀ : hr.TableAt 88 84 p0) (Rn : Run hr s.heap) (hb : AllBare s.gens)
    (hQ : ∀ h' tk g' t, Fr h₀ L h' m → Lines w.params h₀ h' L Ln x0 d0 x1 d1 x2 d2 (pts M start 0 M) (pts M start 1 M) (pts M start 2 M) → Run hr h' → AllBare g' → (∀ b o, b ≠ 84 → s.heap.get? b = some o → h'.get? b = some o) → Q (.int (heap3 M start 2 M) t) { s with heap := h', toks := tk, gens := g' }) :
    wpAny (model prog w) A (call (.builtin "len") [.ref x2]) Q E s := by
  obtain ⟨tps, hc, ht⟩ := Rn.t1
  have e := len_pts (M := M) (start := start) (k := 2) (j := M) h8
  have e' : preSum (lenOf (pts M start 2 M)) (pts M start 2 M).length = heap3 M start 2 M := by rw [pts_length]; exact e
  have hn := heap3_nonneg (M := M) (start := start) (k := 2) h8 M
  have hu := heap3_le (M := M) (start := start) (k := 2) h8 M
  refine accLen F C l.a2 hc ht hA hroom (pts_fit h8) (by rw [e']; exact hn) (by rw [e']; omega) fun h' tk g' t more k1 k2 k3 k4 => ?_
  rw [e']
  exact hQ h' tk g' t ⟨F.ns.at' fun o e => k1 L o hL e, fun b o e => k1 b o (fun h => by rw [h, h84] at e; cases e) (F.keep b o e), F.above⟩ (l.keepF ht.2 rfl k1) (Rn.tab84 ht₀ ht k2 k3 k1) (k4 hb) k1

end

end

/-! ## R11 -/
section
set_option maxRecDepth 100000
set_option maxHeartbeats 8000000
section
variable {prog : Program} {w : World} {A : Around} {E : Value → Shared → Prop} {s : Shared} {p : Program} {loose : List Str} {mg mb : Str → Option Value} {bm : Addr} {ob : Obj}
theorem lenW0 {hr h₀ : Heap} {L Ln x0 d0 x1 d1 x2 d2 : Addr} {m : Str → Option Value} {M : Nat} {start : Int} {p0 : Array Value} {D : Addr} {dob : Obj} {Q : Value → Shared → Prop} (h2 : 2 ≤ M) (h8 : M ≤ 8) (hA : A.handled = none) (hroom : A.depth + 7 < recursionLimit)
    (F : Fr h₀ L s.heap m) (C : Ctx w p loose mg mb bm ob h₀) (l : Lines w.params h₀ s.heap L Ln x0 d0 x1 d1 x2 d2 (pts M start 0 M) (pts M start 1 M) (pts M start 2 M)) (h84 : h₀.get? 84 = none) (hL : L ≠ 84) (ht₀ : hr.TableAt 88 84 p0) (Rn : Run hr s.heap) (hb : AllBare s.gens) (hD : s.heap.get? D = some dob) (hDn : D ≠ 84)
    (hQ : ∀ h' tk g' t, Fr h₀ L h' m → News h₀ L h' [(Ln, W.listOf #[.ref x0, .ref x1, .ref x2] 0)] → Lines w.params h₀ h' L Ln x0 d0 x1 d1 x2 d2 (pts M start 0 M) (pts M start 1 M) (pts M start 2 M) → Run hr h' → AllBare g' → h'.get? D = some dob → Q (.int (heap3 M start 0 M) t) { s with heap := h', toks := tk, gens := g' }) :
    wpAny (model prog w) A (call (.builtin "len") [.ref x0]) Q E s :=
  lenL0 h2 h8 hA hroom F C l h84 hL ht₀ Rn hb fun h' tk g' t F' l' R' b' k' => hQ h' tk g' t F' (fun q hq => by
    obtain rfl := List.mem_singleton.mp hq
    exact ⟨l'.ln, (l'.new Ln (by simp)).2, (l'.new Ln (by simp)).1⟩) l' R' b' (k' _ _ hDn hD)

theorem lenW1 {hr h₀ : Heap} {L Ln x0 d0 x1 d1 x2 d2 : Addr} {m : Str → Option Value} {M : Nat} {start : Int} {p0 : Array Value} {D : Addr} {dob : Obj} {Q : Value → Shared → Prop} (h2 : 2 ≤ M) (h8 : M ≤ 8) (hA : A.handled = none) (hroom : A.depth + 7 < recursionLimit)
    (F : Fr h₀ L s.heap m) (C : Ctx w p loose mg mb bm ob h₀) (l : Lines w.params h₀ s.heap L Ln x0 d0 x1 d1 x2 d2 (pts M start 0 M) (pts M start 1 M) (pts M start 2 M)) (h84 : h₀.get? 84 = none) (hL : L ≠ 84) (ht₀ : hr.TableAt 88 84 p0) (Rn : Run hr s.heap) (hb : AllBare s.gens) (hD : s.heap.get? D = some dob) (hDn : D ≠ 84)
    (hQ : ∀ h' tk g' t, Fr h₀ L h' m → News h₀ L h' [(Ln, W.listOf #[.ref x0, .ref x1, .ref x2] 0)] → Lines w.params h₀ h' L Ln x0 d0 x1 d1 x2 d2 (pts M start 0 M) (pts M start 1 M) (pts M start 2 M) → Run hr h' → AllBare g' → h'.get? D = some dob → Q (.int (heap3 M start 1 M) t) { s with heap := h', toks := tk, gens := g' }) :
    wpAny (model prog w) A (call (.builtin "len") [.ref x1]) Q E s :=
  lenL1 h2 h8 hA hroom F C l h84 hL ht₀ Rn hb fun h' tk g' t F' l' R' b' k' => hQ h' tk g' t F' (fun q hq => by
    obtain rfl := List.mem_singleton.mp hq
    exact ⟨l'.ln, (l'.new Ln (by simp)).2, (l'.new Ln (by simp)).1⟩) l' R' b' (k' _ _ hDn hD)

theorem lenW2 {hr h₀ : Heap} {L Ln x0 d0 x1 d1 x2 d2 : Addr} {m : Str → Option Value} {M : Nat} {start : Int} {p0 : Array Value} {D : Addr} {dob : Obj} {Q : Value → Shared → Prop} (h2 : 2 ≤ M) (h8 : M ≤ 8) (hA : A.handled = none) (hroom : A.depth + 7 < recursionLimit)
    (F : Fr h₀ L s.heap m) (C : Ctx w p loose mg mb bm ob h₀) (l : Lines w.params h₀ s.heap L Ln x0 d0 x1 d1 x2 d2 (pts M start 0 M) (pts M start 1 M) (pts M start 2 M)) (h84 : h₀.get? 84 = none) (hL : L ≠ 84) (ht₀ : hr.TableAt 88 84 p0) (Rn : Run hr s.heap) (hb : AllBare s.gens) (hD : s.heap.get? D = some dob) (hDn : D ≠ 84)
    (hQ : ∀ h' tk g' t, Fr h₀ L h' m → News h₀ L h' [(Ln, W.listOf #[.ref x0, .ref x1, .ref x2] 0)] → Lines w.params h₀ h' L Ln x0 d0 x1 d1 x2 d2 (pts M start 0 M) (pts M start 1 M) (pts M start 2 M) → Run hr h' → AllBare g' → h'.get? D = some dob → Q (.int (heap3 M start 2 M) t) { s with heap := h', toks := tk, gens := g' }) :
    wpAny (model prog w) A (call (.builtin "len") [.ref x2]) Q E s :=
  lenL2 h2 h8 hA hroom F C l h84 hL ht₀ Rn hb fun h' tk g' t F' l' R' b' k' => hQ h' tk g' t F' (fun q hq => by
    obtain rfl := List.mem_singleton.mp hq
    exact ⟨l'.ln, (l'.new Ln (by simp)).2, (l'.new Ln (by simp)).1⟩) l' R' b' (k' _ _ hDn hD)

end

end

/-! ## R13 -/
section
set_option maxRecDepth 100000
set_option maxHeartbeats 8000000
section
variable {fa : Addr} {prog : Program} {w : World} {A : Around} {E : Value → Shared → Prop} {s : Shared} {p : Program} {loose : List Str} {mg mb : Str → Option Value} {bm : Addr} {ob : Obj}

/-- how the statement that turns the wheel back ends -/
def HsvOut (h₀ : Heap) (L : Addr) (m : Str → Option Value) (a b c : Int) (nw : List (Addr × Obj)) (s : Shared) (f : Flow) (s' : Shared) : Prop :=
  f = .next ∧ ∃ h' tk t1 t2 t3, s' = { s with heap := h', toks := tk } ∧ t1 ≠ 0 ∧ t2 ≠ 0 ∧ Fr h₀ L h' (fun y => if y = "value" then some (.int (mx3 a b c) t3) else if y = "share" then some (.float (hsvF a b c).2 t2) else if y = "hue" then some (.float (hsvF a b c).1 t1) else m y) ∧ News h₀ L h' nw

theorem hsv_tail {h₀ : Heap} {L T : Addr} {m : Str → Option Value} {n kt : Nat} {a b c : Int} {ta tb tc : Tok} {nw : List (Addr × Obj)} {nm : Str} {cd : Value} {q1 q2 q3 q4 : Pos} (hA : A.handled = none) (na : ta ≠ 0) (nb : tb ≠ 0) (C : Ctx w p loose mg mb bm ob h₀)
    (F : Fr h₀ L s.heap m) (N : News h₀ L s.heap ((T, { cls := .type "tuple", data := .seq #[.float (hsvF a b c).1 ta, .float (hsvF a b c).2 tb, .int (mx3 a b c) tc] n }) :: nw)) :
    wpAny (model prog w) A (assign (.Tuple [.Name "hue" q1, .Name "share" q2, .Name "value" q3] kt q4) (envOf nm lSc L fa cd) (.ref T)) (fun _ => HsvOut h₀ L m a b c nw s .next) E s := by
  obtain ⟨hd0, d0', fr0, g0, u0⟩ := A
  cases hA
  have X := C.X
  have T' := C.T
  k_steps
  rename Fr _ _ _ _ => FF
  rename News _ _ _ _ => NN
  exact ⟨rfl, _, _, _, _, _, rfl, na, nb, FF, fun q hq => NN q (.tail _ hq)⟩

end

end

/-! ## R14 -/
section
set_option maxRecDepth 100000
set_option maxHeartbeats 8000000
section
variable {fa : Addr} {prog : Program} {w : World} {A : Around} {E : Value → Shared → Prop} {s : Shared} {p : Program} {loose : List Str} {mg mb : Str → Option Value} {bm : Addr} {ob : Obj}
local macro_rules | `(tactic| walk_at "call builtin:len") => `(tactic| (k_here; k_dflt (refine' lenW0 ?a ?b rfl ?r ?F ?C ?l ?h ?L ?t ?R ?b2 ?dd ?dn ?_; (case l => assumption); (case a => assumption); (case b => assumption); (case r => assumption); (case F => k_asm); (case C => assumption); (case h => assumption); (case L => assumption); (case t => assumption); (case R => assumption); (case b2 => assumption); (case dd => assumption); (case dn => assumption)); intro h' tk' g' t' F' N' l' R' b' d'; try dsimp only))
local macro_rules | `(tactic| walk_at "call builtin:len") => `(tactic| (k_here; k_dflt (refine' lenW1 ?a ?b rfl ?r ?F ?C ?l ?h ?L ?t ?R ?b2 ?dd ?dn ?_; (case l => assumption); (case a => assumption); (case b => assumption); (case r => assumption); (case F => k_asm); (case C => assumption); (case h => assumption); (case L => assumption); (case t => assumption); (case R => assumption); (case b2 => assumption); (case dd => assumption); (case dn => assumption)); intro h' tk' g' t' F' N' l' R' b' d'; try dsimp only))
local macro_rules | `(tactic| walk_at "call builtin:len") => `(tactic| (k_here; k_dflt (refine' lenW2 ?a ?b rfl ?r ?F ?C ?l ?h ?L ?t ?R ?b2 ?dd ?dn ?_; (case l => assumption); (case a => assumption); (case b => assumption); (case r => assumption); (case F => k_asm); (case C => assumption); (case h => assumption); (case L => assumption); (case t => assumption); (case R => assumption); (case b2 => assumption); (case dd => assumption); (case dn => assumption)); intro h' tk' g' t' F' N' l' R' b' d'; try dsimp only))

theorem hsv_stmt {hr h₀ : Heap} {L Ln x0 d0 x1 d1 x2 d2 : Addr} {m₁ : Str → Option Value} {M : Nat} {start : Int} {p0 : Array Value} {D : Addr} {dob : Obj} {nm : Str} {cd : Value} {Q : Flow → Shared → Prop} {q1 q2 q3 q4 q5 q6 q7 q8 q9 q10 q11 q12 q13 q14 q15 q16 q17 q18 q19 q20 q21 q22 : Pos} {kt : Nat}
    (h2 : 2 ≤ M) (h8 : M ≤ 8) (hA : A.handled = none) (hroom : A.depth + 7 < recursionLimit)
    (F : Fr h₀ L s.heap (fun y => if y = "lines" then some (.ref Ln) else m₁ y)) (C : Ctx w p loose mg mb bm ob h₀) (l : Lines w.params h₀ s.heap L Ln x0 d0 x1 d1 x2 d2 (pts M start 0 M) (pts M start 1 M) (pts M start 2 M)) (h84 : h₀.get? 84 = none) (hL : L ≠ 84) (ht₀ : hr.TableAt 88 84 p0) (Rn : Run hr s.heap) (hb : AllBare s.gens) (hDD : s.heap.get? D = some dob) (hDn : D ≠ 84) (hp0 : 0 < heap3 M start 0 M) (hp1 : 0 < heap3 M start 1 M) (hp2 : 0 < heap3 M start 2 M)
    (hQ : ∀ nw g h1 h' tk t1 t2 t3, Fr h₀ L h1 (fun y => if y = "lines" then some (.ref Ln) else m₁ y) → Lines w.params h₀ h1 L Ln x0 d0 x1 d1 x2 d2 (pts M start 0 M) (pts M start 1 M) (pts M start 2 M) → Run hr h1 → AllBare g → h1.get? D = some dob →
      (∀ h' : Heap, (∀ a o, h₀.get? a = some o → h'.get? a = some o) → (∀ q ∈ nw, h'.get? q.1 = some q.2) → ∀ a o, a ≠ L → h1.get? a = some o → h'.get? a = some o) → t1 ≠ 0 → t2 ≠ 0 →
      Fr h₀ L h' (fun y => if y = "value" then some (.int (mx3 (heap3 M start 0 M) (heap3 M start 1 M) (heap3 M start 2 M)) t3) else if y = "share" then some (.float (hsvF (heap3 M start 0 M) (heap3 M start 1 M) (heap3 M start 2 M)).2 t2) else if y = "hue" then some (.float (hsvF (heap3 M start 0 M) (heap3 M start 1 M) (heap3 M start 2 M)).1 t1) else if y = "lines" then some (.ref Ln) else m₁ y) → News h₀ L h' nw → Q .next { s with heap := h', toks := tk, gens := g }) :
    wpAny (model prog w) A (exec (.Assign [.Tuple [.Name "hue" q1, .Name "share" q2, .Name "value" q3] kt q4] (.Call (.Name "rgb_to_hsv" q5) [.Call (.Name "len" q6) [.Subscript (.Name "lines" q7) (.Constant (.int 0) 0 q8) q9] [] q10, .Call (.Name "len" q11) [.Subscript (.Name "lines" q12) (.Constant (.int 1) 0 q13) q14] [] q15, .Call (.Name "len" q16) [.Subscript (.Name "lines" q17) (.Constant (.int 2) 0 q18) q19] [] q20] [] q21) q22) (envOf nm lSc L fa cd)) Q E s := by
  obtain ⟨hd0, d0', fr0, g0, u0⟩ := A
  cases hA
  have X := C.X
  have T := C.T
  have N : News h₀ L s.heap [(Ln, W.listOf #[.ref x0, .ref x1, .ref x2] 0)] := fun q hq => by
    obtain rfl := List.mem_singleton.mp hq
    exact ⟨l.ln, (l.new Ln (by simp)).2, (l.new Ln (by simp)).1⟩
  have hroom' : d0' + 7 < recursionLimit := hroom
  k_steps
  rename Fr _ _ _ _ => FF
  rename Lines _ _ _ _ _ _ _ _ _ _ _ _ _ _ => LL
  rename Run _ _ => RR
  rename AllBare _ => BB
  rename Heap.get? _ D = some dob => DD
  have w0 := heap3_le (M := M) (start := start) (k := 0) h8 M
  have w1 := heap3_le (M := M) (start := start) (k := 1) h8 M
  have w2 := heap3_le (M := M) (start := start) (k := 2) h8 M
  refine hsv_call (C.X.keeps FF.keep) (C.T.keeps FF.keep) rfl (by show d0' < recursionLimit; omega) hp0 (by omega) hp1 (by omega) hp2 (by omega) fun h' tk a n ta tb tc k ha0 ha hnt => ?_
  have FF' : Fr h₀ L h' (fun y => if y = "lines" then some (.ref Ln) else m₁ y) := ⟨FF.ns.keeps k, fun b o e => k b o (FF.keep b o e), FF.above⟩
  obtain ⟨nw, NW, stay⟩ := whole FF'
  have hT : News h₀ L h' [(a, { cls := .type "tuple", data := .seq #[.float (hsvF (heap3 M start 0 M) (heap3 M start 1 M) (heap3 M start 2 M)).1 ta, .float (hsvF (heap3 M start 0 M) (heap3 M start 1 M) (heap3 M start 2 M)).2 tb, .int (mx3 (heap3 M start 0 M) (heap3 M start 1 M) (heap3 M start 2 M)) tc] n })] := fun q hq => by
    obtain rfl := List.mem_singleton.mp hq
    refine ⟨ha, fun e => ?_, ?_⟩
    · obtain ⟨oL, _, _, hLL, -⟩ := FF.ns
      have e' : a = L := e
      rw [e', hLL] at ha0; cases ha0
    · cases e : h₀.get? a with
      | none => rfl
      | some o => have := FF.keep a o e; rw [ha0] at this; cases this
  have hN : News h₀ L h' ((a, { cls := .type "tuple", data := .seq #[.float (hsvF (heap3 M start 0 M) (heap3 M start 1 M) (heap3 M start 2 M)).1 ta, .float (hsvF (heap3 M start 0 M) (heap3 M start 1 M) (heap3 M start 2 M)).2 tb, .int (mx3 (heap3 M start 0 M) (heap3 M start 1 M) (heap3 M start 2 M)) tc] n }) :: nw) := fun q hq => by
    rcases List.mem_cons.mp hq with rfl | hq
    · exact hT _ (.head _)
    · exact NW q hq
  refine wpAny_mono (hsv_tail rfl hnt.1 hnt.2 C FF' hN) (fun _ s₂ ho => ?_) fun _ _ z => z
  obtain ⟨-, h₆, tk₆, t1, t2, t3, rfl, n1, n2, F₆, N₆⟩ := ho
  exact hQ nw _ h' h₆ tk₆ t1 t2 t3 FF' (LL.keep (S := []) FF.ns (Stays.all k) fun c hc => nomatch hc) (RR.keeps k) BB (k _ _ DD) stay n1 n2 F₆ N₆
end

end

/-! ## R15 -/
section
set_option maxRecDepth 100000
set_option maxHeartbeats 8000000
section
variable {nd : Nat} {fa : Addr} {prog : Program} {w : World} {A : Around} {E : Value → Shared → Prop} {s : Shared} {p : Program} {loose : List Str} {mg mb : Str → Option Value} {bm : Addr} {ob : Obj}

/-- how a statement ends that only looks -/
def LookOut (h₀ : Heap) (L : Addr) (m : Str → Option Value) (nw : List (Addr × Obj)) (s : Shared) (f : Flow) (s' : Shared) : Prop :=
  f = .next ∧ ∃ h' tk, s' = { s with heap := h', toks := tk } ∧ Fr h₀ L h' m ∧ News h₀ L h' nw

theorem LookOut.go {M₀ : Model} {t₀ : Sem Flow} {h₀ : Heap} {L : Addr} {m : Str → Option Value} {nw : List (Addr × Obj)} {G : Flow → Shared → Prop} (o : wpAny M₀ A t₀ (LookOut h₀ L m nw s) (fun _ _ => False) s)
    (k : ∀ h' tk, Fr h₀ L h' m → News h₀ L h' nw → G .next { s with heap := h', toks := tk }) : wpAny M₀ A t₀ G E s :=
  wpAny_mono o (fun f s' ho => by
    obtain ⟨rfl, h', tk, rfl, F, N⟩ := ho
    exact k _ _ F N) fun _ _ z => z.elim

local macro_rules | `(tactic| walk_at "execs cons") => `(tactic| (k_here; (with_reducible refine tk_lift (Nat.succ_pos _) fun tk htk => ?_)))
local macro_rules | `(tactic| walk_at "compareOp NotEq ref ref") => `(tactic| (k_here; refine of_stop ?_))
theorem chainA {h₀ : Heap} {L D : Addr} {m : Str → Option Value} {size place : Int} {tz t1 t2 t3 tp td0 td1 td2 : Tok} {e0 e1 e2 : Int} {nw : List (Addr × Obj)} {nm : Str} {cd : Value} {q1 q2 q3 q4 q5 q6 q7 q8 q9 q10 q11 q12 q13 q14 q15 q16 q17 q18 q19 q20 q21 q22 q23 q24 q25 q26 q27 q28 q29 q30 q31 q32 q33 q34 q35 q36 q37 q38 q39 q40 q41 q42 q43 q44 q45 q46 q47 q48 q49 q50 q51 q52 q53 q54 q55 q56 q57 q58 q59 q60 : Pos} (hA : A.handled = none) (C : Ctx w p loose mg mb bm ob h₀)
    (hz : Int.fmod size 2 = 0) (n1 : t1 ≠ 0) (n2 : t2 ≠ 0) (hu : A.units < cLine)
    (F : Fr h₀ L s.heap (fun y => if y = "value" then some (.int e0 t3) else if y = "share" then some (.float 0 t2) else if y = "hue" then some (.float 0 t1) else if y = "due" then some (.ref D) else if y = "place" then some (.int place tp) else if y = "size" then some (.int size tz) else m y)) (N : News h₀ L s.heap ((D, W.listOf #[.int e0 td0, .int e1 td1, .int e2 td2] nd) :: nw)) :
    wpAny (model prog w) A (exec (.If (.BoolOp .Or [ (.Compare (.BinOp (.Name "size" q1) .Mod (.Constant (.int 2) 0 q2) q3) [.Eq] [(.Constant (.int 0) 0 q4)] q5), (.Compare (.BinOp (.Name "size" q6) .Mod (.Constant (.int 3) 0 q7) q8) [.Eq] [(.Constant (.int 0) 0 q9)] q10)] q11) [ (.If (.Compare (.Tuple [ (.Name "hue" q12), (.Name "share" q13), (.Name "value" q14)] 0 q15) [.NotEq] [ (.Tuple [ (.Constant (.float 0x0000000000000000) 0 q16), (.Constant (.float 0x0000000000000000) 0 q17), (.Subscript (.Name "due" q18) (.Constant (.int 0) 0 q19) q20)] 0 q21)] q22) [ (.Return (some (.Constant (.bool false) 0 q23)) q24)] [] q25)] [ (.If (.Compare (.Tuple [(.Name "share" q26), (.Name "value" q27)] 0 q28) [.NotEq] [ (.Tuple [ (.BinOp (.Constant (.int 2) 0 q29) .Div (.BinOp (.BinOp (.Name "size" q30) .Mult (.Name "size" q31) q32) .Add (.Constant (.int 1) 0 q33) q34) q35), (.BinOp (.BinOp (.Name "size" q36) .Mult (.Name "size" q37) q38) .Add (.Constant (.int 1) 0 q39) q40)] 0 q41)] q42) [ (.Return (some (.Constant (.bool false) 0 q43)) q44)] [ (.If (.Compare (.Call (.Name "int" q45) [ (.BinOp (.BinOp (.Name "hue" q46) .Mult (.Constant (.int 12582912) 0 q47) q48) .Add (.Constant (.float 0x3fe0000000000000) 0 q49) q50)] [] q51) [.NotEq] [ (.BinOp (.Name "place" q52) .Mult (.Constant (.int 1048576) 0 q53) q54)] q55) [ (.Return (some (.Constant (.bool false) 0 q56)) q57)] [] q58)] q59)] q60) (envOf nm lSc L fa cd)) (LookOut h₀ L (fun y => if y = "value" then some (.int e0 t3) else if y = "share" then some (.float 0 t2) else if y = "hue" then some (.float 0 t1) else if y = "due" then some (.ref D) else if y = "place" then some (.int place tp) else if y = "size" then some (.int size tz) else m y) ((D, W.listOf #[.int e0 td0, .int e1 td1, .int e2 td2] nd) :: nw) s) E s := by
  obtain ⟨hd0, d0', fr0, g0, u0⟩ := A
  cases hA
  have X := C.X
  have T' := C.T
  k_steps
  all_goals
    unfold Stop
    rename Fr _ _ _ _ => F1
    rename News _ _ _ _ => N1
    refine ne_hueN F1 X N1 (.tail _ (.head _)) (.head _) rfl hu (tok_ne n1 ?_) (tok_ne n2 (Nat.succ_ne_zero _)) (by decide +kernel) (by decide +kernel) ?_
    · first | exact Nat.succ_ne_zero _ | exact Nat.ne_of_gt (by assumption)
    k_steps
    rename Fr _ _ _ _ => FF
    rename News _ _ _ _ => NN
    exact ⟨rfl, _, _, rfl, FF, fun q hq => NN q (.tail _ (.tail _ hq))⟩

theorem chain3 {h₀ : Heap} {L D : Addr} {m : Str → Option Value} {place : Int} {tz t1 t2 t3 tp td0 td1 td2 : Tok} {e0 e1 e2 : Int} {nw : List (Addr × Obj)} {nm : Str} {cd : Value} {q1 q2 q3 q4 q5 q6 q7 q8 q9 q10 q11 q12 q13 q14 q15 q16 q17 q18 q19 q20 q21 q22 q23 q24 q25 q26 q27 q28 q29 q30 q31 q32 q33 q34 q35 q36 q37 q38 q39 q40 q41 q42 q43 q44 q45 q46 q47 q48 q49 q50 q51 q52 q53 q54 q55 q56 q57 q58 q59 q60 : Pos} (hA : A.handled = none) (C : Ctx w p loose mg mb bm ob h₀)
    (n1 : t1 ≠ 0) (n2 : t2 ≠ 0) (hu : A.units < cLine)
    (F : Fr h₀ L s.heap (fun y => if y = "value" then some (.int e0 t3) else if y = "share" then some (.float 0 t2) else if y = "hue" then some (.float 0 t1) else if y = "due" then some (.ref D) else if y = "place" then some (.int place tp) else if y = "size" then some (.int 3 tz) else m y)) (N : News h₀ L s.heap ((D, W.listOf #[.int e0 td0, .int e1 td1, .int e2 td2] nd) :: nw)) :
    wpAny (model prog w) A (exec (.If (.BoolOp .Or [ (.Compare (.BinOp (.Name "size" q1) .Mod (.Constant (.int 2) 0 q2) q3) [.Eq] [(.Constant (.int 0) 0 q4)] q5), (.Compare (.BinOp (.Name "size" q6) .Mod (.Constant (.int 3) 0 q7) q8) [.Eq] [(.Constant (.int 0) 0 q9)] q10)] q11) [ (.If (.Compare (.Tuple [ (.Name "hue" q12), (.Name "share" q13), (.Name "value" q14)] 0 q15) [.NotEq] [ (.Tuple [ (.Constant (.float 0x0000000000000000) 0 q16), (.Constant (.float 0x0000000000000000) 0 q17), (.Subscript (.Name "due" q18) (.Constant (.int 0) 0 q19) q20)] 0 q21)] q22) [ (.Return (some (.Constant (.bool false) 0 q23)) q24)] [] q25)] [ (.If (.Compare (.Tuple [(.Name "share" q26), (.Name "value" q27)] 0 q28) [.NotEq] [ (.Tuple [ (.BinOp (.Constant (.int 2) 0 q29) .Div (.BinOp (.BinOp (.Name "size" q30) .Mult (.Name "size" q31) q32) .Add (.Constant (.int 1) 0 q33) q34) q35), (.BinOp (.BinOp (.Name "size" q36) .Mult (.Name "size" q37) q38) .Add (.Constant (.int 1) 0 q39) q40)] 0 q41)] q42) [ (.Return (some (.Constant (.bool false) 0 q43)) q44)] [ (.If (.Compare (.Call (.Name "int" q45) [ (.BinOp (.BinOp (.Name "hue" q46) .Mult (.Constant (.int 12582912) 0 q47) q48) .Add (.Constant (.float 0x3fe0000000000000) 0 q49) q50)] [] q51) [.NotEq] [ (.BinOp (.Name "place" q52) .Mult (.Constant (.int 1048576) 0 q53) q54)] q55) [ (.Return (some (.Constant (.bool false) 0 q56)) q57)] [] q58)] q59)] q60) (envOf nm lSc L fa cd)) (LookOut h₀ L (fun y => if y = "value" then some (.int e0 t3) else if y = "share" then some (.float 0 t2) else if y = "hue" then some (.float 0 t1) else if y = "due" then some (.ref D) else if y = "place" then some (.int place tp) else if y = "size" then some (.int 3 tz) else m y) ((D, W.listOf #[.int e0 td0, .int e1 td1, .int e2 td2] nd) :: nw) s) E s := by
  obtain ⟨hd0, d0', fr0, g0, u0⟩ := A
  cases hA
  have X := C.X
  have T' := C.T
  k_steps
  all_goals
    unfold Stop
    rename Fr _ _ _ _ => F1
    rename News _ _ _ _ => N1
    refine ne_hueN F1 X N1 (.tail _ (.head _)) (.head _) rfl hu (tok_ne n1 ?_) (tok_ne n2 (Nat.succ_ne_zero _)) (by decide +kernel) (by decide +kernel) ?_
    · first | exact Nat.succ_ne_zero _ | exact Nat.ne_of_gt (by assumption)
    k_steps
    rename Fr _ _ _ _ => FF
    rename News _ _ _ _ => NN
    exact ⟨rfl, _, _, rfl, FF, fun q hq => NN q (.tail _ (.tail _ hq))⟩

theorem chain5 {h₀ : Heap} {L D : Addr} {m : Str → Option Value} {hue : UInt64} {place : Int} {tz t1 t2 t3 tp td0 td1 td2 : Tok} {e0 e1 e2 : Int} {nw : List (Addr × Obj)} {nm : Str} {cd : Value} {q1 q2 q3 q4 q5 q6 q7 q8 q9 q10 q11 q12 q13 q14 q15 q16 q17 q18 q19 q20 q21 q22 q23 q24 q25 q26 q27 q28 q29 q30 q31 q32 q33 q34 q35 q36 q37 q38 q39 q40 q41 q42 q43 q44 q45 q46 q47 q48 q49 q50 q51 q52 q53 q54 q55 q56 q57 q58 q59 q60 : Pos} (hA : A.handled = none) (n1 : t1 ≠ 0) (n2 : t2 ≠ 0) (hu : A.units < cLine) (hz : (Float64.cmp (fq 2 26) (fq 2 26) == some Ordering.eq) = true) (C : Ctx w p loose mg mb bm ob h₀)
    (hX : Float64.isNaN (Float64.add (Float64.mul hue (Float64.ofInt 12582912)) 4602678819172646912) = false ∧ Float64.isInf (Float64.add (Float64.mul hue (Float64.ofInt 12582912)) 4602678819172646912) = false ∧ Flt.toInt Float64.truncOf (Float64.add (Float64.mul hue (Float64.ofInt 12582912)) 4602678819172646912) = place * 1048576)
    (F : Fr h₀ L s.heap (fun y => if y = "value" then some (.int 26 t3) else if y = "share" then some (.float (fq 2 26) t2) else if y = "hue" then some (.float hue t1) else if y = "due" then some (.ref D) else if y = "place" then some (.int place tp) else if y = "size" then some (.int 5 tz) else m y)) (N : News h₀ L s.heap ((D, W.listOf #[.int e0 td0, .int e1 td1, .int e2 td2] nd) :: nw)) :
    wpAny (model prog w) A (exec (.If (.BoolOp .Or [ (.Compare (.BinOp (.Name "size" q1) .Mod (.Constant (.int 2) 0 q2) q3) [.Eq] [(.Constant (.int 0) 0 q4)] q5), (.Compare (.BinOp (.Name "size" q6) .Mod (.Constant (.int 3) 0 q7) q8) [.Eq] [(.Constant (.int 0) 0 q9)] q10)] q11) [ (.If (.Compare (.Tuple [ (.Name "hue" q12), (.Name "share" q13), (.Name "value" q14)] 0 q15) [.NotEq] [ (.Tuple [ (.Constant (.float 0x0000000000000000) 0 q16), (.Constant (.float 0x0000000000000000) 0 q17), (.Subscript (.Name "due" q18) (.Constant (.int 0) 0 q19) q20)] 0 q21)] q22) [ (.Return (some (.Constant (.bool false) 0 q23)) q24)] [] q25)] [ (.If (.Compare (.Tuple [(.Name "share" q26), (.Name "value" q27)] 0 q28) [.NotEq] [ (.Tuple [ (.BinOp (.Constant (.int 2) 0 q29) .Div (.BinOp (.BinOp (.Name "size" q30) .Mult (.Name "size" q31) q32) .Add (.Constant (.int 1) 0 q33) q34) q35), (.BinOp (.BinOp (.Name "size" q36) .Mult (.Name "size" q37) q38) .Add (.Constant (.int 1) 0 q39) q40)] 0 q41)] q42) [ (.Return (some (.Constant (.bool false) 0 q43)) q44)] [ (.If (.Compare (.Call (.Name "int" q45) [ (.BinOp (.BinOp (.Name "hue" q46) .Mult (.Constant (.int 12582912) 0 q47) q48) .Add (.Constant (.float 0x3fe0000000000000) 0 q49) q50)] [] q51) [.NotEq] [ (.BinOp (.Name "place" q52) .Mult (.Constant (.int 1048576) 0 q53) q54)] q55) [ (.Return (some (.Constant (.bool false) 0 q56)) q57)] [] q58)] q59)] q60) (envOf nm lSc L fa cd)) (LookOut h₀ L (fun y => if y = "value" then some (.int 26 t3) else if y = "share" then some (.float (fq 2 26) t2) else if y = "hue" then some (.float hue t1) else if y = "due" then some (.ref D) else if y = "place" then some (.int place tp) else if y = "size" then some (.int 5 tz) else m y) ((D, W.listOf #[.int e0 td0, .int e1 td1, .int e2 td2] nd) :: nw) s) E s := by
  obtain ⟨hd0, d0', fr0, g0, u0⟩ := A
  cases hA
  have X := C.X
  have T' := C.T
  k_steps
  unfold Stop
  rename Fr _ _ _ _ => F1
  rename News _ _ _ _ => N1
  refine ne_shareN F1 X N1 (.tail _ (.head _)) (.head _) rfl rfl hu (tok_ne n2 ?_) hz ?_
  · first | exact Nat.succ_ne_zero _ | exact Nat.ne_of_gt (by assumption)
  k_steps
  all_goals
    rename Fr _ _ _ _ => FF
    rename News _ _ _ _ => NN
    first | exact absurd hX.2.2 ‹_› | exact ⟨rfl, _, _, rfl, FF, fun q hq => NN q (.tail _ (.tail _ hq))⟩


theorem chain7 {h₀ : Heap} {L D : Addr} {m : Str → Option Value} {hue : UInt64} {place : Int} {tz t1 t2 t3 tp td0 td1 td2 : Tok} {e0 e1 e2 : Int} {nw : List (Addr × Obj)} {nm : Str} {cd : Value} {q1 q2 q3 q4 q5 q6 q7 q8 q9 q10 q11 q12 q13 q14 q15 q16 q17 q18 q19 q20 q21 q22 q23 q24 q25 q26 q27 q28 q29 q30 q31 q32 q33 q34 q35 q36 q37 q38 q39 q40 q41 q42 q43 q44 q45 q46 q47 q48 q49 q50 q51 q52 q53 q54 q55 q56 q57 q58 q59 q60 : Pos} (hA : A.handled = none) (n1 : t1 ≠ 0) (n2 : t2 ≠ 0) (hu : A.units < cLine) (hz : (Float64.cmp (fq 2 50) (fq 2 50) == some Ordering.eq) = true) (C : Ctx w p loose mg mb bm ob h₀)
    (hX : Float64.isNaN (Float64.add (Float64.mul hue (Float64.ofInt 12582912)) 4602678819172646912) = false ∧ Float64.isInf (Float64.add (Float64.mul hue (Float64.ofInt 12582912)) 4602678819172646912) = false ∧ Flt.toInt Float64.truncOf (Float64.add (Float64.mul hue (Float64.ofInt 12582912)) 4602678819172646912) = place * 1048576)
    (F : Fr h₀ L s.heap (fun y => if y = "value" then some (.int 50 t3) else if y = "share" then some (.float (fq 2 50) t2) else if y = "hue" then some (.float hue t1) else if y = "due" then some (.ref D) else if y = "place" then some (.int place tp) else if y = "size" then some (.int 7 tz) else m y)) (N : News h₀ L s.heap ((D, W.listOf #[.int e0 td0, .int e1 td1, .int e2 td2] nd) :: nw)) :
    wpAny (model prog w) A (exec (.If (.BoolOp .Or [ (.Compare (.BinOp (.Name "size" q1) .Mod (.Constant (.int 2) 0 q2) q3) [.Eq] [(.Constant (.int 0) 0 q4)] q5), (.Compare (.BinOp (.Name "size" q6) .Mod (.Constant (.int 3) 0 q7) q8) [.Eq] [(.Constant (.int 0) 0 q9)] q10)] q11) [ (.If (.Compare (.Tuple [ (.Name "hue" q12), (.Name "share" q13), (.Name "value" q14)] 0 q15) [.NotEq] [ (.Tuple [ (.Constant (.float 0x0000000000000000) 0 q16), (.Constant (.float 0x0000000000000000) 0 q17), (.Subscript (.Name "due" q18) (.Constant (.int 0) 0 q19) q20)] 0 q21)] q22) [ (.Return (some (.Constant (.bool false) 0 q23)) q24)] [] q25)] [ (.If (.Compare (.Tuple [(.Name "share" q26), (.Name "value" q27)] 0 q28) [.NotEq] [ (.Tuple [ (.BinOp (.Constant (.int 2) 0 q29) .Div (.BinOp (.BinOp (.Name "size" q30) .Mult (.Name "size" q31) q32) .Add (.Constant (.int 1) 0 q33) q34) q35), (.BinOp (.BinOp (.Name "size" q36) .Mult (.Name "size" q37) q38) .Add (.Constant (.int 1) 0 q39) q40)] 0 q41)] q42) [ (.Return (some (.Constant (.bool false) 0 q43)) q44)] [ (.If (.Compare (.Call (.Name "int" q45) [ (.BinOp (.BinOp (.Name "hue" q46) .Mult (.Constant (.int 12582912) 0 q47) q48) .Add (.Constant (.float 0x3fe0000000000000) 0 q49) q50)] [] q51) [.NotEq] [ (.BinOp (.Name "place" q52) .Mult (.Constant (.int 1048576) 0 q53) q54)] q55) [ (.Return (some (.Constant (.bool false) 0 q56)) q57)] [] q58)] q59)] q60) (envOf nm lSc L fa cd)) (LookOut h₀ L (fun y => if y = "value" then some (.int 50 t3) else if y = "share" then some (.float (fq 2 50) t2) else if y = "hue" then some (.float hue t1) else if y = "due" then some (.ref D) else if y = "place" then some (.int place tp) else if y = "size" then some (.int 7 tz) else m y) ((D, W.listOf #[.int e0 td0, .int e1 td1, .int e2 td2] nd) :: nw) s) E s := by
  obtain ⟨hd0, d0', fr0, g0, u0⟩ := A
  cases hA
  have X := C.X
  have T' := C.T
  k_steps
  unfold Stop
  rename Fr _ _ _ _ => F1
  rename News _ _ _ _ => N1
  refine ne_shareN F1 X N1 (.tail _ (.head _)) (.head _) rfl rfl hu (tok_ne n2 ?_) hz ?_
  · first | exact Nat.succ_ne_zero _ | exact Nat.ne_of_gt (by assumption)
  k_steps
  all_goals
    rename Fr _ _ _ _ => FF
    rename News _ _ _ _ => NN
    first | exact absurd hX.2.2 ‹_› | exact ⟨rfl, _, _, rfl, FF, fun q hq => NN q (.tail _ (.tail _ hq))⟩

end

end

/-! ## R16 -/
section
set_option maxRecDepth 100000
set_option maxHeartbeats 8000000
section
variable {nd : Nat} {fa : Addr} {prog : Program} {w : World} {A : Around} {E : Value → Shared → Prop} {s : Shared} {p : Program} {loose : List Str} {mg mb : Str → Option Value} {bm : Addr} {ob : Obj}

theorem mx3_same (e : Int) : mx3 e e e = e := by unfold mx3; simp
theorem hsvF_same (e : Int) : hsvF e e e = (0, 0) := hsvF1 (by unfold mn3 mx3; simp)

theorem canonD {m : Str → Option Value} {a b c : Value} (h1 : m "due" = some a) (h2 : m "place" = some b) (h3 : m "size" = some c) :
    m = (fun (y : Str) => if y = "due" then some a else if y = "place" then some b else if y = "size" then some c else m y) := by
  funext y
  by_cases e0 : y = "due"
  · subst e0; rw [h1]; simp
  · by_cases e1 : y = "place"
    · subst e1; rw [h2]; simp [e0]
    · by_cases e2 : y = "size"
      · subst e2; rw [h3]; simp [e0, e1]
      · simp only [if_neg e0, if_neg e1, if_neg e2]

theorem place_range {m : Nat} {start : Int} : 0 ≤ placeOf m start ∧ placeOf m start < 12 := by
  unfold placeOf
  split <;> omega
theorem wheel_facts {m : Nat} {start : Int} (h : m = 5 ∨ m = 7) :
    let pl := placeOf m start
    let c := hsvF (dueOf m pl 0) (dueOf m pl 1) (dueOf m pl 2)
    c.2 = fq 2 (m * m + 1) ∧ mx3 (dueOf m pl 0) (dueOf m pl 1) (dueOf m pl 2) = m * m + 1 ∧ (Float64.isNaN (Float64.add (Float64.mul c.1 (Float64.ofInt 12582912)) 4602678819172646912) = false ∧ Float64.isInf (Float64.add (Float64.mul c.1 (Float64.ofInt 12582912)) 4602678819172646912) = false ∧ Flt.toInt Float64.truncOf (Float64.add (Float64.mul c.1 (Float64.ofInt 12582912)) 4602678819172646912) = pl * 1048576) := by
  have r := @place_range m start
  have k := hue_ok h r.1 r.2
  unfold hueOk at k
  simp only [Bool.and_eq_true, beq_iff_eq] at k
  exact ⟨k.1.1, k.1.2, fin_of k.2 (by omega)⟩
theorem due_same {m : Nat} {pl : Int} {k : Nat} (h : m % 2 = 0 ∨ m % 3 = 0) : dueOf m pl k = dueOf m pl 0 := by
  unfold dueOf
  split
  · rfl
  · split
    · rfl
    · omega
theorem share5 : (Float64.cmp (fq 2 26) (fq 2 26) == some Ordering.eq) = true := by decide +kernel
theorem share7 : (Float64.cmp (fq 2 50) (fq 2 50) == some Ordering.eq) = true := by decide +kernel

theorem chain_stmt {h₀ : Heap} {L D : Addr} {m : Str → Option Value} {M : Nat} {start : Int} {tz t1 t2 t3 tp td0 td1 td2 : Tok} {nw : List (Addr × Obj)} {nm : Str} {cd : Value} {q1 q2 q3 q4 q5 q6 q7 q8 q9 q10 q11 q12 q13 q14 q15 q16 q17 q18 q19 q20 q21 q22 q23 q24 q25 q26 q27 q28 q29 q30 q31 q32 q33 q34 q35 q36 q37 q38 q39 q40 q41 q42 q43 q44 q45 q46 q47 q48 q49 q50 q51 q52 q53 q54 q55 q56 q57 q58 q59 q60 : Pos}
    (h2 : 2 ≤ M) (h8 : M ≤ 8) (hlo : -(12 * M : Int) ≤ start) (hhi : start < 24 * M) (hA : A.handled = none) (n1 : t1 ≠ 0) (n2 : t2 ≠ 0) (hu : A.units < cLine) (C : Ctx w p loose mg mb bm ob h₀)
    (hm1 : m "due" = some (.ref D)) (hm2 : m "place" = some (.int (placeOf M start) tp)) (hm3 : m "size" = some (.int M tz))
    (F : Fr h₀ L s.heap (fun y => if y = "value" then some (.int (mx3 (heap3 M start 0 M) (heap3 M start 1 M) (heap3 M start 2 M)) t3) else if y = "share" then some (.float (hsvF (heap3 M start 0 M) (heap3 M start 1 M) (heap3 M start 2 M)).2 t2) else if y = "hue" then some (.float (hsvF (heap3 M start 0 M) (heap3 M start 1 M) (heap3 M start 2 M)).1 t1) else m y))
    (N : News h₀ L s.heap ((D, W.listOf #[.int (dueOf M (placeOf M start) 0) td0, .int (dueOf M (placeOf M start) 1) td1, .int (dueOf M (placeOf M start) 2) td2] nd) :: nw)) :
    wpAny (model prog w) A (exec (.If (.BoolOp .Or [ (.Compare (.BinOp (.Name "size" q1) .Mod (.Constant (.int 2) 0 q2) q3) [.Eq] [(.Constant (.int 0) 0 q4)] q5), (.Compare (.BinOp (.Name "size" q6) .Mod (.Constant (.int 3) 0 q7) q8) [.Eq] [(.Constant (.int 0) 0 q9)] q10)] q11) [ (.If (.Compare (.Tuple [ (.Name "hue" q12), (.Name "share" q13), (.Name "value" q14)] 0 q15) [.NotEq] [ (.Tuple [ (.Constant (.float 0x0000000000000000) 0 q16), (.Constant (.float 0x0000000000000000) 0 q17), (.Subscript (.Name "due" q18) (.Constant (.int 0) 0 q19) q20)] 0 q21)] q22) [ (.Return (some (.Constant (.bool false) 0 q23)) q24)] [] q25)] [ (.If (.Compare (.Tuple [(.Name "share" q26), (.Name "value" q27)] 0 q28) [.NotEq] [ (.Tuple [ (.BinOp (.Constant (.int 2) 0 q29) .Div (.BinOp (.BinOp (.Name "size" q30) .Mult (.Name "size" q31) q32) .Add (.Constant (.int 1) 0 q33) q34) q35), (.BinOp (.BinOp (.Name "size" q36) .Mult (.Name "size" q37) q38) .Add (.Constant (.int 1) 0 q39) q40)] 0 q41)] q42) [ (.Return (some (.Constant (.bool false) 0 q43)) q44)] [ (.If (.Compare (.Call (.Name "int" q45) [ (.BinOp (.BinOp (.Name "hue" q46) .Mult (.Constant (.int 12582912) 0 q47) q48) .Add (.Constant (.float 0x3fe0000000000000) 0 q49) q50)] [] q51) [.NotEq] [ (.BinOp (.Name "place" q52) .Mult (.Constant (.int 1048576) 0 q53) q54)] q55) [ (.Return (some (.Constant (.bool false) 0 q56)) q57)] [] q58)] q59)] q60) (envOf nm lSc L fa cd)) (LookOut h₀ L (fun y => if y = "value" then some (.int (mx3 (heap3 M start 0 M) (heap3 M start 1 M) (heap3 M start 2 M)) t3) else if y = "share" then some (.float (hsvF (heap3 M start 0 M) (heap3 M start 1 M) (heap3 M start 2 M)).2 t2) else if y = "hue" then some (.float (hsvF (heap3 M start 0 M) (heap3 M start 1 M) (heap3 M start 2 M)).1 t1) else m y) ((D, W.listOf #[.int (dueOf M (placeOf M start) 0) td0, .int (dueOf M (placeOf M start) 1) td1, .int (dueOf M (placeOf M start) 2) td2] nd) :: nw) s) E s := by
  have s0 := sums (m := M) (start := start) (k := 0) h2 h8 hlo hhi (by decide)
  have s1 := sums (m := M) (start := start) (k := 1) h2 h8 hlo hhi (by decide)
  have s2 := sums (m := M) (start := start) (k := 2) h2 h8 hlo hhi (by decide)
  rw [s0, s1, s2] at F ⊢
  rw [canonD hm1 hm2 hm3] at F ⊢
  have hM : M = 2 ∨ M = 3 ∨ M = 4 ∨ M = 5 ∨ M = 6 ∨ M = 7 ∨ M = 8 := by omega
  rcases hM with rfl | rfl | rfl | rfl | rfl | rfl | rfl
  · rw [due_same (k := 1) (.inl rfl), due_same (k := 2) (.inl rfl), hsvF_same, mx3_same] at F ⊢
    exact chainA hA C (by decide) n1 n2 hu F N
  · rw [due_same (k := 1) (.inr rfl), due_same (k := 2) (.inr rfl), hsvF_same, mx3_same] at F ⊢
    exact chain3 hA C n1 n2 hu F N
  · rw [due_same (k := 1) (.inl rfl), due_same (k := 2) (.inl rfl), hsvF_same, mx3_same] at F ⊢
    exact chainA hA C (by decide) n1 n2 hu F N
  · have wf := wheel_facts (m := 5) (start := start) (.inl rfl)
    dsimp only at wf
    rw [wf.1, wf.2.1] at F ⊢
    exact chain5 hA n1 n2 hu share5 C wf.2.2 F N
  · rw [due_same (k := 1) (.inl rfl), due_same (k := 2) (.inl rfl), hsvF_same, mx3_same] at F ⊢
    exact chainA hA C (by decide) n1 n2 hu F N
  · have wf := wheel_facts (m := 7) (start := start) (.inr rfl)
    dsimp only at wf
    rw [wf.1, wf.2.1] at F ⊢
    exact chain7 hA n1 n2 hu share7 C wf.2.2 F N
  · rw [due_same (k := 1) (.inl rfl), due_same (k := 2) (.inl rfl), hsvF_same, mx3_same] at F ⊢
    exact chainA hA C (by decide) n1 n2 hu F N
end

end

/-! ## R17 -/
section
set_option maxRecDepth 100000
set_option maxHeartbeats 8000000
section
variable {nd : Nat} {fa : Addr} {prog : Program} {w : World} {A : Around} {E : Value → Shared → Prop} {s : Shared} {p : Program} {loose : List Str} {mg mb : Str → Option Value} {bm : Addr} {ob : Obj}

/-- the text that an accumulator's parts make -/
def textOf (ps : List (Str × Str)) : Str := Txt.join (Str.ofString "") (ps.map fun q => Txt.join (Str.ofString "") [q.1, q.2])
/-- parts that `str` takes -/
structure Fits (ps : List (Str × Str)) : Prop where
  fit : ∀ q ∈ ps, q.1.length ≤ 100000 ∧ q.2.length ≤ 100000
  few : ps.length ≤ 1000
  ok : JoinOk (Str.ofString "") (ps.map fun q => Txt.join (Str.ofString "") [q.1, q.2]) = true

theorem strL {hr h₀ : Heap} {x dx L : Addr} {ps : List (Str × Str)} {m : Str → Option Value} {p0 : Array Value} {Q : Value → Shared → Prop} (hA : A.handled = none) (hroom : A.depth + 7 < recursionLimit) (hu : A.in1.in1.units < cLine)
    (F : Fr h₀ L s.heap m) (C : Ctx w p loose mg mb bm ob h₀) (a : Acc w.params s.heap x dx ps) (ft : Fits ps) (h91 : h₀.get? 91 = none) (hL : L ≠ 91) (ht₀ : hr.TableAt 95 91 p0) (Rn : Run hr s.heap) (hb : AllBare s.gens)
    (hQ : ∀ h' tk g' t, Fr h₀ L h' m → (∀ b o, b ≠ 91 → s.heap.get? b = some o → h'.get? b = some o) → Run hr h' → AllBare g' → Q (.str (textOf ps) t) { s with heap := h', toks := tk, gens := g' }) :
    wpAny (model prog w) A (call (.type "str") [.ref x]) Q E s := by
  obtain ⟨tps, hc, ht⟩ := Rn.t2
  refine accStr F C a hc ht hA hroom hu ft.fit ft.few ft.ok fun h' tk g' t more k1 k2 k3 k4 => ?_
  exact hQ h' tk g' t ⟨F.ns.at' fun o e => k1 L o hL e, fun b o e => k1 b o (fun h => by rw [h, h91] at e; cases e) (F.keep b o e), F.above⟩ k1 (Rn.tab91 ht₀ ht k2 k3 k1) (k4 hb)

theorem Run.field91 {hr h : Heap} (R : Run hr h) : ∃ o vs, h.get? 91 = some o ∧ o.data = .fields vs ∧ o.cls = .none := by
  obtain ⟨tps, hc, ht⟩ := R.t2
  exact ⟨_, _, ht.2, rfl, rfl⟩

theorem bare_push {g : Array GenState} (h : AllBare g) : AllBare (g.push .finished) := h.push rfl

theorem pushE0 {h₀ : Heap} {L Ln D x dx y1 y2 : Addr} {m₁ : Str → Option Value} {tk td0 td1 td2 : Tok} {b0 b1 b2 : Nat} {ps : List (Str × Str)} {nm : Str} {cd : Value} {Q : Flow → Shared → Prop} {a1 a2 a3 a4 a5 a6 : Nat} {q5 q6 q7 q8 q9 q10 q11 q12 q13 q14 : Pos}
    (hA : A.handled = none) (hroom : A.depth < recursionLimit) (C : Ctx w p loose mg mb bm ob h₀) (hb : b0 ≤ 100)
    (F : Fr h₀ L s.heap (fun y => if y = "k" then some (.int 0 tk) else if y = "due" then some (.ref D) else if y = "lines" then some (.ref Ln) else m₁ y))
    (N : News h₀ L s.heap [(D, W.listOf #[.int (b0 : Nat) td0, .int (b1 : Nat) td1, .int (b2 : Nat) td2] nd), (Ln, W.listOf #[.ref x, .ref y1, .ref y2] 0)])
    (a : Acc w.params s.heap x dx ps) (hxn : h₀.get? x = none ∧ x ≠ L) (hdn : h₀.get? dx = none ∧ dx ≠ L) (hn : ps.length ≤ 1000)
    (hQ : ∀ h' tk, (∀ b o, b ≠ x → s.heap.get? b = some o → h'.get? b = some o) → Acc w.params h' x dx (ps ++ [(Str.ofString " ", Txt.mul (Str.ofString ")") (b0 : Nat))]) → Q .next { s with heap := h', toks := tk }) :
    wpAny (model prog w) A (exec (.Expr (.Call (.Attribute (.Subscript (.Name "lines" q5) (.Name "k" q6) q7) "push" { line := a1, col := a2, endLine := 156, endCol := a3 }) [ (.Constant (.str " ") 0 q8), (.BinOp (.Constant (.str ")") 0 q9) .Mult (.Subscript (.Name "due" q10) (.Name "k" q11) q12) q13)] [] { line := 156, col := a4, endLine := a5, endCol := a6 }) q14) (envOf nm lSc L fa cd)) Q E s := by
  obtain ⟨hd0, d0, fr0, g0, u0⟩ := A
  cases hA
  have X := C.X
  have T := C.T
  have hxK : (hd.heap_39 w.params).lookup x = none := lookup_none X hxn.1
  have a' := a
  obtain ⟨its, n, tk₀, k₀, hx, hdx, hps⟩ := a'
  have N₁ : News h₀ L s.heap [(D, W.listOf #[.int (b0 : Nat) td0, .int (b1 : Nat) td1, .int (b2 : Nat) td2] nd), (Ln, W.listOf #[.ref x, .ref y1, .ref y2] 0), (x, accObj dx its n), (dx, accDict w.params tk₀ k₀)] := by
    intro q hq
    rcases List.mem_cons.mp hq with rfl | hq
    · exact N _ (.head _)
    rcases List.mem_cons.mp hq with rfl | hq
    · exact N _ (.tail _ (.head _))
    rcases List.mem_cons.mp hq with rfl | hq
    · exact ⟨hx, hxn.2, hxn.1⟩
    obtain rfl := List.mem_singleton.mp hq
    exact ⟨hdx, hdn.2, hdn.1⟩
  clear N
  k_steps
  rw [show ([(b0 : Int), (b1 : Int), (b2 : Int)]).getD (Int.toNat 0) 0 = (b0 : Int) from rfl]
  k_steps
  refine accPush (C.keeps F.keep) a hxK rfl hroom hn fun h' tk k1 a2 => ?_
  exact hQ h' tk k1 a2

theorem pushE1 {h₀ : Heap} {L Ln D x dx y0 y2 : Addr} {m₁ : Str → Option Value} {tk td0 td1 td2 : Tok} {b0 b1 b2 : Nat} {ps : List (Str × Str)} {nm : Str} {cd : Value} {Q : Flow → Shared → Prop} {a1 a2 a3 a4 a5 a6 : Nat} {q5 q6 q7 q8 q9 q10 q11 q12 q13 q14 : Pos}
    (hA : A.handled = none) (hroom : A.depth < recursionLimit) (C : Ctx w p loose mg mb bm ob h₀) (hb : b1 ≤ 100)
    (F : Fr h₀ L s.heap (fun y => if y = "k" then some (.int 1 tk) else if y = "due" then some (.ref D) else if y = "lines" then some (.ref Ln) else m₁ y))
    (N : News h₀ L s.heap [(D, W.listOf #[.int (b0 : Nat) td0, .int (b1 : Nat) td1, .int (b2 : Nat) td2] nd), (Ln, W.listOf #[.ref y0, .ref x, .ref y2] 0)])
    (a : Acc w.params s.heap x dx ps) (hxn : h₀.get? x = none ∧ x ≠ L) (hdn : h₀.get? dx = none ∧ dx ≠ L) (hn : ps.length ≤ 1000)
    (hQ : ∀ h' tk, (∀ b o, b ≠ x → s.heap.get? b = some o → h'.get? b = some o) → Acc w.params h' x dx (ps ++ [(Str.ofString " ", Txt.mul (Str.ofString ")") (b1 : Nat))]) → Q .next { s with heap := h', toks := tk }) :
    wpAny (model prog w) A (exec (.Expr (.Call (.Attribute (.Subscript (.Name "lines" q5) (.Name "k" q6) q7) "push" { line := a1, col := a2, endLine := 156, endCol := a3 }) [ (.Constant (.str " ") 0 q8), (.BinOp (.Constant (.str ")") 0 q9) .Mult (.Subscript (.Name "due" q10) (.Name "k" q11) q12) q13)] [] { line := 156, col := a4, endLine := a5, endCol := a6 }) q14) (envOf nm lSc L fa cd)) Q E s := by
  obtain ⟨hd0, d0, fr0, g0, u0⟩ := A
  cases hA
  have X := C.X
  have T := C.T
  have hxK : (hd.heap_39 w.params).lookup x = none := lookup_none X hxn.1
  have a' := a
  obtain ⟨its, n, tk₀, k₀, hx, hdx, hps⟩ := a'
  have N₁ : News h₀ L s.heap [(D, W.listOf #[.int (b0 : Nat) td0, .int (b1 : Nat) td1, .int (b2 : Nat) td2] nd), (Ln, W.listOf #[.ref y0, .ref x, .ref y2] 0), (x, accObj dx its n), (dx, accDict w.params tk₀ k₀)] := by
    intro q hq
    rcases List.mem_cons.mp hq with rfl | hq
    · exact N _ (.head _)
    rcases List.mem_cons.mp hq with rfl | hq
    · exact N _ (.tail _ (.head _))
    rcases List.mem_cons.mp hq with rfl | hq
    · exact ⟨hx, hxn.2, hxn.1⟩
    obtain rfl := List.mem_singleton.mp hq
    exact ⟨hdx, hdn.2, hdn.1⟩
  clear N
  k_steps
  rw [show ([(b0 : Int), (b1 : Int), (b2 : Int)]).getD (Int.toNat 1) 0 = (b1 : Int) from rfl]
  k_steps
  refine accPush (C.keeps F.keep) a hxK rfl hroom hn fun h' tk k1 a2 => ?_
  exact hQ h' tk k1 a2

theorem pushE2 {h₀ : Heap} {L Ln D x dx y0 y1 : Addr} {m₁ : Str → Option Value} {tk td0 td1 td2 : Tok} {b0 b1 b2 : Nat} {ps : List (Str × Str)} {nm : Str} {cd : Value} {Q : Flow → Shared → Prop} {a1 a2 a3 a4 a5 a6 : Nat} {q5 q6 q7 q8 q9 q10 q11 q12 q13 q14 : Pos}
    (hA : A.handled = none) (hroom : A.depth < recursionLimit) (C : Ctx w p loose mg mb bm ob h₀) (hb : b2 ≤ 100)
    (F : Fr h₀ L s.heap (fun y => if y = "k" then some (.int 2 tk) else if y = "due" then some (.ref D) else if y = "lines" then some (.ref Ln) else m₁ y))
    (N : News h₀ L s.heap [(D, W.listOf #[.int (b0 : Nat) td0, .int (b1 : Nat) td1, .int (b2 : Nat) td2] nd), (Ln, W.listOf #[.ref y0, .ref y1, .ref x] 0)])
    (a : Acc w.params s.heap x dx ps) (hxn : h₀.get? x = none ∧ x ≠ L) (hdn : h₀.get? dx = none ∧ dx ≠ L) (hn : ps.length ≤ 1000)
    (hQ : ∀ h' tk, (∀ b o, b ≠ x → s.heap.get? b = some o → h'.get? b = some o) → Acc w.params h' x dx (ps ++ [(Str.ofString " ", Txt.mul (Str.ofString ")") (b2 : Nat))]) → Q .next { s with heap := h', toks := tk }) :
    wpAny (model prog w) A (exec (.Expr (.Call (.Attribute (.Subscript (.Name "lines" q5) (.Name "k" q6) q7) "push" { line := a1, col := a2, endLine := 156, endCol := a3 }) [ (.Constant (.str " ") 0 q8), (.BinOp (.Constant (.str ")") 0 q9) .Mult (.Subscript (.Name "due" q10) (.Name "k" q11) q12) q13)] [] { line := 156, col := a4, endLine := a5, endCol := a6 }) q14) (envOf nm lSc L fa cd)) Q E s := by
  obtain ⟨hd0, d0, fr0, g0, u0⟩ := A
  cases hA
  have X := C.X
  have T := C.T
  have hxK : (hd.heap_39 w.params).lookup x = none := lookup_none X hxn.1
  have a' := a
  obtain ⟨its, n, tk₀, k₀, hx, hdx, hps⟩ := a'
  have N₁ : News h₀ L s.heap [(D, W.listOf #[.int (b0 : Nat) td0, .int (b1 : Nat) td1, .int (b2 : Nat) td2] nd), (Ln, W.listOf #[.ref y0, .ref y1, .ref x] 0), (x, accObj dx its n), (dx, accDict w.params tk₀ k₀)] := by
    intro q hq
    rcases List.mem_cons.mp hq with rfl | hq
    · exact N _ (.head _)
    rcases List.mem_cons.mp hq with rfl | hq
    · exact N _ (.tail _ (.head _))
    rcases List.mem_cons.mp hq with rfl | hq
    · exact ⟨hx, hxn.2, hxn.1⟩
    obtain rfl := List.mem_singleton.mp hq
    exact ⟨hdx, hdn.2, hdn.1⟩
  clear N
  k_steps
  rw [show ([(b0 : Int), (b1 : Int), (b2 : Int)]).getD (Int.toNat 2) 0 = (b2 : Int) from rfl]
  k_steps
  refine accPush (C.keeps F.keep) a hxK rfl hroom hn fun h' tk k1 a2 => ?_
  exact hQ h' tk k1 a2

theorem checkE0 {hr h₀ : Heap} {L Ln x dx y1 y2 : Addr} {m₁ : Str → Option Value} {tk : Tok} {ps : List (Str × Str)} {p0 : Array Value} {nm : Str} {cd : Value} {Q : Flow → Shared → Prop} {e : Nat} {q15 q16 q17 q18 q19 q20 q21 q22 q23 q24 q25 : Pos}
    (hA : A.handled = none) (hroom : A.depth + 7 < recursionLimit) (hu : A.in1.in1.units < cLine) (C : Ctx w p loose mg mb bm ob h₀)
    (F : Fr h₀ L s.heap (fun y => if y = "k" then some (.int 0 tk) else if y = "lines" then some (.ref Ln) else m₁ y))
    (N : News h₀ L s.heap [(Ln, W.listOf #[.ref x, .ref y1, .ref y2] 0)]) (a : Acc w.params s.heap x dx ps) (ft : Fits ps) (h91 : h₀.get? 91 = none) (hL : L ≠ 91) (ht₀ : hr.TableAt 95 91 p0) (Rn : Run hr s.heap) (hb : AllBare s.gens)
    (he : e ≤ 10000) (hx : (textOf ps).cps.toList = List.replicate e 40 ++ 32 :: List.replicate e 41)
    (hQ : ∀ h' tk' g', Fr h₀ L h' (fun y => if y = "k" then some (.int 0 tk) else if y = "lines" then some (.ref Ln) else m₁ y) → (∀ b o, b ≠ 91 → s.heap.get? b = some o → h'.get? b = some o) → Run hr h' → AllBare g' → Q .next { s with heap := h', toks := tk', gens := g' }) :
    wpAny (model prog w) A (exec (.If (.UnaryOp .Not (.Call (.Name "_check_parenthesis" q15) [ (.Call (.Name "str" q16) [ (.Subscript (.Name "lines" q17) (.Name "k" q18) q19)] [] q20)] [] q21) q22) [ (.Return (some (.Constant (.bool false) 0 q23)) q24)] [] q25) (envOf nm lSc L fa cd)) Q E s := by
  obtain ⟨hd0, d0, fr0, g0, u0⟩ := A
  cases hA
  have X := C.X
  have T := C.T
  k_steps
  refine strL rfl hroom hu F C a ft h91 hL ht₀ Rn hb fun h₁ tk₁ g₁ t₁ F₁ k₁ R₁ b₁ => ?_
  clear N
  have N₁ : News h₀ L h₁ [] := News.nil
  k_steps
  refine textCheck (C.keeps F₁.keep) rfl (Nat.lt_of_le_of_lt (Nat.add_le_add_left (by decide : 1 ≤ 7) d0) hroom) hx (Nat.le_refl _) he fun h₂ tk₂ k₂ => ?_
  have F₂ : Fr h₀ L h₂ (fun y => if y = "k" then some (.int 0 tk) else if y = "lines" then some (.ref Ln) else m₁ y) := ⟨F₁.ns.keeps k₂, fun b o e => k₂ b o (F₁.keep b o e), F₁.above⟩
  rw [decide_eq_true rfl]
  clear N₁ F₁
  have N₂ : News h₀ L h₂ [] := News.nil
  k_steps
  exact hQ _ _ _ F₂ (fun b o hb e => k₂ b o (k₁ b o hb e)) (R₁.keeps k₂) (bare_push b₁)

theorem checkE1 {hr h₀ : Heap} {L Ln x dx y0 y2 : Addr} {m₁ : Str → Option Value} {tk : Tok} {ps : List (Str × Str)} {p0 : Array Value} {nm : Str} {cd : Value} {Q : Flow → Shared → Prop} {e : Nat} {q15 q16 q17 q18 q19 q20 q21 q22 q23 q24 q25 : Pos}
    (hA : A.handled = none) (hroom : A.depth + 7 < recursionLimit) (hu : A.in1.in1.units < cLine) (C : Ctx w p loose mg mb bm ob h₀)
    (F : Fr h₀ L s.heap (fun y => if y = "k" then some (.int 1 tk) else if y = "lines" then some (.ref Ln) else m₁ y))
    (N : News h₀ L s.heap [(Ln, W.listOf #[.ref y0, .ref x, .ref y2] 0)]) (a : Acc w.params s.heap x dx ps) (ft : Fits ps) (h91 : h₀.get? 91 = none) (hL : L ≠ 91) (ht₀ : hr.TableAt 95 91 p0) (Rn : Run hr s.heap) (hb : AllBare s.gens)
    (he : e ≤ 10000) (hx : (textOf ps).cps.toList = List.replicate e 40 ++ 32 :: List.replicate e 41)
    (hQ : ∀ h' tk' g', Fr h₀ L h' (fun y => if y = "k" then some (.int 1 tk) else if y = "lines" then some (.ref Ln) else m₁ y) → (∀ b o, b ≠ 91 → s.heap.get? b = some o → h'.get? b = some o) → Run hr h' → AllBare g' → Q .next { s with heap := h', toks := tk', gens := g' }) :
    wpAny (model prog w) A (exec (.If (.UnaryOp .Not (.Call (.Name "_check_parenthesis" q15) [ (.Call (.Name "str" q16) [ (.Subscript (.Name "lines" q17) (.Name "k" q18) q19)] [] q20)] [] q21) q22) [ (.Return (some (.Constant (.bool false) 0 q23)) q24)] [] q25) (envOf nm lSc L fa cd)) Q E s := by
  obtain ⟨hd0, d0, fr0, g0, u0⟩ := A
  cases hA
  have X := C.X
  have T := C.T
  k_steps
  refine strL rfl hroom hu F C a ft h91 hL ht₀ Rn hb fun h₁ tk₁ g₁ t₁ F₁ k₁ R₁ b₁ => ?_
  clear N
  have N₁ : News h₀ L h₁ [] := News.nil
  k_steps
  refine textCheck (C.keeps F₁.keep) rfl (Nat.lt_of_le_of_lt (Nat.add_le_add_left (by decide : 1 ≤ 7) d0) hroom) hx (Nat.le_refl _) he fun h₂ tk₂ k₂ => ?_
  have F₂ : Fr h₀ L h₂ (fun y => if y = "k" then some (.int 1 tk) else if y = "lines" then some (.ref Ln) else m₁ y) := ⟨F₁.ns.keeps k₂, fun b o e => k₂ b o (F₁.keep b o e), F₁.above⟩
  rw [decide_eq_true rfl]
  clear N₁ F₁
  have N₂ : News h₀ L h₂ [] := News.nil
  k_steps
  exact hQ _ _ _ F₂ (fun b o hb e => k₂ b o (k₁ b o hb e)) (R₁.keeps k₂) (bare_push b₁)

theorem checkE2 {hr h₀ : Heap} {L Ln x dx y0 y1 : Addr} {m₁ : Str → Option Value} {tk : Tok} {ps : List (Str × Str)} {p0 : Array Value} {nm : Str} {cd : Value} {Q : Flow → Shared → Prop} {e : Nat} {q15 q16 q17 q18 q19 q20 q21 q22 q23 q24 q25 : Pos}
    (hA : A.handled = none) (hroom : A.depth + 7 < recursionLimit) (hu : A.in1.in1.units < cLine) (C : Ctx w p loose mg mb bm ob h₀)
    (F : Fr h₀ L s.heap (fun y => if y = "k" then some (.int 2 tk) else if y = "lines" then some (.ref Ln) else m₁ y))
    (N : News h₀ L s.heap [(Ln, W.listOf #[.ref y0, .ref y1, .ref x] 0)]) (a : Acc w.params s.heap x dx ps) (ft : Fits ps) (h91 : h₀.get? 91 = none) (hL : L ≠ 91) (ht₀ : hr.TableAt 95 91 p0) (Rn : Run hr s.heap) (hb : AllBare s.gens)
    (he : e ≤ 10000) (hx : (textOf ps).cps.toList = List.replicate e 40 ++ 32 :: List.replicate e 41)
    (hQ : ∀ h' tk' g', Fr h₀ L h' (fun y => if y = "k" then some (.int 2 tk) else if y = "lines" then some (.ref Ln) else m₁ y) → (∀ b o, b ≠ 91 → s.heap.get? b = some o → h'.get? b = some o) → Run hr h' → AllBare g' → Q .next { s with heap := h', toks := tk', gens := g' }) :
    wpAny (model prog w) A (exec (.If (.UnaryOp .Not (.Call (.Name "_check_parenthesis" q15) [ (.Call (.Name "str" q16) [ (.Subscript (.Name "lines" q17) (.Name "k" q18) q19)] [] q20)] [] q21) q22) [ (.Return (some (.Constant (.bool false) 0 q23)) q24)] [] q25) (envOf nm lSc L fa cd)) Q E s := by
  obtain ⟨hd0, d0, fr0, g0, u0⟩ := A
  cases hA
  have X := C.X
  have T := C.T
  k_steps
  refine strL rfl hroom hu F C a ft h91 hL ht₀ Rn hb fun h₁ tk₁ g₁ t₁ F₁ k₁ R₁ b₁ => ?_
  clear N
  have N₁ : News h₀ L h₁ [] := News.nil
  k_steps
  refine textCheck (C.keeps F₁.keep) rfl (Nat.lt_of_le_of_lt (Nat.add_le_add_left (by decide : 1 ≤ 7) d0) hroom) hx (Nat.le_refl _) he fun h₂ tk₂ k₂ => ?_
  have F₂ : Fr h₀ L h₂ (fun y => if y = "k" then some (.int 2 tk) else if y = "lines" then some (.ref Ln) else m₁ y) := ⟨F₁.ns.keeps k₂, fun b o e => k₂ b o (F₁.keep b o e), F₁.above⟩
  rw [decide_eq_true rfl]
  clear N₁ F₁
  have N₂ : News h₀ L h₂ [] := News.nil
  k_steps
  exact hQ _ _ _ F₂ (fun b o hb e => k₂ b o (k₁ b o hb e)) (R₁.keeps k₂) (bare_push b₁)
end

end

/-! ## R18 -/
section
set_option maxRecDepth 100000
set_option maxHeartbeats 8000000
section
variable {fa : Addr} {prog : Program} {w : World} {A : Around} {E : Value → Shared → Prop} {s : Shared} {p : Program} {loose : List Str} {mg mb : Str → Option Value} {bm : Addr} {ob : Obj}
def placeI (n st : Int) : Int := if Int.fmod n 6 = 5 then Int.fmod (-st) 12 else Int.fmod st 12
def PlaceOut (h₀ : Heap) (L : Addr) (m : Str → Option Value) (n st : Int) (nw : List (Addr × Obj)) (s : Shared) (f : Flow) (s' : Shared) : Prop :=
  f = .next ∧ ∃ h' tk t, s' = { s with heap := h', toks := tk } ∧ Fr h₀ L h' (fun y => if y = "place" then some (.int (placeI n st) t) else m y) ∧ News h₀ L h' nw
theorem PlaceOut.go {M₀ : Model} {t₀ : Sem Flow} {h₀ : Heap} {L : Addr} {m : Str → Option Value} {n st : Int} {nw : List (Addr × Obj)} {G : Flow → Shared → Prop} (o : wpAny M₀ A t₀ (PlaceOut h₀ L m n st nw s) (fun _ _ => False) s)
    (k : ∀ h' tk t, Fr h₀ L h' (fun y => if y = "place" then some (.int (placeI n st) t) else m y) → News h₀ L h' nw → G .next { s with heap := h', toks := tk }) : wpAny M₀ A t₀ G E s :=
  wpAny_mono o (fun f s' ho => by
    obtain ⟨rfl, h', tk, t, rfl, F, N⟩ := ho
    exact k _ _ _ F N) fun _ _ z => z.elim
theorem place_stmt {h₀ : Heap} {L : Addr} {m : Str → Option Value} {n st : Int} {t1 t2 : Tok} {nw : List (Addr × Obj)} {nm : Str} {cd : Value} {q1 q2 q3 q4 q5 q6 q7 q8 q9 q10 q11 q12 q13 q14 q15 : Pos} (hA : A.handled = none) (C : Ctx w p loose mg mb bm ob h₀)
    (F : Fr h₀ L s.heap (fun y => if y = "start" then some (.int st t1) else if y = "size" then some (.int n t2) else m y)) (N : News h₀ L s.heap nw) :
    wpAny (model prog w) A (exec (.Assign [.Name "place" q1] (.IfExp (.Compare (.BinOp (.Name "size" q2) .Mod (.Constant (.int 6) 0 q3) q4) [.Eq] [.Constant (.int 5) 0 q5] q6) (.BinOp (.UnaryOp .USub (.Name "start" q7) q8) .Mod (.Constant (.int 12) 0 q9) q10) (.BinOp (.Name "start" q11) .Mod (.Constant (.int 12) 0 q12) q13) q14) q15) (envOf nm { kind := .function, names := [("script", .local), ("total", .local), ("size", .local), ("start", .local), ("place", .local), ("due", .local), ("lines", .local), ("i", .local), ("light", .local), ("k", .local), ("hue", .local), ("share", .local), ("value", .local), ("_law_drawn", .globalImplicit), ("_law_due", .globalImplicit), ("_Accumulator", .globalImplicit), ("range", .globalImplicit), ("hls_to_rgb", .globalImplicit), ("int", .globalImplicit), ("rgb_to_hsv", .globalImplicit), ("len", .globalImplicit), ("_check_parenthesis", .globalImplicit), ("str", .globalImplicit)], isGenerator := false, isCoroutine := false } L fa cd))
     (PlaceOut h₀ L (fun y => if y = "start" then some (.int st t1) else if y = "size" then some (.int n t2) else m y) n st nw s) E s := by
  obtain ⟨hd0, d0, fr0, g0, u0⟩ := A
  cases hA
  have X := C.X
  have T := C.T
  k_steps
  · rename Fr _ _ _ _ => FF
    rename News _ _ _ _ => NN
    unfold PlaceOut
    rw [show placeI n st = _ from if_pos (by assumption)]
    exact ⟨rfl, _, _, _, rfl, FF, NN⟩
  · rename Fr _ _ _ _ => FF
    rename News _ _ _ _ => NN
    unfold PlaceOut
    rw [show placeI n st = _ from if_neg (by assumption)]
    exact ⟨rfl, _, _, _, rfl, FF, NN⟩
end

end

/-! ## R19 -/
section
set_option maxRecDepth 100000
set_option maxHeartbeats 8000000
section
variable {nd : Nat} {fa : Addr} {prog : Program} {w : World} {A : Around} {E : Value → Shared → Prop} {s : Shared} {p : Program} {loose : List Str} {mg mb : Str → Option Value} {bm : Addr} {ob : Obj}

/-- the base that the rest of the law is told over: the run's beginning without the two tables that change -/
structure Base (hr h₀ : Heap) (L : Addr) (p0 p1 : Array Value) : Prop where
  h84 : h₀.get? 84 = none
  h91 : h₀.get? 91 = none
  L84 : L ≠ 84
  L91 : L ≠ 91
  t84 : hr.TableAt 88 84 p0
  t91 : hr.TableAt 95 91 p1
  hide : ∀ b, b ≠ 84 → b ≠ 91 → hr.get? b = h₀.get? b
  c88 : ∃ o, hr.get? 88 = some o
  c95 : ∃ o, hr.get? 95 = some o

theorem oldK_stays {h₀ h h' : Heap} {S : List Addr} (K : OldK h₀ h) (hS : ∀ c ∈ S, h₀.get? c = none) (k : Stays S h h') : OldK h₀ h' := by
  have ne : ∀ b o, h₀.get? b = some o → b ∉ S := fun b o e hb => by rw [hS b hb] at e; cases e
  refine ⟨fun b o e => ?_, fun b o e => let ⟨o', ho'⟩ := K.there b o e; ⟨o', k b o' (ne b o e) ho'⟩⟩
  rcases K.old b o e with y | ⟨t, hc, vs, more, hv, y⟩ | ⟨rfl, hc, ⟨o', es, n, ho', r⟩, z⟩
  · exact .inl (k _ _ (ne b o e) y)
  · exact .inr (.inl ⟨t, hc, vs, more, hv, k _ _ (ne b o e) y⟩)
  · exact .inr (.inr ⟨rfl, hc, ⟨o', es, n, k _ _ (ne _ o e) ho', r⟩, fun key => by rw [OldK.staticOf_congr ((k _ _ (ne _ o e) ho').trans ho'.symm) key]; exact z key⟩)

theorem Run.stays {hr h₀ h h' : Heap} {L : Addr} {p0 p1 : Array Value} {S : List Addr} (R : Run hr h) (B : Base hr h₀ L p0 p1) (hS : ∀ c ∈ S, h₀.get? c = none ∧ c ≠ 84 ∧ c ≠ 91) (k : Stays S h h') : Run hr h' := by
  have hS' : ∀ c ∈ S, hr.get? c = none := fun c hc => (B.hide c (hS c hc).2.1 (hS c hc).2.2).trans (hS c hc).1
  have ne : ∀ b, (∃ o, hr.get? b = some o) → b ∉ S := fun b ⟨o, e⟩ hb => by rw [hS' b hb] at e; cases e
  have n84 : (84 : Addr) ∉ S := fun hm => (hS _ hm).2.1 rfl
  have n91 : (91 : Addr) ∉ S := fun hm => (hS _ hm).2.2 rfl
  exact ⟨oldK_stays R.old hS' k, fun b o h1 h2 e => k b o (ne b ⟨o, e⟩) (R.k b o h1 h2 e), R.t1.keeps (fun o e => k _ o (ne _ B.c88) e) (fun o e => k _ o n84 e), R.t2.keeps (fun o e => k _ o (ne _ B.c95) e) (fun o e => k _ o n91 e)⟩

/-- what the lines are made of lies at neither table -/
theorem Lines.off {hr : Heap} {P : Params} {b h : Heap} {L Ln x0 d0 x1 d1 x2 d2 : Addr} {ps0 ps1 ps2 : List (Str × Str)} (l : Lines P b h L Ln x0 d0 x1 d1 x2 d2 ps0 ps1 ps2) (R : Run hr h) : (x0 ≠ 84 ∧ x0 ≠ 91) ∧ (x1 ≠ 84 ∧ x1 ≠ 91) ∧ (x2 ≠ 84 ∧ x2 ≠ 91) := by
  have o : ∀ {x dx ps}, Acc P h x dx ps → x ≠ 84 ∧ x ≠ 91 := fun a => by
    obtain ⟨its, n, tk, k₀, h1, h2, -⟩ := a
    obtain ⟨t1, c1, a1⟩ := R.t1
    obtain ⟨t2, c2, a2⟩ := R.t2
    refine ⟨fun e => ?_, fun e => ?_⟩
    · rw [e, a1.2] at h1; cases h1
    · rw [e, a2.2] at h1; cases h1
  exact ⟨o l.a0, o l.a1, o l.a2⟩


theorem popE {h₀ : Heap} {L Ln D x dx y1 y2 : Addr} {m₁ : Str → Option Value} {td0 td1 td2 : Tok} {b0 b1 b2 : Nat} {ps : List (Str × Str)} {q : Str × Str} {nm : Str} {cd : Value} {Q : Flow → Shared → Prop} {a1 a2 a3 a4 a5 a6 : Nat} {q1 q2 q3 q4 : Pos}
    (hA : A.handled = none) (hroom : A.depth + 1 < recursionLimit) (C : Ctx w p loose mg mb bm ob h₀) (hfile : ((prog.main.file : Str) == Str.ofString "/claim/cut.py") = true) (htop : (prog.main.scope.names.lookup ("super" : Str)).isSome = false)
    (F : Fr h₀ L s.heap (fun y => if y = "due" then some (.ref D) else if y = "lines" then some (.ref Ln) else m₁ y))
    (N : News h₀ L s.heap [(D, W.listOf #[.int (b0 : Nat) td0, .int (b1 : Nat) td1, .int (b2 : Nat) td2] nd), (Ln, W.listOf #[.ref x, .ref y1, .ref y2] 0)])
    (a : Acc w.params s.heap x dx (ps ++ [q])) (hxn : h₀.get? x = none ∧ x ≠ L) (hdn : h₀.get? dx = none ∧ dx ≠ L) (hn : ps.length ≤ 900)
    (hQ : ∀ h' tk, (∀ b o, b ≠ x → s.heap.get? b = some o → h'.get? b = some o) → Acc w.params h' x dx ps → Q .next { s with heap := h', toks := tk }) :
    wpAny (model prog w) A (exec (.Expr (.Call (.Attribute (.Subscript (.Name "lines" q1) (.Constant (.int 0) 0 q2) q3) "pop" { line := a1, col := a2, endLine := 159, endCol := a3 }) [] [] { line := 159, col := a4, endLine := a5, endCol := a6 }) q4) (envOf nm lSc L fa cd)) Q E s := by
  obtain ⟨hd0, d0, fr0, g0, u0⟩ := A
  cases hA
  have X := C.X
  have T := C.T
  have hxK : (hd.heap_39 w.params).lookup x = none := lookup_none X hxn.1
  have a' := a
  obtain ⟨its, n, tk₀, k₀, hx, hdx, hps⟩ := a'
  have N₁ : News h₀ L s.heap [(D, W.listOf #[.int (b0 : Nat) td0, .int (b1 : Nat) td1, .int (b2 : Nat) td2] nd), (Ln, W.listOf #[.ref x, .ref y1, .ref y2] 0), (x, accObj dx its n), (dx, accDict w.params tk₀ k₀)] := by
    intro q hq
    rcases List.mem_cons.mp hq with rfl | hq
    · exact N _ (.head _)
    rcases List.mem_cons.mp hq with rfl | hq
    · exact N _ (.tail _ (.head _))
    rcases List.mem_cons.mp hq with rfl | hq
    · exact ⟨hx, hxn.2, hxn.1⟩
    obtain rfl := List.mem_singleton.mp hq
    exact ⟨hdx, hdn.2, hdn.1⟩
  clear N
  k_steps
  refine accPop (C.keeps F.keep) a hxK rfl hroom hn hfile htop fun h' tk T' k1 a2 => ?_
  exact hQ h' tk k1 a2

theorem pushL {h₀ : Heap} {L Ln D x dx y1 y2 : Addr} {m₁ : Str → Option Value} {td0 td1 td2 : Tok} {b b1 b2 : Nat} {ps : List (Str × Str)} {nm : Str} {cd : Value} {Q : Flow → Shared → Prop} {a1 a2 a3 a4 a5 a6 : Nat} {q1 q2 q3 q4 q5 q6 q7 q8 q9 q10 q11 q12 : Pos}
    (hA : A.handled = none) (hroom : A.depth < recursionLimit) (C : Ctx w p loose mg mb bm ob h₀) (hb : b ≤ 100)
    (F : Fr h₀ L s.heap (fun y => if y = "due" then some (.ref D) else if y = "lines" then some (.ref Ln) else m₁ y))
    (N : News h₀ L s.heap [(D, W.listOf #[.int ((b + 1 : Nat) : Int) td0, .int (b1 : Nat) td1, .int (b2 : Nat) td2] nd), (Ln, W.listOf #[.ref x, .ref y1, .ref y2] 0)])
    (a : Acc w.params s.heap x dx ps) (hxn : h₀.get? x = none ∧ x ≠ L) (hdn : h₀.get? dx = none ∧ dx ≠ L) (hn : ps.length ≤ 1000)
    (hQ : ∀ h' tk, (∀ b o, b ≠ x → s.heap.get? b = some o → h'.get? b = some o) → Acc w.params h' x dx (ps ++ [(Str.ofString " ", Txt.mul (Str.ofString ")") (b : Nat))]) → Q .next { s with heap := h', toks := tk }) :
    wpAny (model prog w) A (exec (.Expr (.Call (.Attribute (.Subscript (.Name "lines" q1) (.Constant (.int 0) 0 q2) q3) "push" { line := a1, col := a2, endLine := 160, endCol := a3 }) [ (.Constant (.str " ") 0 q4), (.BinOp (.Constant (.str ")") 0 q5) .Mult (.BinOp (.Subscript (.Name "due" q6) (.Constant (.int 0) 0 q7) q8) .Sub (.Constant (.int 1) 0 q9) q10) q11)] [] { line := 160, col := a4, endLine := a5, endCol := a6 }) q12) (envOf nm lSc L fa cd)) Q E s := by
  obtain ⟨hd0, d0, fr0, g0, u0⟩ := A
  cases hA
  have X := C.X
  have T := C.T
  have hxK : (hd.heap_39 w.params).lookup x = none := lookup_none X hxn.1
  have a' := a
  obtain ⟨its, n, tk₀, k₀, hx, hdx, hps⟩ := a'
  have N₁ : News h₀ L s.heap [(D, W.listOf #[.int ((b + 1 : Nat) : Int) td0, .int (b1 : Nat) td1, .int (b2 : Nat) td2] nd), (Ln, W.listOf #[.ref x, .ref y1, .ref y2] 0), (x, accObj dx its n), (dx, accDict w.params tk₀ k₀)] := by
    intro q hq
    rcases List.mem_cons.mp hq with rfl | hq
    · exact N _ (.head _)
    rcases List.mem_cons.mp hq with rfl | hq
    · exact N _ (.tail _ (.head _))
    rcases List.mem_cons.mp hq with rfl | hq
    · exact ⟨hx, hxn.2, hxn.1⟩
    obtain rfl := List.mem_singleton.mp hq
    exact ⟨hdx, hdn.2, hdn.1⟩
  clear N
  k_steps
  rw [show ([((b + 1 : Nat) : Int), (b1 : Int), (b2 : Int)]).getD (Int.toNat 0) 0 - 1 = (b : Int) from by show ((b + 1 : Nat) : Int) - 1 = b; omega]
  k_steps
  refine accPush (C.keeps F.keep) a hxK rfl hroom hn fun h' tk k1 a2 => ?_
  exact hQ h' tk k1 a2

theorem checkR {hr h₀ : Heap} {L Ln x dx y1 y2 : Addr} {m₁ : Str → Option Value} {ps : List (Str × Str)} {p0 : Array Value} {nm : Str} {cd : Value} {Q : Flow → Shared → Prop} {e : Nat} {q1 q2 q3 q4 q5 q6 q7 q8 q9 : Pos}
    (hA : A.handled = none) (hroom : A.depth + 7 < recursionLimit) (hu : A.in1.in1.units < cLine) (C : Ctx w p loose mg mb bm ob h₀)
    (F : Fr h₀ L s.heap (fun y => if y = "lines" then some (.ref Ln) else m₁ y))
    (N : News h₀ L s.heap [(Ln, W.listOf #[.ref x, .ref y1, .ref y2] 0)]) (a : Acc w.params s.heap x dx ps) (ft : Fits ps) (h91 : h₀.get? 91 = none) (hL : L ≠ 91) (ht₀ : hr.TableAt 95 91 p0) (Rn : Run hr s.heap) (hb : AllBare s.gens)
    (he : e < 10000) (hx : (textOf ps).cps.toList = List.replicate (e + 1) 40 ++ 32 :: List.replicate e 41)
    (hQ : ∀ h' tk' g', Fr h₀ L h' (fun y => if y = "lines" then some (.ref Ln) else m₁ y) → (∀ b o, b ≠ 91 → s.heap.get? b = some o → h'.get? b = some o) → Run hr h' → AllBare g' → Q (.ret (.bool true)) { s with heap := h', toks := tk', gens := g' }) :
    wpAny (model prog w) A (exec (.Return (some (.UnaryOp .Not (.Call (.Name "_check_parenthesis" q1) [ (.Call (.Name "str" q2) [ (.Subscript (.Name "lines" q3) (.Constant (.int 0) 0 q4) q5)] [] q6)] [] q7) q8)) q9) (envOf nm lSc L fa cd)) Q E s := by
  obtain ⟨hd0, d0, fr0, g0, u0⟩ := A
  cases hA
  have X := C.X
  have T := C.T
  k_steps
  refine strL rfl hroom hu F C a ft h91 hL ht₀ Rn hb fun h₁ tk₁ g₁ t₁ F₁ k₁ R₁ b₁ => ?_
  clear N
  have N₁ : News h₀ L h₁ [] := News.nil
  k_steps
  refine textCheck (C.keeps F₁.keep) rfl (Nat.lt_of_le_of_lt (Nat.add_le_add_left (by decide : 1 ≤ 7) d0) hroom) hx (Nat.le_succ _) he fun h₂ tk₂ k₂ => ?_
  have F₂ : Fr h₀ L h₂ (fun y => if y = "lines" then some (.ref Ln) else m₁ y) := ⟨F₁.ns.keeps k₂, fun b o e => k₂ b o (F₁.keep b o e), F₁.above⟩
  rw [decide_eq_false (Nat.succ_ne_self e)]
  clear N₁ F₁
  have N₂ : News h₀ L h₂ [] := News.nil
  k_steps
  exact hQ _ _ _ F₂ (fun b o hb e => k₂ b o (k₁ b o hb e)) (R₁.keeps k₂) (bare_push b₁)
end

end
end Mine

/-! ## R20 -/
namespace Mine
open PySem PySem.W PyProof.Rows PySem.Calls
open Sem (wp)
open Builtin Builtin.Str Builtin.Int Builtin.ObjectAttr
set_option maxRecDepth 100000
set_option maxHeartbeats 8000000
section
variable {nd : Nat} {fa : Addr} {prog : Program} {w : World} {A : Around} {E : Value → Shared → Prop} {s : Shared} {p : Program} {loose : List Str} {mg mb : Str → Option Value} {bm : Addr} {ob : Obj}

/-- the closing brackets, if their turn has come -/
def ext (b : Bool) (ps : List (Str × Str)) (v : Nat) : List (Str × Str) := if b then ps ++ [(Str.ofString " ", Txt.mul (Str.ofString ")") (v : Nat))] else ps

theorem canonE {m : Str → Option Value} {v b c : Value} (h2 : m "due" = some b) (h3 : m "lines" = some c) :
    (fun (y : Str) => if y = "k" then some v else m y) = (fun (y : Str) => if y = "k" then some v else if y = "due" then some b else if y = "lines" then some c else m y) := by
  funext y
  by_cases e2 : y = "due"
  · subst e2; rw [h2]; simp
  · by_cases e3 : y = "lines"
    · subst e3; rw [h3]; simp [e2]
    · simp only [if_neg e2, if_neg e3]
theorem canonL {m : Str → Option Value} {v c : Value} (h3 : m "lines" = some c) :
    (fun (y : Str) => if y = "k" then some v else m y) = (fun (y : Str) => if y = "k" then some v else if y = "lines" then some c else m y) := by
  funext y
  by_cases e3 : y = "lines"
  · subst e3; rw [h3]; simp
  · simp only [if_neg e3]

theorem end_loop {R : Result → Shared → Prop} {hr h₀ : Heap} {L Ln D it x0 d0 x1 d1 x2 d2 : Addr} {m : Str → Option Value} {td0 td1 td2 : Tok} {b0 b1 b2 : Nat} {ps0 ps1 ps2 : List (Str × Str)} {p0 p1 : Array Value} {nm : Str} {cd : Value} {a1 a2 a3 a4 a5 a6 : Nat} {q1 q5 q6 q7 q8 q9 q10 q11 q12 q13 q14 q15 q16 q17 q18 q19 q20 q21 q22 q23 q24 q25 : Pos}
    (hA : A.handled = none) (hroom : A.depth + 7 < recursionLimit) (hu : A.in1.in1.units < cLine) (C : Ctx w p loose mg mb bm ob h₀) (B : Base hr h₀ L p0 p1) (hb0 : b0 ≤ 100) (hb1 : b1 ≤ 100) (hb2 : b2 ≤ 100)
    (F : Fr h₀ L s.heap m) (hm1 : m "due" = some (.ref D)) (hm3 : m "lines" = some (.ref Ln))
    (hD : s.heap.get? D = some (W.listOf #[.int (b0 : Nat) td0, .int (b1 : Nat) td1, .int (b2 : Nat) td2] nd)) (hD0 : h₀.get? D = none ∧ D ≠ L) (l : Lines w.params h₀ s.heap L Ln x0 d0 x1 d1 x2 d2 ps0 ps1 ps2)
    (hit : IsRangeIter s.heap it 0 3 1) (hi0 : h₀.get? it = none ∧ it ≠ L) (hn0 : ps0.length ≤ 1000) (hn1 : ps1.length ≤ 1000) (hn2 : ps2.length ≤ 1000)
    (f0 : Fits (ext true ps0 b0)) (f1 : Fits (ext true ps1 b1)) (f2 : Fits (ext true ps2 b2))
    (t0 : (textOf (ext true ps0 b0)).cps.toList = List.replicate b0 40 ++ 32 :: List.replicate b0 41) (t1 : (textOf (ext true ps1 b1)).cps.toList = List.replicate b1 40 ++ 32 :: List.replicate b1 41) (t2 : (textOf (ext true ps2 b2)).cps.toList = List.replicate b2 40 ++ 32 :: List.replicate b2 41)
    (Rn : Run hr s.heap) (hb : AllBare s.gens)
    (hR : ∀ h' tk g' m', Fr h₀ L h' m' → (∀ y, y ≠ Str.ofString "k" → m' y = m y) → Lines w.params h₀ h' L Ln x0 d0 x1 d1 x2 d2 (ext true ps0 b0) (ext true ps1 b1) (ext true ps2 b2) → h'.get? D = some (W.listOf #[.int (b0 : Nat) td0, .int (b1 : Nat) td1, .int (b2 : Nat) td2] nd) → Run hr h' → AllBare g' → R (.ok .next) { s with heap := h', toks := tk, gens := g' }) :
    codeAny (model prog w) A (.forLoop (.Name "k" q1) (.ref it) [ (.Expr (.Call (.Attribute (.Subscript (.Name "lines" q5) (.Name "k" q6) q7) "push" { line := a1, col := a2, endLine := 156, endCol := a3 }) [ (.Constant (.str " ") 0 q8), (.BinOp (.Constant (.str ")") 0 q9) .Mult (.Subscript (.Name "due" q10) (.Name "k" q11) q12) q13)] [] { line := 156, col := a4, endLine := a5, endCol := a6 }) q14), (.If (.UnaryOp .Not (.Call (.Name "_check_parenthesis" q15) [ (.Call (.Name "str" q16) [ (.Subscript (.Name "lines" q17) (.Name "k" q18) q19)] [] q20)] [] q21) q22) [ (.Return (some (.Constant (.bool false) 0 q23)) q24)] [] q25)] [] (envOf nm lSc L fa cd)) R s := by
  refine codeAny_forLoop_any (fun n s' => ∃ (j : Nat) (h' : Heap) (tk : Nat) (g' : Array GenState) (m' : Str → Option Value), j ≤ 3 ∧ n = 4 - j ∧ s' = { s with heap := h', toks := tk, gens := g' } ∧ Fr h₀ L h' m' ∧ (∀ y, y ≠ Str.ofString "k" → m' y = m y) ∧ IsRangeIter h' it (j : Nat) (3 - j : Int) 1 ∧
      h'.get? D = some (W.listOf #[.int (b0 : Nat) td0, .int (b1 : Nat) td1, .int (b2 : Nat) td2] nd) ∧ Run hr h' ∧ AllBare g' ∧ Lines w.params h₀ h' L Ln x0 d0 x1 d1 x2 d2 (ext (decide (0 < j)) ps0 b0) (ext (decide (1 < j)) ps1 b1) (ext (decide (2 < j)) ps2 b2)) ?_ 4
    ⟨0, s.heap, s.toks, s.gens, m, by omega, rfl, rfl, F, fun _ _ => rfl, (by simpa using hit), hD, Rn, hb, l⟩
  rintro n s' ⟨j, h', tk, g', m', hj, rfl, rfl, F', hm', hit', hD', R', b', l'⟩
  have ne1 : (Str.ofString "due") ≠ Str.ofString "k" := by decide +kernel
  have ne3 : (Str.ofString "lines") ≠ Str.ofString "k" := by decide +kernel
  have itT : ∀ {h : Heap} {i c : Int}, IsRangeIter h it i c 1 → Run hr h → it ≠ 84 ∧ it ≠ 91 := fun hi R => by
    obtain ⟨t1, c1, a1⟩ := R.t1
    obtain ⟨t2, c2, a2⟩ := R.t2
    unfold IsRangeIter at hi
    refine ⟨fun e => ?_, fun e => ?_⟩
    · rw [e, a1.2] at hi; cases hi
    · rw [e, a2.2] at hi; cases hi
  have itD : ∀ {h : Heap} {i c : Int}, IsRangeIter h it i c 1 → h.get? D = some (W.listOf #[.int (b0 : Nat) td0, .int (b1 : Nat) td1, .int (b2 : Nat) td2] nd) → D ≠ it := fun hi h e => by
    unfold IsRangeIter at hi
    rw [← e, h] at hi; exact absurd (congrArg Obj.cls (Option.some.inj hi)) (by simp [W.listOf])
  have DT : ∀ {h : Heap}, h.get? D = some (W.listOf #[.int (b0 : Nat) td0, .int (b1 : Nat) td1, .int (b2 : Nat) td2] nd) → Run hr h → D ≠ 91 := fun h R e => by
    obtain ⟨t2, c2, a2⟩ := R.t2
    rw [e, a2.2] at h; cases h
  have itA : ∀ {h : Heap} {i c : Int} {x dx : Addr} {qs}, IsRangeIter h it i c 1 → Acc w.params h x dx qs → it ≠ x := fun hi a e => by
    obtain ⟨its, n, tk, k₀, h1, -⟩ := a
    unfold IsRangeIter at hi
    rw [e, h1] at hi; cases hi
  have DA : ∀ {h : Heap} {x dx : Addr} {qs}, h.get? D = some (W.listOf #[.int (b0 : Nat) td0, .int (b1 : Nat) td1, .int (b2 : Nat) td2] nd) → Acc w.params h x dx qs → D ≠ x := fun h a e => by
    obtain ⟨its, n, tk, k₀, h1, -⟩ := a
    rw [e, h1] at h; cases h
  rcases Nat.lt_or_ge j 3 with hlt | hge
  · have itt := itT hit' R'
    refine wpAny_pyNext_range_item hit' (by omega) fun h₁ hit₁ hs₁ => ?_
    replace hs₁ : Heap.SameBut it h' h₁ := hs₁
    refine wpAny_pure (a := ()) ?_
    have F₁ : Fr h₀ L h₁ m' := F'.change hs₁ hi0.2 hi0.1
    refine wpAny_assign_Name (wpAny_storeName_local rfl F₁.ns (fun h₂ hn₂ hs₂ => ?_) rfl)
    replace hs₂ : Heap.SameBut L h₁ h₂ := hs₂
    have F₂ := F₁.set hn₂ hs₂
    have st₂ : Stays [L, it] h' h₂ := fun b o hb e => (hs₂.2 b fun h => hb (by simp [h])).trans ((hs₁.2 b fun h => hb (by simp [h])).trans e)
    have l₂ := l'.keep F'.ns st₂ fun c hc => by
      rcases List.mem_cons.mp hc with rfl | hc
      · exact .inl rfl
      · rw [List.mem_singleton.mp hc]; exact .inr ⟨_, _, _, hit'⟩
    have hit₂ : IsRangeIter h₂ it ((j : Int) + 1) (3 - j - 1) 1 := (hs₂.2 it hi0.2).trans hit₁
    have LA : h₀.get? L = none := by
      cases e : h₀.get? L with
      | none => rfl
      | some o => exact absurd (Heap.lt_size e) (Nat.not_lt.mpr F'.above)
    have R₂ : Run hr h₂ := R'.stays B (fun c hc => by
      rcases List.mem_cons.mp hc with rfl | hc
      · exact ⟨LA, B.L84, B.L91⟩
      · rw [List.mem_singleton.mp hc]; exact ⟨hi0.1, itt⟩) st₂
    have hD₂ := st₂ D _ (by simp [hD0.2, itD hit' hD']) hD'
    have hm₂1 := (hm' _ ne1).trans hm1
    have hm₂3 := (hm' _ ne3).trans hm3
    have F₃ : Fr h₀ L h₂ (fun (y : Str) => if y = "k" then some (.int (j : Int) tk) else if y = "due" then some (.ref D) else if y = "lines" then some (.ref Ln) else m' y) := canonE hm₂1 hm₂3 ▸ F₂
    have N₂ : News h₀ L h₂ [(D, W.listOf #[.int (b0 : Nat) td0, .int (b1 : Nat) td1, .int (b2 : Nat) td2] nd), (Ln, W.listOf #[.ref x0, .ref x1, .ref x2] 0)] := by
      intro q hq
      rcases List.mem_cons.mp hq with rfl | hq
      · exact ⟨hD₂, hD0.2, hD0.1⟩
      · obtain rfl := List.mem_singleton.mp hq
        exact ⟨l₂.ln, (l.new Ln (by simp)).2, (l.new Ln (by simp)).1⟩
    have off := l₂.off R₂
    have go : ∀ {x dx : Addr} {ps : List (Str × Str)} {h₄ : Heap}, x ∈ [Ln, x0, d0, x1, d1, x2, d2] → Acc w.params h₂ x dx ps → x ≠ 84 ∧ x ≠ 91 → (∀ b o, b ≠ x → h₂.get? b = some o → h₄.get? b = some o) →
        Fr h₀ L h₄ (fun (y : Str) => if y = "k" then some (.int (j : Int) tk) else if y = "lines" then some (.ref Ln) else m' y) ∧ Run hr h₄ ∧ IsRangeIter h₄ it ((j : Int) + 1) (3 - j - 1) 1 ∧ h₄.get? D = some (W.listOf #[.int (b0 : Nat) td0, .int (b1 : Nat) td1, .int (b2 : Nat) td2] nd) := fun {x dx ps h₄} hx a ho k₄ => by
      have nx := l.new x hx
      refine ⟨?_, R₂.stays B (S := [x]) (fun c hc => by rw [List.mem_singleton.mp hc]; exact ⟨nx.1, ho⟩) (Stays.one (.head _) k₄), k₄ _ _ (itA hit₂ a) hit₂, k₄ _ _ (DA hD₂ a) hD₂⟩
      rw [← canonL hm₂3]
      exact ⟨F₂.ns.at' fun o e => k₄ L o nx.2.symm e, fun b o e => k₄ b o (fun h => by rw [h, nx.1] at e; cases e) (F₂.keep b o e), F₂.above⟩
    have hj' : j = 0 ∨ j = 1 ∨ j = 2 := by omega
    rcases hj' with rfl | rfl | rfl
    · refine wpAny_execs_cons (pushE0 hA (Nat.lt_of_le_of_lt (Nat.le_add_right _ 7) hroom) C hb0 F₃ N₂ l₂.a0 (l.new x0 (by simp)) (l.new d0 (by simp)) hn0 fun h₄ tk₄ k₄ a₄ => ?_)
      dsimp only
      obtain ⟨F₄, R₄, hit₄, hD₄⟩ := go (by simp) l₂.a0 off.1 k₄
      have l₄ := l₂.set0 k₄ a₄
      have N₄ : News h₀ L h₄ [(Ln, W.listOf #[.ref x0, .ref x1, .ref x2] 0)] := fun q hq => by
        obtain rfl := List.mem_singleton.mp hq
        exact ⟨l₄.ln, (l.new Ln (by simp)).2, (l.new Ln (by simp)).1⟩
      refine wpAny_execs_cons (checkE0 hA hroom hu C F₄ N₄ a₄ f0 B.h91 B.L91 B.t91 R₄ b' (Nat.le_trans hb0 (by decide)) t0 fun h₅ tk₅ g₅ F₅ k₅ R₅ b₅ => ?_)
      dsimp only at k₅ ⊢
      refine wpAny_execs_nil ?_
      obtain ⟨o91, vs91, e91, hd91, -⟩ := R₄.field91
      refine ⟨4 - 1, by omega, 1, h₅, tk₅, g₅, _, by omega, rfl, rfl, F₅, fun y hy => ?_, k₅ _ _ (itT hit₄ R₄).2 hit₄, k₅ _ _ (DT hD₄ R₄) hD₄, R₅, b₅, l₄.keepF e91 hd91 k₅⟩
      rw [if_neg hy]
      by_cases hl : y = "lines"
      · subst hl; rw [if_pos rfl]; exact hm3.symm
      · rw [if_neg hl]; exact hm' y hy
    · refine wpAny_execs_cons (pushE1 hA (Nat.lt_of_le_of_lt (Nat.le_add_right _ 7) hroom) C hb1 F₃ N₂ l₂.a1 (l.new x1 (by simp)) (l.new d1 (by simp)) hn1 fun h₄ tk₄ k₄ a₄ => ?_)
      dsimp only
      obtain ⟨F₄, R₄, hit₄, hD₄⟩ := go (by simp) l₂.a1 off.2.1 k₄
      have l₄ := l₂.set1 k₄ a₄
      have N₄ : News h₀ L h₄ [(Ln, W.listOf #[.ref x0, .ref x1, .ref x2] 0)] := fun q hq => by
        obtain rfl := List.mem_singleton.mp hq
        exact ⟨l₄.ln, (l.new Ln (by simp)).2, (l.new Ln (by simp)).1⟩
      refine wpAny_execs_cons (checkE1 hA hroom hu C F₄ N₄ a₄ f1 B.h91 B.L91 B.t91 R₄ b' (Nat.le_trans hb1 (by decide)) t1 fun h₅ tk₅ g₅ F₅ k₅ R₅ b₅ => ?_)
      dsimp only at k₅ ⊢
      refine wpAny_execs_nil ?_
      obtain ⟨o91, vs91, e91, hd91, -⟩ := R₄.field91
      refine ⟨4 - 2, by omega, 2, h₅, tk₅, g₅, _, by omega, rfl, rfl, F₅, fun y hy => ?_, k₅ _ _ (itT hit₄ R₄).2 hit₄, k₅ _ _ (DT hD₄ R₄) hD₄, R₅, b₅, l₄.keepF e91 hd91 k₅⟩
      rw [if_neg hy]
      by_cases hl : y = "lines"
      · subst hl; rw [if_pos rfl]; exact hm3.symm
      · rw [if_neg hl]; exact hm' y hy
    · refine wpAny_execs_cons (pushE2 hA (Nat.lt_of_le_of_lt (Nat.le_add_right _ 7) hroom) C hb2 F₃ N₂ l₂.a2 (l.new x2 (by simp)) (l.new d2 (by simp)) hn2 fun h₄ tk₄ k₄ a₄ => ?_)
      dsimp only
      obtain ⟨F₄, R₄, hit₄, hD₄⟩ := go (by simp) l₂.a2 off.2.2 k₄
      have l₄ := l₂.set2 k₄ a₄
      have N₄ : News h₀ L h₄ [(Ln, W.listOf #[.ref x0, .ref x1, .ref x2] 0)] := fun q hq => by
        obtain rfl := List.mem_singleton.mp hq
        exact ⟨l₄.ln, (l.new Ln (by simp)).2, (l.new Ln (by simp)).1⟩
      refine wpAny_execs_cons (checkE2 hA hroom hu C F₄ N₄ a₄ f2 B.h91 B.L91 B.t91 R₄ b' (Nat.le_trans hb2 (by decide)) t2 fun h₅ tk₅ g₅ F₅ k₅ R₅ b₅ => ?_)
      dsimp only at k₅ ⊢
      refine wpAny_execs_nil ?_
      obtain ⟨o91, vs91, e91, hd91, -⟩ := R₄.field91
      refine ⟨4 - 3, by omega, 3, h₅, tk₅, g₅, _, by omega, rfl, rfl, F₅, fun y hy => ?_, k₅ _ _ (itT hit₄ R₄).2 hit₄, k₅ _ _ (DT hD₄ R₄) hD₄, R₅, b₅, l₄.keepF e91 hd91 k₅⟩
      rw [if_neg hy]
      by_cases hl : y = "lines"
      · subst hl; rw [if_pos rfl]; exact hm3.symm
      · rw [if_neg hl]; exact hm' y hy
  · have : j = 3 := by omega
    subst this
    refine wpAny_pyNext_range_end hA hit' (by omega) fun h₁ he₁ => ?_
    replace he₁ : Heap.ExtBut it h' h₁ := he₁
    refine wpAny_execs_nil ?_
    have itt := itT hit' R'
    have st₁ : Stays [it] h' h₁ := fun b o hb e => he₁ b o (fun h => hb (by simp [h])) e
    have F₁ : Fr h₀ L h₁ m' := ⟨F'.ns.at' fun o e => he₁ L o hi0.2.symm e, fun b o e => he₁ b o (fun h => by rw [h, hi0.1] at e; cases e) (F'.keep b o e), F'.above⟩
    exact hR h₁ _ _ m' F₁ hm' (l'.keep F'.ns st₁ fun c hc => by rw [List.mem_singleton.mp hc]; exact .inr ⟨_, _, _, hit'⟩) (st₁ D _ (by simp [itD hit' hD']) hD') (R'.stays B (fun c hc => by rw [List.mem_singleton.mp hc]; exact ⟨hi0.1, itt⟩) st₁) b'
end

end Mine

/-! ## R21 -/
namespace Mine
open PySem PySem.W PyProof.Rows PySem.Calls
open Sem (wp)
open Builtin Builtin.Str Builtin.Int Builtin.ObjectAttr
set_option maxRecDepth 100000
set_option maxHeartbeats 8000000
section
variable {fa : Addr} {prog : Program} {w : World} {A : Around} {E : Value → Shared → Prop} {s : Shared} {p : Program} {loose : List Str} {mg mb : Str → Option Value} {bm : Addr} {ob : Obj}

/-- how `lines = ..` ends -/
def LinesOut (P : Params) (h₀ : Heap) (L : Addr) (m : Str → Option Value) (s : Shared) (f : Flow) (s' : Shared) : Prop :=
  f = .next ∧ ∃ h' tk Ln x0 d0 x1 d1 x2 d2, s' = { s with heap := h', toks := tk } ∧ Fr h₀ L h' (fun y => if y = "lines" then some (.ref Ln) else m y) ∧ Lines P h₀ h' L Ln x0 d0 x1 d1 x2 d2 [] [] [] ∧ (∀ b o, b ≠ L → s.heap.get? b = some o → h'.get? b = some o)

theorem LinesOut.go {M₀ : Model} {t₀ : Sem Flow} {P : Params} {h₀ : Heap} {L : Addr} {m : Str → Option Value} {G : Flow → Shared → Prop} (o : wpAny M₀ A t₀ (LinesOut P h₀ L m s) (fun _ _ => False) s)
    (k : ∀ h' tk Ln x0 d0 x1 d1 x2 d2, Fr h₀ L h' (fun y => if y = "lines" then some (.ref Ln) else m y) → Lines P h₀ h' L Ln x0 d0 x1 d1 x2 d2 [] [] [] → (∀ b o, b ≠ L → s.heap.get? b = some o → h'.get? b = some o) → G .next { s with heap := h', toks := tk }) : wpAny M₀ A t₀ G E s :=
  wpAny_mono o (fun f s' ho => by
    obtain ⟨rfl, h', tk, Ln, x0, d0, x1, d1, x2, d2, rfl, F, l, K⟩ := ho
    exact k _ _ _ _ _ _ _ _ _ F l K) fun _ _ z => z.elim

theorem lines_stmt {h₀ : Heap} {L : Addr} {m : Str → Option Value} {nm : Str} {cd : Value} {q1 q2 q3 q4 q5 q6 q7 q8 q9 : Pos}
    (hA : A.handled = none) (hroom : A.depth + 2 < recursionLimit) (C : Ctx w p loose mg mb bm ob h₀) (hfile : ((prog.main.file : Str) == Str.ofString "/claim/cut.py") = true) (htop : (prog.main.scope.names.lookup ("super" : Str)).isSome = false)
    (F : Fr h₀ L s.heap m) :
    wpAny (model prog w) A (exec (.Assign [(.Name "lines" q1)] (.List [ (.Call (.Name "_Accumulator" q2) [] [] q3), (.Call (.Name "_Accumulator" q4) [] [] q5), (.Call (.Name "_Accumulator" q6) [] [] q7)] q8) q9) (envOf nm lSc L fa cd)) (LinesOut w.params h₀ L m s) E s := by
  obtain ⟨hd0, d0, fr0, g0, u0⟩ := A
  cases hA
  have X := C.X
  have T := C.T
  have N : News h₀ L s.heap [] := News.nil
  have fresh : ∀ {h h' : Heap} {x : Addr} {m'}, Fr h₀ L h m' → h.get? x = none → h₀.get? x = none ∧ x ≠ L := fun {h h' x m'} F hx => by
    refine ⟨?_, fun e => ?_⟩
    · cases e : h₀.get? x with
      | none => rfl
      | some o => have := F.keep x o e; rw [hx] at this; cases this
    · obtain ⟨oL, _, _, hLL, -⟩ := F.ns
      rw [e, hLL] at hx; cases hx
  k_steps
  refine acc_new (C.keeps F.keep).X (C.keeps F.keep).T rfl hroom hfile htop fun h1 tk1 x0 d0 k1 hx0 hd0 _ _ a0 => ?_
  have F1 : Fr h₀ L h1 m := ⟨F.ns.keeps k1, fun b o e => k1 b o (F.keep b o e), F.above⟩
  have fx0 := fresh (h' := h1) F hx0
  have fd0 := fresh (h' := h1) F hd0
  clear N
  have N1 : News h₀ L h1 [] := News.nil
  k_steps
  refine acc_new (C.keeps F1.keep).X (C.keeps F1.keep).T rfl hroom hfile htop fun h2 tk2 x1 d1 k2 hx1 hd1 _ _ a1 => ?_
  have F2 : Fr h₀ L h2 m := ⟨F1.ns.keeps k2, fun b o e => k2 b o (F1.keep b o e), F1.above⟩
  have fx1 := fresh (h' := h2) F1 hx1
  have fd1 := fresh (h' := h2) F1 hd1
  clear N1
  have N2 : News h₀ L h2 [] := News.nil
  k_steps
  refine acc_new (C.keeps F2.keep).X (C.keeps F2.keep).T rfl hroom hfile htop fun h3 tk3 x2 d2 k3 hx2 hd2 _ _ a2 => ?_
  have F3 : Fr h₀ L h3 m := ⟨F2.ns.keeps k3, fun b o e => k3 b o (F2.keep b o e), F2.above⟩
  have fx2 := fresh (h' := h3) F2 hx2
  have fd2 := fresh (h' := h3) F2 hd2
  clear N2
  obtain ⟨nw, NW, stay⟩ := whole F3
  have nsL := F3.ns
  clear F F1 F2
  k_steps
  rename Fr h₀ L _ _ => FF
  rename News _ _ _ _ => NN
  have keep3 := stay _ FF.keep (fun q hq => (NN q (.tail _ hq)).1)
  have got : ∀ {h : Heap} {x dx : Addr} {ps}, Acc w.params h x dx ps → ∃ o, h.get? x = some o := fun a => let ⟨_, _, _, _, e, _⟩ := a; ⟨_, e⟩
  have n01 : x0 ≠ x1 := fun e => by obtain ⟨o, ho⟩ := got a0; rw [e] at ho; exact absurd (hx1.symm.trans ho) (by simp)
  have a0₂ := a0.stays (S := []) (Stays.all k2) (by simp) (by simp) (fun _ h => nomatch h)
  have n02 : x0 ≠ x2 := fun e => by obtain ⟨o, ho⟩ := got a0₂; rw [e] at ho; exact absurd (hx2.symm.trans ho) (by simp)
  have n12 : x1 ≠ x2 := fun e => by obtain ⟨o, ho⟩ := got a1; rw [e] at ho; exact absurd (hx2.symm.trans ho) (by simp)
  have a0₃ := a0₂.stays (S := []) (Stays.all k3) (by simp) (by simp) (fun _ h => nomatch h)
  have a1₃ := a1.stays (S := []) (Stays.all k3) (by simp) (by simp) (fun _ h => nomatch h)
  have st : Stays [L] h3 _ := fun b o hb e => keep3 b o (fun h => hb (by simp [h])) e
  have tup : ∀ c ∈ [L], ∀ o its n, h3.get? c = some o → o.cls = .type "tuple" → o.data = .seq its n → False := fun c hc o its n e h1 h2 => by
    rw [List.mem_singleton.mp hc] at e
    obtain ⟨o', es, ep, e', hd, -⟩ := nsL
    rw [e] at e'; cases e'; rw [h2] at hd; cases hd
  have NL := NN _ (.head _)
  refine ⟨rfl, _, _, _, _, _, _, _, _, _, rfl, FF, ⟨NL.1, a0₃.stays st (by simp [fx0.2]) (by simp [fd0.2]) tup, a1₃.stays st (by simp [fx1.2]) (by simp [fd1.2]) tup, a2.stays st (by simp [fx2.2]) (by simp [fd2.2]) tup, fun c hc => ?_, n01, n02, n12⟩, fun b o hb e => keep3 b o hb (k3 b o (k2 b o (k1 b o e)))⟩
  simp only [List.mem_cons, List.not_mem_nil, or_false] at hc
  rcases hc with rfl | rfl | rfl | rfl | rfl | rfl | rfl
  · exact ⟨NL.2.2, NL.2.1⟩
  · exact fx0
  · exact fd0
  · exact fx1
  · exact fd1
  · exact fx2
  · exact fd2
end

end Mine

/-! ## R22 -/
namespace Mine
open PySem PySem.W PyProof.Rows PySem.Calls
open Sem (wp)
open Builtin Builtin.Str Builtin.Int Builtin.ObjectAttr
set_option maxRecDepth 100000
theorem fold_le {c : Nat} : ∀ (ts : List Str) (a : Nat), (∀ t ∈ ts, t.length ≤ c) → ts.foldl (fun a (t : Str) => a + t.length + (Str.ofString "").length) a ≤ a + ts.length * c
  | [], a, _ => by simp
  | t :: ts, a, h => by
    have e0 : (Str.ofString "").length = 0 := by decide +kernel
    have ih := fold_le ts (a + t.length + (Str.ofString "").length) fun x hx => h x (.tail _ hx)
    have := h t (.head _)
    rw [List.foldl_cons, List.length_cons, Nat.add_mul, Nat.one_mul]
    omega
theorem join_ok {c : Nat} {ts : List Str} (h : ∀ t ∈ ts, t.length ≤ c) (hn : ts.length * c ≤ 2 ^ 24) : JoinOk (Str.ofString "") ts = true := by
  unfold JoinOk tooLong
  have := fold_le ts 0 h
  have e : (ts.toArray.foldl (fun a (t : Str) => a + t.length + (Str.ofString "").length) 0) = ts.foldl (fun a (t : Str) => a + t.length + (Str.ofString "").length) 0 := by simp
  rw [e]
  have : ts.foldl (fun a (t : Str) => a + t.length + (Str.ofString "").length) 0 ≤ 2 ^ 24 := by omega
  have e2 : sizeLine = 2 ^ 24 := rfl
  rw [e2]
  simp
  exact this
theorem pair_len (a b : Str) : (Txt.join (Str.ofString "") [a, b]).length = a.length + b.length := by
  have g : ∀ ts, Txt.join (Str.ofString "") ts = Str.join (Str.ofString "") ts := fun ts => by show glued _ _ = _; rw [StrLaws.glued_eq_join]
  have := congrArg List.length (join_signs [a, b])
  rw [← g] at this
  simp only [List.flatMap_cons, List.flatMap_nil, List.append_nil, List.length_append, Array.length_toList] at this
  exact this
theorem len_close (n : Nat) : (Txt.mul (Str.ofString ")") (n : Nat)).length = n := by
  have h1 : (Str.ofString ")") = ⟨#[41]⟩ := by decide +kernel
  have := congrArg List.length (mul_signs h1 n)
  rw [List.length_replicate, Array.length_toList] at this
  exact this
theorem fits_pts {M : Nat} {start : Int} {k b : Nat} (h8 : M ≤ 8) (hb : b ≤ 100) : Fits (ext true (pts M start k M) b) := by
  have small : ∀ q ∈ ext true (pts M start k M) b, q.1.length ≤ 100 ∧ q.2.length ≤ 100 := by
    intro q hq
    unfold ext at hq
    rw [if_pos rfl] at hq
    rcases List.mem_append.mp hq with hq | hq
    · unfold pts at hq
      obtain ⟨i, -, rfl⟩ := List.mem_map.mp hq
      have e0 : (Str.ofString "").length = 0 := by decide +kernel
      have r := want_range (m := M) (n := start + 12 * i) (k := k) h8
      refine ⟨by rw [e0]; omega, ?_⟩
      dsimp only
      rw [len_mul]
      omega
    · rw [List.mem_singleton.mp hq]
      have e1 : (Str.ofString " ").length = 1 := by decide +kernel
      refine ⟨by rw [e1]; omega, ?_⟩
      dsimp only
      rw [len_close]
      exact hb
  have len : (ext true (pts M start k M) b).length = M + 1 := by
    unfold ext
    rw [if_pos rfl, List.length_append, pts_length]
    rfl
  refine ⟨fun q hq => ⟨Nat.le_trans (small q hq).1 (by decide), Nat.le_trans (small q hq).2 (by decide)⟩, by rw [len]; omega, ?_⟩
  refine join_ok (c := 200) (fun t ht => ?_) (by rw [List.length_map, len]; omega)
  obtain ⟨q, hq, rfl⟩ := List.mem_map.mp ht
  rw [pair_len]
  have := small q hq
  omega
theorem red_range (x : Int) : 0 ≤ redOf x ∧ redOf x ≤ 2 := by unfold redOf; omega
theorem due_range {M : Nat} {pl : Int} {k : Nat} (h2 : 2 ≤ M) (h8 : M ≤ 8) (h0 : 0 ≤ pl) (h12 : pl < 12) : 1 ≤ dueOf M pl k ∧ dueOf M pl k ≤ 70 := by
  have r := red_range (pl - 4 * k)
  unfold dueOf
  have hM : M = 2 ∨ M = 3 ∨ M = 4 ∨ M = 5 ∨ M = 6 ∨ M = 7 ∨ M = 8 := by omega
  rcases hM with rfl | rfl | rfl | rfl | rfl | rfl | rfl
  · rw [if_pos (by decide)]; decide
  · rw [if_neg (by decide), if_pos (by decide)]; omega
  · rw [if_pos (by decide)]; decide
  · rw [if_neg (by decide), if_neg (by decide)]; omega
  · rw [if_pos (by decide)]; decide
  · rw [if_neg (by decide), if_neg (by decide)]; omega
  · rw [if_pos (by decide)]; decide
theorem text_pts {M : Nat} {start : Int} {k a b : Nat} (h8 : M ≤ 8) (ha : heap3 M start k M = (a : Int)) : (textOf (ext true (pts M start k M) b)).cps.toList = List.replicate a 40 ++ 32 :: List.replicate b 41 := by
  have := shape_pts (start := start) (k := k) (b := b) h8 M
  rw [ha, Int.toNat_natCast] at this
  exact this

end Mine

/-! ## R23 -/
namespace Mine
open PySem PySem.W PyProof.Rows PySem.Calls
open Sem (wp)
open Builtin Builtin.Str Builtin.Int Builtin.ObjectAttr
set_option maxRecDepth 100000
set_option maxHeartbeats 8000000
section
variable {nd : Nat} {fa : Addr} {prog : Program} {w : World} {A : Around} {E : Value → Shared → Prop} {s : Shared} {p : Program} {loose : List Str} {mg mb : Str → Option Value} {bm : Addr} {ob : Obj}

theorem canon1 {m : Str → Option Value} {x : Str} {v : Value} (h : m x = some v) : m = fun y => if y = x then some v else m y := by
  funext y
  by_cases e : y = x
  · subst e; rw [if_pos rfl, h]
  · rw [if_neg e]
theorem canon2 {m : Str → Option Value} {x z : Str} {v u : Value} (h : m x = some v) (h' : m z = some u) : m = fun y => if y = x then some v else if y = z then some u else m y := by
  funext y
  by_cases e : y = x
  · subst e; rw [if_pos rfl, h]
  · rw [if_neg e]
    by_cases e' : y = z
    · subst e'; rw [if_pos rfl, h']
    · rw [if_neg e']

theorem rest_law {hr h₀ : Heap} {L D : Addr} {m : Str → Option Value} {M : Nat} {start : Int} {ts tz tp td0 td1 td2 : Tok} {p0 p1 : Array Value} {nm : Str} {cd : Value} {Q : Flow → Shared → Prop} {qa1 qa2 qa3 qa4 qa5 qa6 qa7 qa8 qa9 qb1 qb2 qb3 qb4 qb5 qb6 qb7 qb8 qb9 qb10 qb11 qb12 qb13 qb14 qb15 qb16 qb17 qb18 qb19 qb20 qb21 qb22 qb23 qb24 qb25 qb26 qb27 qb28 qb29 qb30 qb31 qb32 qb33 qb34 qb35 qb36 qb37 qb38 qb39 qb40 qb41 qb42 qb43 qc1 qc2 qc3 qc4 qc5 qc6 qc7 qc8 qc9 qc10 qc11 qc12 qc13 qc14 qc15 qc16 qc17 qc18 qc19 qc20 qc21 qc22 qd1 qd2 qd3 qd4 qd5 qd6 qd7 qd8 qd9 qd10 qd11 qd12 qd13 qd14 qd15 qd16 qd17 qd18 qd19 qd20 qd21 qd22 qd23 qd24 qd25 qd26 qd27 qd28 qd29 qd30 qd31 qd32 qd33 qd34 qd35 qd36 qd37 qd38 qd39 qd40 qd41 qd42 qd43 qd44 qd45 qd46 qd47 qd48 qd49 qd50 qd51 qd52 qd53 qd54 qd55 qd56 qd57 qd58 qd59 qd60 qe1 qe2 qe3 qe4 qe5 qe6 qe7 qe8 qe9 qe10 qe11 qe12 qe13 qe14 qe15 qe16 qe17 qe18 qe19 qe20 qe21 qe22 qe23 qe24 qe25 qe26 qf1 qf2 qf3 qf4 qg1 qg2 qg3 qg4 qg5 qg6 qg7 qg8 qg9 qg10 qg11 qg12 qh1 qh2 qh3 qh4 qh5 qh6 qh7 qh8 qh9 : Pos} {qba1 qba2 qba3 qba4 qba5 qba6 qea1 qea2 qea3 qea4 qea5 qea6 qfa1 qfa2 qfa3 qfa4 qfa5 qfa6 qga1 qga2 qga3 qga4 qga5 qga6 : Nat}
    (h2 : 2 ≤ M) (h8 : M ≤ 8) (hlo : -(12 * M : Int) ≤ start) (hhi : start < 24 * M) (hA : A.handled = none) (hroom : A.depth + 7 < recursionLimit) (hu : A.in1.in1.units < cLine) (hu' : A.units < cLine)
    (hfile : ((prog.main.file : Str) == Str.ofString "/claim/cut.py") = true) (htop : (prog.main.scope.names.lookup ("super" : Str)).isSome = false)
    (C : Ctx w p loose mg mb bm ob h₀) (B : Base hr h₀ L p0 p1) (F : Fr h₀ L s.heap m)
    (hms : m "start" = some (.int start ts)) (hmz : m "size" = some (.int (M : Int) tz)) (hmp : m "place" = some (.int (placeOf M start) tp)) (hmd : m "due" = some (.ref D))
    (hD : s.heap.get? D = some (W.listOf #[.int (dueOf M (placeOf M start) 0) td0, .int (dueOf M (placeOf M start) 1) td1, .int (dueOf M (placeOf M start) 2) td2] nd)) (hD0 : h₀.get? D = none ∧ D ≠ L)
    (Rn : Run hr s.heap) (hb : AllBare s.gens)
    (hQ : ∀ h' tk g', OldK hr h' → AllBare g' → Q (.ret (.bool true)) { s with heap := h', toks := tk, gens := g' }) :
    wpAny (model prog w) A (execs [(.Assign [(.Name "lines" qa1)] (.List [ (.Call (.Name "_Accumulator" qa2) [] [] qa3), (.Call (.Name "_Accumulator" qa4) [] [] qa5), (.Call (.Name "_Accumulator" qa6) [] [] qa7)] qa8) qa9),
      (.For (.Name "i" qb1) (.Call (.Name "range" qb2) [(.Name "size" qb3)] [] qb4) [ (.Assign [(.Name "light" qb5)] (.Call (.Name "hls_to_rgb" qb6) [ (.BinOp (.BinOp (.Name "start" qb7) .Add (.BinOp (.Constant (.int 12) 0 qb8) .Mult (.Name "i" qb9) qb10) qb11) .Div (.BinOp (.Constant (.int 12) 0 qb12) .Mult (.Name "size" qb13) qb14) qb15), (.Constant (.float 0x3fe0000000000000) 0 qb16), (.Constant (.float 0x3ff0000000000000) 0 qb17)] [] qb18) qb19), (.For (.Name "k" qb20) (.Call (.Name "range" qb21) [(.Constant (.int 3) 0 qb22)] [] qb23) [ (.Expr (.Call (.Attribute (.Subscript (.Name "lines" qb24) (.Name "k" qb25) qb26) "push" { line := qba1, col := qba2, endLine := 146, endCol := qba3 }) [ (.Constant (.str "") 0 qb27), (.BinOp (.Constant (.str "(") 0 qb28) .Mult (.Call (.Name "int" qb29) [ (.BinOp (.BinOp (.BinOp (.Constant (.int 2) 0 qb30) .Mult (.Name "size" qb31) qb32) .Mult (.Subscript (.Name "light" qb33) (.Name "k" qb34) qb35) qb36) .Add (.Constant (.float 0x3fe0000000000000) 0 qb37) qb38)] [] qb39) qb40)] [] { line := 146, col := qba4, endLine := qba5, endCol := qba6 }) qb41)] [] qb42)] [] qb43),
      (.Assign [ (.Tuple [ (.Name "hue" qc1), (.Name "share" qc2), (.Name "value" qc3)] 0 qc4)] (.Call (.Name "rgb_to_hsv" qc5) [ (.Call (.Name "len" qc6) [ (.Subscript (.Name "lines" qc7) (.Constant (.int 0) 0 qc8) qc9)] [] qc10), (.Call (.Name "len" qc11) [ (.Subscript (.Name "lines" qc12) (.Constant (.int 1) 0 qc13) qc14)] [] qc15), (.Call (.Name "len" qc16) [ (.Subscript (.Name "lines" qc17) (.Constant (.int 2) 0 qc18) qc19)] [] qc20)] [] qc21) qc22),
      (.If (.BoolOp .Or [ (.Compare (.BinOp (.Name "size" qd1) .Mod (.Constant (.int 2) 0 qd2) qd3) [.Eq] [(.Constant (.int 0) 0 qd4)] qd5), (.Compare (.BinOp (.Name "size" qd6) .Mod (.Constant (.int 3) 0 qd7) qd8) [.Eq] [(.Constant (.int 0) 0 qd9)] qd10)] qd11) [ (.If (.Compare (.Tuple [ (.Name "hue" qd12), (.Name "share" qd13), (.Name "value" qd14)] 0 qd15) [.NotEq] [ (.Tuple [ (.Constant (.float 0x0000000000000000) 0 qd16), (.Constant (.float 0x0000000000000000) 0 qd17), (.Subscript (.Name "due" qd18) (.Constant (.int 0) 0 qd19) qd20)] 0 qd21)] qd22) [ (.Return (some (.Constant (.bool false) 0 qd23)) qd24)] [] qd25)] [ (.If (.Compare (.Tuple [(.Name "share" qd26), (.Name "value" qd27)] 0 qd28) [.NotEq] [ (.Tuple [ (.BinOp (.Constant (.int 2) 0 qd29) .Div (.BinOp (.BinOp (.Name "size" qd30) .Mult (.Name "size" qd31) qd32) .Add (.Constant (.int 1) 0 qd33) qd34) qd35), (.BinOp (.BinOp (.Name "size" qd36) .Mult (.Name "size" qd37) qd38) .Add (.Constant (.int 1) 0 qd39) qd40)] 0 qd41)] qd42) [ (.Return (some (.Constant (.bool false) 0 qd43)) qd44)] [ (.If (.Compare (.Call (.Name "int" qd45) [ (.BinOp (.BinOp (.Name "hue" qd46) .Mult (.Constant (.int 12582912) 0 qd47) qd48) .Add (.Constant (.float 0x3fe0000000000000) 0 qd49) qd50)] [] qd51) [.NotEq] [ (.BinOp (.Name "place" qd52) .Mult (.Constant (.int 1048576) 0 qd53) qd54)] qd55) [ (.Return (some (.Constant (.bool false) 0 qd56)) qd57)] [] qd58)] qd59)] qd60),
      (.For (.Name "k" qe1) (.Call (.Name "range" qe2) [(.Constant (.int 3) 0 qe3)] [] qe4) [ (.Expr (.Call (.Attribute (.Subscript (.Name "lines" qe5) (.Name "k" qe6) qe7) "push" { line := qea1, col := qea2, endLine := 156, endCol := qea3 }) [ (.Constant (.str " ") 0 qe8), (.BinOp (.Constant (.str ")") 0 qe9) .Mult (.Subscript (.Name "due" qe10) (.Name "k" qe11) qe12) qe13)] [] { line := 156, col := qea4, endLine := qea5, endCol := qea6 }) qe14), (.If (.UnaryOp .Not (.Call (.Name "_check_parenthesis" qe15) [ (.Call (.Name "str" qe16) [ (.Subscript (.Name "lines" qe17) (.Name "k" qe18) qe19)] [] qe20)] [] qe21) qe22) [ (.Return (some (.Constant (.bool false) 0 qe23)) qe24)] [] qe25)] [] qe26),
      (.Expr (.Call (.Attribute (.Subscript (.Name "lines" qf1) (.Constant (.int 0) 0 qf2) qf3) "pop" { line := qfa1, col := qfa2, endLine := 159, endCol := qfa3 }) [] [] { line := 159, col := qfa4, endLine := qfa5, endCol := qfa6 }) qf4),
      (.Expr (.Call (.Attribute (.Subscript (.Name "lines" qg1) (.Constant (.int 0) 0 qg2) qg3) "push" { line := qga1, col := qga2, endLine := 160, endCol := qga3 }) [ (.Constant (.str " ") 0 qg4), (.BinOp (.Constant (.str ")") 0 qg5) .Mult (.BinOp (.Subscript (.Name "due" qg6) (.Constant (.int 0) 0 qg7) qg8) .Sub (.Constant (.int 1) 0 qg9) qg10) qg11)] [] { line := 160, col := qga4, endLine := qga5, endCol := qga6 }) qg12),
      (.Return (some (.UnaryOp .Not (.Call (.Name "_check_parenthesis" qh1) [ (.Call (.Name "str" qh2) [ (.Subscript (.Name "lines" qh3) (.Constant (.int 0) 0 qh4) qh5)] [] qh6)] [] qh7) qh8)) qh9)] (envOf nm lSc L fa cd)) Q E s := by
  have LA : h₀.get? L = none := by
    cases e : h₀.get? L with
    | none => rfl
    | some o => exact absurd (Heap.lt_size e) (Nat.not_lt.mpr F.above)
  have pr := @place_range M start
  have due : ∀ k, ∃ b : Nat, (b : Int) = dueOf M (placeOf M start) k ∧ 1 ≤ b ∧ b ≤ 70 := fun k => by
    have := due_range (M := M) (pl := placeOf M start) (k := k) h2 h8 pr.1 pr.2
    exact ⟨(dueOf M (placeOf M start) k).toNat, by omega, by omega, by omega⟩
  obtain ⟨b0, e0, b0lo, b0hi⟩ := due 0
  obtain ⟨b1, e1, b1lo, b1hi⟩ := due 1
  obtain ⟨b2, e2, b2lo, b2hi⟩ := due 2
  have s0 : heap3 M start 0 M = (b0 : Int) := by rw [e0]; exact sums h2 h8 hlo hhi (by decide)
  have s1 : heap3 M start 1 M = (b1 : Int) := by rw [e1]; exact sums h2 h8 hlo hhi (by decide)
  have s2 : heap3 M start 2 M = (b2 : Int) := by rw [e2]; exact sums h2 h8 hlo hhi (by decide)
  have DT : ∀ {h : Heap} {vs}, h.get? D = some (W.listOf vs nd) → Run hr h → D ≠ 84 ∧ D ≠ 91 := fun h R => by
    obtain ⟨t1, c1, a1⟩ := R.t1
    obtain ⟨t2, c2, a2⟩ := R.t2
    exact ⟨fun e => (by rw [e, a1.2] at h; cases h), fun e => (by rw [e, a2.2] at h; cases h)⟩
  -- lines = [..]
  refine wpAny_execs_cons (LinesOut.go (lines_stmt hA (Nat.lt_of_le_of_lt (Nat.add_le_add_left (by decide : 2 ≤ 7) _) hroom) C hfile htop F) fun h₁ tk₁ Ln x0 d0 x1 d1 x2 d2 F₁ l₁ k₁ => ?_)
  dsimp only
  have R₁ : Run hr h₁ := Rn.stays B (S := [L]) (fun c hc => by rw [List.mem_singleton.mp hc]; exact ⟨LA, B.L84, B.L91⟩) fun b o hb e => k₁ b o (fun h => hb (by simp [h])) e
  have hD₁ := k₁ D _ hD0.2 hD
  clear k₁ Rn hD
  obtain ⟨m₁, hm₁, m1z, m1s, m1d, m1p, m1l⟩ : ∃ m₁, m₁ = (fun (y : Str) => if y = "lines" then some (Value.ref Ln) else m y) ∧ m₁ "size" = some (.int (M : Int) tz) ∧ m₁ "start" = some (.int start ts) ∧ m₁ "due" = some (.ref D) ∧ m₁ "place" = some (.int (placeOf M start) tp) ∧ m₁ "lines" = some (.ref Ln) :=
    ⟨_, rfl, (if_neg (by decide +kernel)).trans hmz, (if_neg (by decide +kernel)).trans hms, (if_neg (by decide +kernel)).trans hmd, (if_neg (by decide +kernel)).trans hmp, if_pos rfl⟩
  rw [← hm₁] at F₁
  clear hm₁
  -- the lights
  have c1 := canon1 m1z
  refine wpAny_execs_cons (wpAny_For (RangeOut.go (rangeN (m₁ := m₁) (ts := tz) hA C (size := (M : Int)) (by omega) (by omega) (c1 ▸ F₁)) fun h₂ tk₂ r t u v' F₂ hr₂ k₂ => ?_))
  replace F₂ : Fr h₀ L h₂ m₁ := c1.symm ▸ F₂
  dsimp only at k₂
  refine range_iter (by omega) (by omega) hr₂ fun h₃ hit k₃ => ?_
  dsimp only at hit k₃ ⊢
  have F₃ : Fr h₀ L h₃ m₁ := ⟨F₂.ns.keeps k₃, fun b o e => k₃ b o (F₂.keep b o e), F₂.above⟩
  have k13 : ∀ b o, h₁.get? b = some o → h₃.get? b = some o := fun b o e => k₃ b o (k₂ b o e)
  have l₃ := l₁.keep (S := []) F₁.ns (Stays.all k13) fun c hc => nomatch hc
  have hI : ∀ b o, h₂.get? b = some o → b ≠ h₂.objs.size := fun b o e => Nat.ne_of_lt (Heap.lt_size e)
  have hi0 : h₀.get? h₂.objs.size = none ∧ h₂.objs.size ≠ L := by
    refine ⟨?_, fun e => ?_⟩
    · cases e : h₀.get? h₂.objs.size with
      | none => rfl
      | some o => exact absurd rfl (hI _ _ (F₂.keep _ _ e))
    · exact absurd e (Nat.ne_of_gt F₂.ns.lt)
  have R₃ : Run hr h₃ := R₁.keeps k13
  have hD₃ := k13 _ _ hD₁
  have offI : h₂.objs.size ≠ 84 ∧ h₂.objs.size ≠ 91 := by
    obtain ⟨t1, c1, a1⟩ := R₃.t1
    obtain ⟨t2, c2, a2⟩ := R₃.t2
    have hi := hit
    unfold IsRangeIter at hi
    exact ⟨fun e => (by rw [e, a1.2] at hi; cases hi), fun e => (by rw [e, a2.2] at hi; cases hi)⟩
  have offX := l₃.off R₃
  have DX : ∀ {h : Heap} {x dx : Addr} {qs vs}, h.get? D = some (W.listOf vs nd) → Acc w.params h x dx qs → D ≠ x := fun h a e => by
    obtain ⟨its, n, tk, k₀, h1, -⟩ := a
    rw [e, h1] at h; cases h
  refine outer_loop (tt := ts) (ts := tz) hA (Nat.lt_of_le_of_lt (Nat.add_le_add_left (by decide : 1 ≤ 7) _) hroom) C h2 h8 hlo hhi F₃ m1s m1z m1l l₃ hit hi0 fun h₄ tk₄ m₄ F₄ hm₄ l₄ st₄ => ?_
  dsimp only
  have R₄ : Run hr h₄ := R₃.stays B (fun c hc => by
    simp only [List.mem_cons, List.not_mem_nil, or_false] at hc
    rcases hc with rfl | rfl | rfl | rfl | rfl
    · exact ⟨LA, B.L84, B.L91⟩
    · exact ⟨hi0.1, offI⟩
    · exact ⟨(l₃.new _ (by simp)).1, offX.1⟩
    · exact ⟨(l₃.new _ (by simp)).1, offX.2.1⟩
    · exact ⟨(l₃.new _ (by simp)).1, offX.2.2⟩) st₄
  have hD₄ := st₄ D _ (by
    have e1 : D ≠ h₂.objs.size := hI _ _ (k₂ _ _ hD₁)
    simp [hD0.2, e1, DX hD₃ l₃.a0, DX hD₃ l₃.a1, DX hD₃ l₃.a2]) hD₃
  have m4 : ∀ {x : Str}, x ≠ Str.ofString "k" → x ≠ Str.ofString "light" → x ≠ Str.ofString "i" → m₄ x = m₁ x := fun a b c => hm₄ _ a b c
  have m4z := (m4 (x := "size") (by decide +kernel) (by decide +kernel) (by decide +kernel)).trans m1z
  have m4d := (m4 (x := "due") (by decide +kernel) (by decide +kernel) (by decide +kernel)).trans m1d
  have m4p := (m4 (x := "place") (by decide +kernel) (by decide +kernel) (by decide +kernel)).trans m1p
  have m4l := (m4 (x := "lines") (by decide +kernel) (by decide +kernel) (by decide +kernel)).trans m1l
  clear m4 hm₄ st₄ hit k13 k₂ k₃ hI hi0 offI offX l₃ F₃ F₂ F₁ l₁ R₁ R₃ hD₁ hD₃
  -- the wheel turned back
  have c4 := canon1 m4l
  refine wpAny_execs_cons (hsv_stmt (hr := hr) (p0 := p0) (m₁ := m₄) h2 h8 hA hroom (c4 ▸ F₄) C l₄ B.h84 B.L84 B.t84 R₄ hb hD₄ (DT hD₄ R₄).1 (by rw [s0]; omega) (by rw [s1]; omega) (by rw [s2]; omega) fun nw g₅ h₅ h₆ tk₆ t1 t2 t3 F₅ l₅ R₅ b₅ hD₅ stay n1 n2 F₆ N₆ => ?_)
  replace F₅ : Fr h₀ L h₅ m₄ := c4.symm ▸ F₅
  replace F₆ : Fr h₀ L h₆ (fun (y : Str) => if y = "value" then some (Value.int (mx3 (heap3 M start 0 M) (heap3 M start 1 M) (heap3 M start 2 M)) t3) else if y = "share" then some (.float (hsvF (heap3 M start 0 M) (heap3 M start 1 M) (heap3 M start 2 M)).2 t2) else if y = "hue" then some (.float (hsvF (heap3 M start 0 M) (heap3 M start 1 M) (heap3 M start 2 M)).1 t1) else m₄ y) := by rw [c4]; exact F₆
  dsimp only
  have k₆ := stay h₆ F₆.keep (fun q hq => (N₆ q hq).1)
  have hD₆ := k₆ D _ hD0.2 hD₅
  have N₆' : News h₀ L h₆ ((D, W.listOf #[.int (dueOf M (placeOf M start) 0) td0, .int (dueOf M (placeOf M start) 1) td1, .int (dueOf M (placeOf M start) 2) td2] nd) :: nw) := fun q hq => by
    rcases List.mem_cons.mp hq with rfl | hq
    · exact ⟨hD₆, hD0.2, hD0.1⟩
    · exact N₆ q hq
  -- the chain
  refine wpAny_execs_cons (LookOut.go (chain_stmt h2 h8 hlo hhi hA n1 n2 hu' C m4d m4p m4z F₆ N₆') fun h₇ tk₇ F₇ N₇ => ?_)
  dsimp only
  have k₇ := stay h₇ F₇.keep (fun q hq => (N₇ q (.tail _ hq)).1)
  have hD₇ := (N₇ _ (.head _)).1
  have st₇ : Stays [L] h₅ h₇ := fun b o hb e => k₇ b o (fun h => hb (by simp [h])) e
  have l₇ := l₅.keep F₅.ns st₇ fun c hc => .inl (List.mem_singleton.mp hc)
  have R₇ : Run hr h₇ := R₅.stays B (S := [L]) (fun c hc => by rw [List.mem_singleton.mp hc]; exact ⟨LA, B.L84, B.L91⟩) st₇
  obtain ⟨m₇, hm₇, m7d, m7l⟩ : ∃ m₇, m₇ = (fun (y : Str) => if y = "value" then some (Value.int (mx3 (heap3 M start 0 M) (heap3 M start 1 M) (heap3 M start 2 M)) t3) else if y = "share" then some (.float (hsvF (heap3 M start 0 M) (heap3 M start 1 M) (heap3 M start 2 M)).2 t2) else if y = "hue" then some (.float (hsvF (heap3 M start 0 M) (heap3 M start 1 M) (heap3 M start 2 M)).1 t1) else m₄ y) ∧ m₇ "due" = some (.ref D) ∧ m₇ "lines" = some (.ref Ln) :=
    ⟨_, rfl, (if_neg (by decide +kernel)).trans ((if_neg (by decide +kernel)).trans ((if_neg (by decide +kernel)).trans m4d)), (if_neg (by decide +kernel)).trans ((if_neg (by decide +kernel)).trans ((if_neg (by decide +kernel)).trans m4l))⟩
  rw [← hm₇] at F₇
  clear hm₇ F₆ N₆ N₆' k₆ hD₆ l₅ R₅ F₅ stay hD₅ st₇ k₇ N₇ F₄ l₄ R₄ hD₄
  rw [← e0, ← e1, ← e2] at hD₇
  -- the closing loop
  refine wpAny_execs_cons (wpAny_For (RangeOut.go (range3 hA C F₇) fun h₈ tk₈ r t u v' F₈ hr₈ k₈ => ?_))
  dsimp only at k₈
  refine range_iter (by decide) (by decide) hr₈ fun h₉ hit k₉ => ?_
  dsimp only at hit k₉ ⊢
  have F₉ : Fr h₀ L h₉ m₇ := ⟨F₈.ns.keeps k₉, fun b o e => k₉ b o (F₈.keep b o e), F₈.above⟩
  have k79 : ∀ b o, h₇.get? b = some o → h₉.get? b = some o := fun b o e => k₉ b o (k₈ b o e)
  have l₉ := l₇.keep (S := []) F₇.ns (Stays.all k79) fun c hc => nomatch hc
  have hI : ∀ b o, h₈.get? b = some o → b ≠ h₈.objs.size := fun b o e => Nat.ne_of_lt (Heap.lt_size e)
  have hi0 : h₀.get? h₈.objs.size = none ∧ h₈.objs.size ≠ L := by
    refine ⟨?_, fun e => ?_⟩
    · cases e : h₀.get? h₈.objs.size with
      | none => rfl
      | some o => exact absurd rfl (hI _ _ (F₈.keep _ _ e))
    · exact absurd e (Nat.ne_of_gt F₈.ns.lt)
  have few : ∀ k, (pts M start k M).length ≤ 1000 := fun k => by rw [pts_length]; omega
  refine end_loop (hr := hr) (td0 := td0) (td1 := td1) (td2 := td2) hA hroom hu C B (by omega) (by omega) (by omega) F₉ m7d m7l (k79 _ _ hD₇) hD0 l₉ hit hi0 (few 0) (few 1) (few 2) (fits_pts h8 (by omega)) (fits_pts h8 (by omega)) (fits_pts h8 (by omega)) (text_pts h8 s0) (text_pts h8 s1) (text_pts h8 s2) (R₇.keeps k79) b₅ fun h₁₀ tk₁₀ g₁₀ m₁₀ F₁₀ hm₁₀ l₁₀ hD₁₀ R₁₀ b₁₀ => ?_
  dsimp only
  have m10d := (hm₁₀ "due" (by decide +kernel)).trans m7d
  have m10l := (hm₁₀ "lines" (by decide +kernel)).trans m7l
  have c10 := canon2 m10d m10l
  have NL : ∀ {h : Heap} {ps0 ps1 ps2 : List (Str × Str)}, Lines w.params h₀ h L Ln x0 d0 x1 d1 x2 d2 ps0 ps1 ps2 → News h₀ L h [(Ln, W.listOf #[.ref x0, .ref x1, .ref x2] 0)] := fun l q hq => by
    obtain rfl := List.mem_singleton.mp hq
    exact ⟨l.ln, (l.new Ln (by simp)).2, (l.new Ln (by simp)).1⟩
  have ND : ∀ {h : Heap} {ps0 ps1 ps2 : List (Str × Str)} {vs}, Lines w.params h₀ h L Ln x0 d0 x1 d1 x2 d2 ps0 ps1 ps2 → h.get? D = some (W.listOf vs nd) → News h₀ L h [(D, W.listOf vs nd), (Ln, W.listOf #[.ref x0, .ref x1, .ref x2] 0)] := fun l hD q hq => by
    rcases List.mem_cons.mp hq with rfl | hq
    · exact ⟨hD, hD0.2, hD0.1⟩
    · exact NL l q hq
  have nx := l₁₀.new x0 (by simp)
  have nd := l₁₀.new d0 (by simp)
  have fr : ∀ {h h' : Heap}, Fr h₀ L h m₁₀ → (∀ b o, b ≠ x0 → h.get? b = some o → h'.get? b = some o) → Fr h₀ L h' m₁₀ := fun F k => ⟨F.ns.at' fun o e => k L o nx.2.symm e, fun b o e => k b o (fun h => by rw [h, nx.1] at e; cases e) (F.keep b o e), F.above⟩
  -- pop
  have off₁₀ := (l₁₀.off R₁₀).1
  refine wpAny_execs_cons (popE (D := D) (m₁ := m₁₀) (td0 := td0) (td1 := td1) (td2 := td2) (b0 := b0) (b1 := b1) (b2 := b2) hA (Nat.lt_of_le_of_lt (Nat.add_le_add_left (by decide : 1 ≤ 7) _) hroom) C hfile htop (c10 ▸ F₁₀) (ND l₁₀ hD₁₀) (show Acc w.params _ x0 d0 (pts M start 0 M ++ [_]) from l₁₀.a0) nx nd (by rw [pts_length]; omega) fun h₁₁ tk₁₁ k₁₁ a₁₁ => ?_)
  dsimp only
  have l₁₁ := l₁₀.set0 k₁₁ a₁₁
  have F₁₁ := fr F₁₀ k₁₁
  have R₁₁ : Run hr h₁₁ := R₁₀.stays B (S := [x0]) (fun c hc => by rw [List.mem_singleton.mp hc]; exact ⟨nx.1, off₁₀⟩) (Stays.one (.head _) k₁₁)
  have hD₁₁ := k₁₁ _ _ (DX hD₁₀ l₁₀.a0) hD₁₀
  obtain ⟨b, rfl⟩ : ∃ b, b0 = b + 1 := ⟨b0 - 1, by omega⟩
  -- push
  refine wpAny_execs_cons (pushL (D := D) (m₁ := m₁₀) (td0 := td0) (td1 := td1) (td2 := td2) (b := b) (b1 := b1) (b2 := b2) hA (Nat.lt_of_le_of_lt (Nat.le_add_right _ 7) hroom) C (by omega) (c10 ▸ F₁₁) (ND l₁₁ hD₁₁) l₁₁.a0 nx nd (few 0) fun h₁₂ tk₁₂ k₁₂ a₁₂ => ?_)
  dsimp only
  have l₁₂ := l₁₁.set0 k₁₂ a₁₂
  have F₁₂ := fr F₁₁ k₁₂
  have R₁₂ : Run hr h₁₂ := R₁₁.stays B (S := [x0]) (fun c hc => by rw [List.mem_singleton.mp hc]; exact ⟨nx.1, off₁₀⟩) (Stays.one (.head _) k₁₂)
  -- return
  refine wpAny_execs_cons (checkR (m₁ := m₁₀) (e := b) hA hroom hu C (canon1 m10l ▸ F₁₂) (NL l₁₂) l₁₂.a0 (fits_pts h8 (by omega)) B.h91 B.L91 B.t91 R₁₂ b₁₀ (by omega) (text_pts h8 s0) fun h₁₃ tk₁₃ g₁₃ F₁₃ k₁₃ R₁₃ b₁₃ => hQ _ _ _ R₁₃.old b₁₃)
end

end Mine

/-! ## R24 -/
namespace Mine
open PySem PySem.W PyProof.Rows PySem.Calls
set_option maxRecDepth 100000
set_option maxHeartbeats 8000000

theorem ctx_of {w : World} {p : Program} {loose : List Str} {mean : ExcName → Option Value} {mg mb : Str → Option Value} {bm : Addr} {ob : Obj} {h : Heap} (X : (hd.heap_39 w.params).In h) (T : Top p loose mean mg mb h) (M : BMod h mainGlobals mg bm ob) : Ctx w p loose mg mb bm ob h := ⟨X, topRead_of T, M⟩
theorem size_item {prog : Program} {w : World} {A : Around} {E : Value → Shared → Prop} {s : Shared} {value slice : PySem.Expr} {l : Addr} {t1 t2 t3 t4 t5 t6 t7 : Tok} {k : Int} {u : Tok} {Q : Value → Shared → Prop}
    (hl : s.heap.IsList l #[.int 5 t1, .int 7 t2, .int 3 t3, .int 4 t4, .int 8 t5, .int 2 t6, .int 6 t7]) (hk : 0 ≤ k ∧ k < 7) (h : ∀ (n : Int) t, 2 ≤ n → n ≤ 8 → Q (.int n t) s)
    (hs : subscripted slice false (.ref l) (.int k u) = operate [.ref l, .int k u] (getItem (.ref l) (.int k u)) := by with_unfolding_all rfl) :
    wpAny (model prog w) A (subscriptTail value slice (.ref l) (.int k u)) Q E s := by
  obtain ⟨h0, h7⟩ := hk
  have : k = 0 ∨ k = 1 ∨ k = 2 ∨ k = 3 ∨ k = 4 ∨ k = 5 ∨ k = 6 := by omega
  rcases this with rfl | rfl | rfl | rfl | rfl | rfl | rfl <;>
    exact tail_any hl.typeIs slot_list_getitem.lookup (wpAny_getItem_list hl (by decide) (by decide) (by rfl) (h _ _ (by decide) (by decide))) hs
theorem hd84 (P : Params) : (hd.heap_39 P).lookup 84 = none := by kernel_rfl
theorem hd91 (P : Params) : (hd.heap_39 P).lookup 91 = none := by kernel_rfl
theorem hd88 (P : Params) : (hd.heap_39 P).lookup 88 = tabs.lookup 88 := by kernel_rfl
theorem hd95 (P : Params) : (hd.heap_39 P).lookup 95 = tabs.lookup 95 := by kernel_rfl
/-- the two tables and their code objects lie as they were read -/
def Laid4 (h : Heap) : Prop := ∀ a o, tabs.lookup a = some o → h.get? a = some o
theorem laid4_of {as e} {w : World} {h : Heap} (Y : (tabHook ⟨hd.heap_39, as, e⟩).says w h) : Laid4 h := fun a o ho => by
  have hm : a = 84 ∨ a = 91 ∨ a = 88 ∨ a = 95 := by
    unfold tabs at ho
    simp only [List.lookup_cons, List.lookup_nil] at ho
    cases h1 : a == 84
    · cases h2 : a == 91
      · cases h3 : a == 88
        · cases h4 : a == 95
          · simp [h1, h2, h3, h4] at ho
          · exact .inr (.inr (.inr (eq_of_beq h4)))
        · exact .inr (.inr (.inl (eq_of_beq h3)))
      · exact .inr (.inl (eq_of_beq h2))
    · exact .inl (eq_of_beq h1)
  rcases hm with rfl | rfl | rfl | rfl
  · exact (tabHook_K Y).2 84 o (hd84 _) ho
  · exact (tabHook_K Y).2 91 o (hd91 _) ho
  · exact (tabHook_K Y).1 88 o ((hd88 _).trans ho)
  · exact (tabHook_K Y).1 95 o ((hd95 _).trans ho)
section
variable {w : World} {p : Program} {loose : List Str} {mg mb : Str → Option Value} {bm : Addr} {ob : Obj} {hr h : Heap} {L : Addr} {m : Str → Option Value}

theorem tab88 (X : Laid4 h) : h.IsCode 88 84 #[] ∧ h.TableAt 88 84 #[] :=
  ⟨⟨_, _, _, _, _, _, _, _, _, _, X 88 _ rfl, rfl, rfl, rfl, rfl, rfl, rfl, X 84 _ rfl, rfl, trivial, by decide⟩, ⟨_, _, X 88 _ rfl, rfl, rfl, rfl⟩, X 84 _ rfl⟩
theorem tab95 (X : Laid4 h) : h.IsCode 95 91 #[] ∧ h.TableAt 95 91 #[] :=
  ⟨⟨_, _, _, _, _, _, _, _, _, _, X 95 _ rfl, rfl, rfl, rfl, rfl, rfl, rfl, X 91 _ rfl, rfl, trivial, by decide⟩, ⟨_, _, X 95 _ rfl, rfl, rfl, rfl⟩, X 91 _ rfl⟩

/-- the run's beginning without the two tables -/
def under (hr : Heap) : Heap := hideAll (hideAll hr [84]) [91]
theorem under_sub {b : Addr} {o : Obj} (e : (under hr).get? b = some o) : hr.get? b = some o := of_hideAll _ (of_hideAll _ e)
theorem under_get {b : Addr} {o : Obj} (e : hr.get? b = some o) (h1 : b ≠ 84) (h2 : b ≠ 91) : (under hr).get? b = some o :=
  hideAll_get _ (hideAll_get _ e fun hm => h1 (List.mem_singleton.mp hm)) fun hm => h2 (List.mem_singleton.mp hm)
theorem under84 : (under hr).get? 84 = none := by
  cases e : (under hr).get? 84 with
  | none => rfl
  | some o => exact absurd ((hideAll_none [84] (h := hr) (.head _)).symm.trans (of_hideAll _ e)) (by simp)
theorem under91 : (under hr).get? 91 = none := hideAll_none [91] (.head _)

theorem base_of (X : Laid4 hr) : Base hr (under hr) hr.objs.size #[] #[] where
  h84 := under84
  h91 := under91
  L84 := fun e => absurd (Heap.lt_size (X 84 _ rfl)) (by rw [e]; exact Nat.lt_irrefl _)
  L91 := fun e => absurd (Heap.lt_size (X 91 _ rfl)) (by rw [e]; exact Nat.lt_irrefl _)
  t84 := (tab88 X).2
  t91 := (tab95 X).2
  hide := fun b h1 h2 => by
    cases e : hr.get? b with
    | some o => exact (under_get e h1 h2).symm
    | none =>
      cases e' : (under hr).get? b with
      | none => rfl
      | some o => rw [under_sub e'] at e; cases e
  c88 := ⟨_, X 88 _ rfl⟩
  c95 := ⟨_, X 95 _ rfl⟩

theorem ctx_under (X : (hd.heap_39 w.params).In hr) (X4 : Laid4 hr) (T : TopRead p loose mg mb hr) (M : BMod hr mainGlobals mg bm ob) : Ctx w p loose mg mb bm ob (under hr) := by
  have e84 := X4 84 _ rfl
  have e91 := X4 91 _ rfl
  have e91' : (hideAll hr [84]).get? 91 = some { cls := .none, data := .fields #[] } := hideAll_get _ e91 (by decide)
  refine ⟨hide_K (hide_K X (hd84 _)) (hd91 _), hide_T (hide_T T e84 fun _ _ => nofun) e91' fun _ _ => nofun, ⟨hide_Ns (hide_Ns M.ns e84 fun _ _ => nofun) e91' fun _ _ => nofun, M.name, M.ne, under_get M.obj (fun e => ?_) fun e => ?_, M.cls, M.dict, M.data⟩⟩
  · have := M.obj
    rw [e, e84] at this
    have c := M.cls
    rw [← Option.some.inj this] at c
    cases c
  · have := M.obj
    rw [e, e91] at this
    have c := M.cls
    rw [← Option.some.inj this] at c
    cases c

theorem fr_under (F : Fr hr L h m) : Fr (under hr) L h m := ⟨F.ns, fun b o e => F.keep b o (under_sub e), by
  have : (under hr).objs.size = hr.objs.size := (hideAll_size _ _).trans (hideAll_size _ _)
  rw [this]; exact F.above⟩
theorem run_of (X : Laid4 hr) (F : Fr hr L h m) : Run hr h :=
  ⟨OldK.of_keep F.keep, fun b o _ _ e => F.keep b o e, ⟨_, (tab88 X).1.keeps F.keep, (tab88 X).2.keeps F.keep⟩, ⟨_, (tab95 X).1.keeps F.keep, (tab95 X).2.keeps F.keep⟩⟩
end

theorem placeI_eq {n st : Int} (h2 : 2 ≤ n) : placeI n st = placeOf n.toNat st := by
  unfold placeI placeOf
  rw [Int.fmod_eq_emod_of_nonneg _ (by decide), Int.fmod_eq_emod_of_nonneg _ (by decide), Int.fmod_eq_emod_of_nonneg _ (by decide)]
  by_cases h : n % 6 = 5
  · rw [if_pos h, if_pos (by omega)]
  · rw [if_neg h, if_neg (by omega)]
/-- the list that `_law_due` gives -/
def DueObj (n pl : Int) (o : Obj) : Prop := ∃ t0 t1 t2 nd, o = W.listOf #[.int (dueOf n.toNat pl 0) t0, .int (dueOf n.toNat pl 1) t1, .int (dueOf n.toNat pl 2) t2] nd
theorem due_even {n pl : Int} {tk : Tok} (h2 : 2 ≤ n) (ha : Int.fmod n 2 = 0) : DueObj n pl (W.listOf (List.replicate (Int.toNat 3) [Value.int (n * n) tk]).flatten.toArray 0) := by
  rw [Int.fmod_eq_emod_of_nonneg _ (by decide)] at ha
  have e : ∀ k, dueOf n.toNat pl k = n * n := fun k => by
    unfold dueOf
    rw [if_pos (by omega), Int.toNat_of_nonneg (by omega)]
  exact ⟨tk, tk, tk, 0, by rw [e, e, e]; rfl⟩
theorem due_three {n pl : Int} {tk : Tok} (h2 : 2 ≤ n) (ha : Int.fmod n 2 ≠ 0) (hb : Int.fmod n 3 = 0) : DueObj n pl (W.listOf (List.replicate (Int.toNat 3) [Value.int (n * n - 3 + if 12 - pl < pl then 12 - pl else pl) tk]).flatten.toArray 0) := by
  rw [Int.fmod_eq_emod_of_nonneg _ (by decide)] at ha hb
  have e : ∀ k, dueOf n.toNat pl k = (n * n - 3 + if 12 - pl < pl then 12 - pl else pl) := fun k => by
    unfold dueOf
    rw [if_neg (by omega), if_pos (by omega), Int.toNat_of_nonneg (by omega)]
    split <;> omega
  exact ⟨tk, tk, tk, 0, by rw [e, e, e]; rfl⟩
theorem due_else {n pl : Int} {ys : List Value} (h2 : 2 ≤ n) (ha : Int.fmod n 2 ≠ 0) (hb : Int.fmod n 3 ≠ 0)
    (hI : IntsAre ys (List.map (fun k' => n * n - 1 + if (if (4 - if (-(pl - 4 * k')).fmod 12 < (pl - 4 * k').fmod 12 then (-(pl - 4 * k')).fmod 12 else (pl - 4 * k').fmod 12) < 2 then 4 - if (-(pl - 4 * k')).fmod 12 < (pl - 4 * k').fmod 12 then (-(pl - 4 * k')).fmod 12 else (pl - 4 * k').fmod 12 else 2) > 0 then if (4 - if (-(pl - 4 * k')).fmod 12 < (pl - 4 * k').fmod 12 then (-(pl - 4 * k')).fmod 12 else (pl - 4 * k').fmod 12) < 2 then 4 - if (-(pl - 4 * k')).fmod 12 < (pl - 4 * k').fmod 12 then (-(pl - 4 * k')).fmod 12 else (pl - 4 * k').fmod 12 else 2 else 0) (rangeKs 0 ((3 : Int) - 0).toNat))) : DueObj n pl (LCg.lst ys) := by
  rw [Int.fmod_eq_emod_of_nonneg _ (by decide)] at ha hb
  have e : ∀ k : Nat, dueOf n.toNat pl k = (n * n - 1 + if (if (4 - if (-(pl - 4 * (k : Int))).fmod 12 < (pl - 4 * (k : Int)).fmod 12 then (-(pl - 4 * (k : Int))).fmod 12 else (pl - 4 * (k : Int)).fmod 12) < 2 then 4 - if (-(pl - 4 * (k : Int))).fmod 12 < (pl - 4 * (k : Int)).fmod 12 then (-(pl - 4 * (k : Int))).fmod 12 else (pl - 4 * (k : Int)).fmod 12 else 2) > 0 then if (4 - if (-(pl - 4 * (k : Int))).fmod 12 < (pl - 4 * (k : Int)).fmod 12 then (-(pl - 4 * (k : Int))).fmod 12 else (pl - 4 * (k : Int)).fmod 12) < 2 then 4 - if (-(pl - 4 * (k : Int))).fmod 12 < (pl - 4 * (k : Int)).fmod 12 then (-(pl - 4 * (k : Int))).fmod 12 else (pl - 4 * (k : Int)).fmod 12 else 2 else 0) := fun k => by
    unfold dueOf redOf
    rw [if_neg (by omega), if_neg (by omega), Int.toNat_of_nonneg (by omega), Int.fmod_eq_emod_of_nonneg _ (by decide), Int.fmod_eq_emod_of_nonneg _ (by decide)]
    congr 1
    generalize (pl - 4 * (k : Int)) % 12 = x
    generalize (-(pl - 4 * (k : Int))) % 12 = y
    generalize hz : (if y < x then y else x) = z
    have : min x y = z := by rw [← hz]; split <;> omega
    rw [this]
    split <;> split <;> omega
  have ek : rangeKs 0 ((3 : Int) - 0).toNat = [((0 : Nat) : Int), ((1 : Nat) : Int), ((2 : Nat) : Int)] := by decide
  rw [ek] at hI
  simp only [List.map_cons, List.map_nil, ← e] at hI
  obtain ⟨⟩ | ⟨_, t0, hI⟩ := hI
  obtain ⟨⟩ | ⟨_, t1, hI⟩ := hI
  obtain ⟨⟩ | ⟨_, t2, hI⟩ := hI
  obtain ⟨⟩ := hI
  exact ⟨t0, t1, t2, 3, rfl⟩

theorem units_law {e : Env} : (callerA.deeper e).in1.in1.units < cLine ∧ (callerA.deeper e).units < cLine ∧ (callerA.deeper e).handled = none ∧ (callerA.deeper e).depth + 7 < recursionLimit := ⟨by simp only [units_in1, units_deeper, units_caller]; decide, by simp only [units_in1, units_deeper, units_caller]; decide, rfl, by show callerA.depth + 1 + 7 < recursionLimit; rw [depth_caller]; decide⟩

theorem finish {fa D : Addr} {w : World} {p : Program} {loose : List Str} {mean : ExcName → Option Value} {mg mb : Str → Option Value} {bm : Addr} {ob o : Obj} {hr : Heap} {s : Shared} {E : Value → Shared → Prop} {Q : Flow → Shared → Prop} {m : Str → Option Value} {nw : List (Addr × Obj)} {n q : Int} {tp ts tz : Tok} {e : Env} {nm : Str} {cd : Value} {qa1 qa2 qa3 qa4 qa5 qa6 qa7 qa8 qa9 qb1 qb2 qb3 qb4 qb5 qb6 qb7 qb8 qb9 qb10 qb11 qb12 qb13 qb14 qb15 qb16 qb17 qb18 qb19 qb20 qb21 qb22 qb23 qb24 qb25 qb26 qb27 qb28 qb29 qb30 qb31 qb32 qb33 qb34 qb35 qb36 qb37 qb38 qb39 qb40 qb41 qb42 qb43 qc1 qc2 qc3 qc4 qc5 qc6 qc7 qc8 qc9 qc10 qc11 qc12 qc13 qc14 qc15 qc16 qc17 qc18 qc19 qc20 qc21 qc22 qd1 qd2 qd3 qd4 qd5 qd6 qd7 qd8 qd9 qd10 qd11 qd12 qd13 qd14 qd15 qd16 qd17 qd18 qd19 qd20 qd21 qd22 qd23 qd24 qd25 qd26 qd27 qd28 qd29 qd30 qd31 qd32 qd33 qd34 qd35 qd36 qd37 qd38 qd39 qd40 qd41 qd42 qd43 qd44 qd45 qd46 qd47 qd48 qd49 qd50 qd51 qd52 qd53 qd54 qd55 qd56 qd57 qd58 qd59 qd60 qe1 qe2 qe3 qe4 qe5 qe6 qe7 qe8 qe9 qe10 qe11 qe12 qe13 qe14 qe15 qe16 qe17 qe18 qe19 qe20 qe21 qe22 qe23 qe24 qe25 qe26 qf1 qf2 qf3 qf4 qg1 qg2 qg3 qg4 qg5 qg6 qg7 qg8 qg9 qg10 qg11 qg12 qh1 qh2 qh3 qh4 qh5 qh6 qh7 qh8 qh9 : Pos} {qba1 qba2 qba3 qba4 qba5 qba6 qea1 qea2 qea3 qea4 qea5 qea6 qfa1 qfa2 qfa3 qfa4 qfa5 qfa6 qga1 qga2 qga3 qga4 qga5 qga6 : Nat}
    (KX : (hd.heap_39 w.params).In hr) (K4 : Laid4 hr) (T : Top p loose mean mg mb hr) (M : BMod hr mainGlobals mg bm ob) (h2 : 2 ≤ n) (h8 : n ≤ 8)
    (F : Fr hr hr.objs.size s.heap (fun y => if y = "due" then some (.ref D) else if y = "place" then some (.int (placeI n (Int.fmod q (36 * n) - 12 * n)) tp) else if y = "start" then some (.int (Int.fmod q (36 * n) - 12 * n) ts) else if y = "size" then some (.int n tz) else m y))
    (N : News hr hr.objs.size s.heap nw) (hm : (D, o) ∈ nw) (ho : DueObj n (placeI n (Int.fmod q (36 * n) - 12 * n)) o) (hg : AllBare s.gens)
    (hQ : ∀ h' tk g', OldK hr h' → AllBare g' → Q (.ret (.bool true)) { s with heap := h', toks := tk, gens := g' }) :
    wpAny (model PySem.Challenge.rw_tr0031_01.row.prog w) (callerA.deeper e) (execs [(.Assign [(.Name "lines" qa1)] (.List [ (.Call (.Name "_Accumulator" qa2) [] [] qa3), (.Call (.Name "_Accumulator" qa4) [] [] qa5), (.Call (.Name "_Accumulator" qa6) [] [] qa7)] qa8) qa9),
      (.For (.Name "i" qb1) (.Call (.Name "range" qb2) [(.Name "size" qb3)] [] qb4) [ (.Assign [(.Name "light" qb5)] (.Call (.Name "hls_to_rgb" qb6) [ (.BinOp (.BinOp (.Name "start" qb7) .Add (.BinOp (.Constant (.int 12) 0 qb8) .Mult (.Name "i" qb9) qb10) qb11) .Div (.BinOp (.Constant (.int 12) 0 qb12) .Mult (.Name "size" qb13) qb14) qb15), (.Constant (.float 0x3fe0000000000000) 0 qb16), (.Constant (.float 0x3ff0000000000000) 0 qb17)] [] qb18) qb19), (.For (.Name "k" qb20) (.Call (.Name "range" qb21) [(.Constant (.int 3) 0 qb22)] [] qb23) [ (.Expr (.Call (.Attribute (.Subscript (.Name "lines" qb24) (.Name "k" qb25) qb26) "push" { line := qba1, col := qba2, endLine := 146, endCol := qba3 }) [ (.Constant (.str "") 0 qb27), (.BinOp (.Constant (.str "(") 0 qb28) .Mult (.Call (.Name "int" qb29) [ (.BinOp (.BinOp (.BinOp (.Constant (.int 2) 0 qb30) .Mult (.Name "size" qb31) qb32) .Mult (.Subscript (.Name "light" qb33) (.Name "k" qb34) qb35) qb36) .Add (.Constant (.float 0x3fe0000000000000) 0 qb37) qb38)] [] qb39) qb40)] [] { line := 146, col := qba4, endLine := qba5, endCol := qba6 }) qb41)] [] qb42)] [] qb43),
      (.Assign [ (.Tuple [ (.Name "hue" qc1), (.Name "share" qc2), (.Name "value" qc3)] 0 qc4)] (.Call (.Name "rgb_to_hsv" qc5) [ (.Call (.Name "len" qc6) [ (.Subscript (.Name "lines" qc7) (.Constant (.int 0) 0 qc8) qc9)] [] qc10), (.Call (.Name "len" qc11) [ (.Subscript (.Name "lines" qc12) (.Constant (.int 1) 0 qc13) qc14)] [] qc15), (.Call (.Name "len" qc16) [ (.Subscript (.Name "lines" qc17) (.Constant (.int 2) 0 qc18) qc19)] [] qc20)] [] qc21) qc22),
      (.If (.BoolOp .Or [ (.Compare (.BinOp (.Name "size" qd1) .Mod (.Constant (.int 2) 0 qd2) qd3) [.Eq] [(.Constant (.int 0) 0 qd4)] qd5), (.Compare (.BinOp (.Name "size" qd6) .Mod (.Constant (.int 3) 0 qd7) qd8) [.Eq] [(.Constant (.int 0) 0 qd9)] qd10)] qd11) [ (.If (.Compare (.Tuple [ (.Name "hue" qd12), (.Name "share" qd13), (.Name "value" qd14)] 0 qd15) [.NotEq] [ (.Tuple [ (.Constant (.float 0x0000000000000000) 0 qd16), (.Constant (.float 0x0000000000000000) 0 qd17), (.Subscript (.Name "due" qd18) (.Constant (.int 0) 0 qd19) qd20)] 0 qd21)] qd22) [ (.Return (some (.Constant (.bool false) 0 qd23)) qd24)] [] qd25)] [ (.If (.Compare (.Tuple [(.Name "share" qd26), (.Name "value" qd27)] 0 qd28) [.NotEq] [ (.Tuple [ (.BinOp (.Constant (.int 2) 0 qd29) .Div (.BinOp (.BinOp (.Name "size" qd30) .Mult (.Name "size" qd31) qd32) .Add (.Constant (.int 1) 0 qd33) qd34) qd35), (.BinOp (.BinOp (.Name "size" qd36) .Mult (.Name "size" qd37) qd38) .Add (.Constant (.int 1) 0 qd39) qd40)] 0 qd41)] qd42) [ (.Return (some (.Constant (.bool false) 0 qd43)) qd44)] [ (.If (.Compare (.Call (.Name "int" qd45) [ (.BinOp (.BinOp (.Name "hue" qd46) .Mult (.Constant (.int 12582912) 0 qd47) qd48) .Add (.Constant (.float 0x3fe0000000000000) 0 qd49) qd50)] [] qd51) [.NotEq] [ (.BinOp (.Name "place" qd52) .Mult (.Constant (.int 1048576) 0 qd53) qd54)] qd55) [ (.Return (some (.Constant (.bool false) 0 qd56)) qd57)] [] qd58)] qd59)] qd60),
      (.For (.Name "k" qe1) (.Call (.Name "range" qe2) [(.Constant (.int 3) 0 qe3)] [] qe4) [ (.Expr (.Call (.Attribute (.Subscript (.Name "lines" qe5) (.Name "k" qe6) qe7) "push" { line := qea1, col := qea2, endLine := 156, endCol := qea3 }) [ (.Constant (.str " ") 0 qe8), (.BinOp (.Constant (.str ")") 0 qe9) .Mult (.Subscript (.Name "due" qe10) (.Name "k" qe11) qe12) qe13)] [] { line := 156, col := qea4, endLine := qea5, endCol := qea6 }) qe14), (.If (.UnaryOp .Not (.Call (.Name "_check_parenthesis" qe15) [ (.Call (.Name "str" qe16) [ (.Subscript (.Name "lines" qe17) (.Name "k" qe18) qe19)] [] qe20)] [] qe21) qe22) [ (.Return (some (.Constant (.bool false) 0 qe23)) qe24)] [] qe25)] [] qe26),
      (.Expr (.Call (.Attribute (.Subscript (.Name "lines" qf1) (.Constant (.int 0) 0 qf2) qf3) "pop" { line := qfa1, col := qfa2, endLine := 159, endCol := qfa3 }) [] [] { line := 159, col := qfa4, endLine := qfa5, endCol := qfa6 }) qf4),
      (.Expr (.Call (.Attribute (.Subscript (.Name "lines" qg1) (.Constant (.int 0) 0 qg2) qg3) "push" { line := qga1, col := qga2, endLine := 160, endCol := qga3 }) [ (.Constant (.str " ") 0 qg4), (.BinOp (.Constant (.str ")") 0 qg5) .Mult (.BinOp (.Subscript (.Name "due" qg6) (.Constant (.int 0) 0 qg7) qg8) .Sub (.Constant (.int 1) 0 qg9) qg10) qg11)] [] { line := 160, col := qga4, endLine := qga5, endCol := qga6 }) qg12),
      (.Return (some (.UnaryOp .Not (.Call (.Name "_check_parenthesis" qh1) [ (.Call (.Name "str" qh2) [ (.Subscript (.Name "lines" qh3) (.Constant (.int 0) 0 qh4) qh5)] [] qh6)] [] qh7) qh8)) qh9)] (envOf nm lSc hr.objs.size fa cd)) Q E s := by
  have f0 := Int.fmod_nonneg_of_pos q (show (0 : Int) < 36 * n by omega)
  have f1 := Int.fmod_lt_of_pos q (show (0 : Int) < 36 * n by omega)
  obtain ⟨M', rfl⟩ : ∃ M' : Nat, n = M' := ⟨n.toNat, by omega⟩
  obtain ⟨t0, t1, t2, nd, rfl⟩ := ho
  rw [placeI_eq h2, Int.toNat_natCast] at *
  have g := N _ hm
  have hD0 : (under hr).get? D = none := by
    cases e : (under hr).get? D with
    | none => rfl
    | some o => have := under_sub e; rw [g.2.2] at this; cases this
  refine rest_law (hr := hr) (start := Int.fmod q (36 * (M' : Int)) - 12 * (M' : Int)) (M := M') (ts := ts) (tz := tz) (tp := tp) (td0 := t0) (td1 := t1) (td2 := t2) (nd := nd) (by omega) (by omega) (by omega) (by omega) units_law.2.2.1 units_law.2.2.2 units_law.1 units_law.2.1 (by decide +kernel) (by decide +kernel) (ctx_under KX K4 (topRead_of T) M) (base_of K4) (fr_under F) ?_ ?_ ?_ ?_ g.1 ⟨hD0, g.2.1⟩ (run_of K4 F) hg hQ
  · exact (if_neg (by decide +kernel)).trans ((if_neg (by decide +kernel)).trans (if_pos rfl))
  · exact (if_neg (by decide +kernel)).trans ((if_neg (by decide +kernel)).trans ((if_neg (by decide +kernel)).trans (if_pos rfl)))
  · exact (if_neg (by decide +kernel)).trans (if_pos rfl)
  · exact if_pos rfl

end Mine

/-! ## W8 -/
namespace Mine
open PySem PySem.W PyProof.Rows PySem.Calls
set_option maxRecDepth 100000
set_option maxHeartbeats 8000000
local macro_rules | `(tactic| walk_at "subscriptTail") => `(tactic| (k_here; (with_reducible show wpAny _ _ (subscriptTail _ _ (Value.ref _) (Value.int _ _)) _ _ _); refine of_stop ?_))
local macro_rules | `(tactic| walk_at "exec Assign") => `(tactic| (k_here; (with_reducible show wpAny _ _ (exec (Stmt.Assign [Expr.Name "place" _] _ _) _) _ _ _); refine of_stop ?_))
local macro_rules | `(tactic| walk_at "execs cons") => `(tactic| (k_here; (with_reducible show wpAny _ _ (execs (Stmt.Assign [Expr.Name "lines" _] _ _ :: _) _) _ _ _); refine of_stop ?_))
theorem w8 : PySem.Challenge.rw_tr0031_01.Holds := hd (by
  k_with "pyIter ref" => k_state (fun pre t => 525 ≤ t ∧ t ≤ 525 + 1000000 * (pre.length : Int)) "total"
  w_strict (
    k_fill
    intro w s₀ s₁ mg mb G Y fa o pm cd doc dV kV ho hdat hcd hD hmg hg args vals as hpre hlay hrd hwl hlo
    have KX : (hd.heap_39 w.params).In s₁.heap := (tabHook_K Y).1
    have K4 : Laid4 s₁.heap := laid4_of Y
    clear Y
    have X := (Ground.X G).1
    have V := (Ground.X G).2
    have GL := glob_more (Ground.glob G (by first | k_qdec | decide +kernel) (by first | k_qdec | decide +kernel)) V
    refine Ground.open G ?_
    intro T B D TE TW
    try (refine guard_noD D (by decide +kernel) ?_; clear D)
    obtain ⟨_, _, M⟩ := bmod_of_top T
    have TA := at_of_top T
    try (obtain ⟨_, _, he, B0⟩ := based_of_top T rfl hmg ho hdat; have he' : cd = _ := he; subst he'; clear he)
    clear hmg
    wrow_args hpre hlay hrd hwl hlo
    all_goals (
      first | refine callC_kw (enter_call ?_) | refine enter_call ?_
      w_top on
      have K0 := below_caller (Top.heap T)
      w_call any ho hdat hcd hD T F
      clear hdat TA
      k_drop
      skip)
    (all_goals try k_fold)
    k_steps
    unfold Stop
    with_unfolding_all refine' size_item ?k1 ?k2 ?_ ?k3
    case k3 => with_unfolding_all rfl
    case k2 => exact ⟨Int.fmod_nonneg_of_pos _ (by decide), Int.fmod_lt_of_pos _ (by decide)⟩
    case k1 => is_list
    intro n' t' hn1' hn2'
    try dsimp only
    k_steps
    unfold Stop
    rename Fr _ _ _ _ => F1
    rename News _ _ _ _ => N1
    refine PlaceOut.go (place_stmt rfl (ctx_of KX T M) F1 N1) fun h' tk' t' F' N' => ?_
    clear F1 N1
    try dsimp only at F'
    try dsimp only
    k_steps
    all_goals (
      unfold Stop
      rename Fr _ _ _ _ => FF
      rename News _ _ _ _ => NN
      refine' finish ?KX K4 ?T ?M ?n2 ?n8 FF NN ?hm ?ho ?hg ?hQ
      case KX => exact KX
      case T => exact T
      case M => exact M
      case n2 => assumption
      case n8 => assumption
      case hm => k_mem
      case ho => first | exact due_even (by assumption) (by assumption) | exact due_three (by assumption) (by assumption) (by assumption) | exact due_else (by assumption) (by assumption) (by assumption) (by assumption)
      case hg => exact AllBare.of_eq hg
      case hQ =>
        intro h' tk' g' hK' hB'
        dsimp only
        refine ⟨.inl ⟨_, _, [], rfl, fun _ => rfl, ReadsW.bool true, ?_, fun _ => ⟨List.nodup_nil, fun _ hm => nomatch hm⟩⟩, hK', rfl, hB'⟩
        first | rfl | wrow_post)))

end Mine

theorem PySem.Challenge.cw_tr0031_01_holds : PySem.Challenge.rw_tr0031_01.Holds :=
  Mine.w8
