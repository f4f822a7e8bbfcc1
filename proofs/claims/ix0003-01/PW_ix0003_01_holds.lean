import PyProof.Rows.All
import Wide.All
import OpenK.AllK
import Wide.FinOn
import PySem.Challenge.RW_ix0003_01
open PySem PySem.W PyProof.Rows
set_option Elab.async false
set_option maxRecDepth 100000
set_option linter.unusedVariables false
set_option rowWalk.seconds 0

section PHd1
namespace Mine
def vw : Program := PySem.W.view PySem.Challenge.rw_ix0003_01.prog [1, 2, 3, 4, 5, 7, 9, 11, 12, 14, 15, 16, 17]
theorem said_of {l : OpenLaw} {f : type_of% @OpenLaw.wellSaid} (e : @OpenLaw.wellSaid = f) (h : f l = true) : l.wellSaid = true := by
  subst e
  exact h
theorem said : PySem.Challenge.rw_ix0003_01.wellSaid = true := said_of PySem.W.Fast.te9446332074065402090 (by kernel_rfl)
local macro_rules | `(tactic| o_law) => `(tactic| refine holds_law Mine.said fun said => ?_)
local macro_rules | `(tactic| o_head $H) => `(tactic| (
  refine holds_open (q := Mine.vw) (loose := ["QuicCongestionControl", "QuicPacketType", "Epoch"]) (Xt := fun s => xlAt Mine.vw [] s && recOk (RowW.records (OpenRow.toRowW (OpenLaw.row PySem.Challenge.rw_ix0003_01))) s) (XP := XL Mine.vw []) (Yf := Hook.obs $H) (Ya := Hook.val $H) (YP := Hook.says $H) (N := 3960) ?hl (Hook.of $H) (Hook.keeps $H) (fun s e => xl_of s (Bool.and_eq_true_iff.mp e).1) XL.keeps (by rfl) (by rfl) (by rfl) (fun s e => recFacts_of (Bool.and_eq_true_iff.mp e).2) (by rfl) (by first | assumption | decide +kernel) (by decide +kernel) ⟨rfl, rfl, rfl, rfl, rfl, by decide +kernel⟩ ?hw ?hc
  case hl =>
    intro w
    delta openEnds fencedOpening topFrom
    rw [PySem.W.Fast.te10274390034422433532, PySem.W.Fast.te14082659384304107361, PySem.W.Fast.te14289696077712309145, PySem.W.Fast.te4187177175401517315, PySem.W.Fast.te14364793385576792824, PySem.W.Fast.te1435165496053646825, PySem.W.Fast.te5923862056798008813]
    kernel_rfl))
set_option maxHeartbeats 8000000 in
open_top hd for PySem.Challenge.rw_ix0003_01
end Mine
end PHd1

section PSup
namespace Mine
theorem fresh_Sup : True := by
  w_top off
  first | walk1 | exact True.intro
section
variable {M : Model} {A : Around} {E : Value → Shared → Prop} {s : Shared} {env : Env} {c : Code}
/-- a method called with keywords through super() -/
theorem at_MethodCallKW {o : PySem.Expr} {name : Str} {apos pos : Pos} {args : List PySem.Expr} {kws : List Keyword} {pl : Sem Bool} {Q : Value → Shared → Prop}
    (h : _root_.PySem.wpAt M A c (attributeBase o name env (eval o env)) (fun ov s₁ => wpAny M A (getMethod ov name pl) (fun fx s₂ => wpAny M A (callWith pos fx.1 fx.2 (backTo pos (starEach args env)) (backToKw pos (keywordEach kws env))) Q E s₂) E s₁) E s)
    (he : eval (.Call (.Attribute o name apos) args kws pos) env = (do
      let ov ← attributeBase o name env (eval o env)
      standAt apos.atName
      let (f, first) ← holding [ov] (getMethod ov name pl)
      callWith pos f first (backTo pos (starEach args env)) (backToKw pos (keywordEach kws env))) := by rfl) :
    _root_.PySem.wpAt M A c (eval (.Call (.Attribute o name apos) args kws pos) env) Q E s := by
  rw [he]
  refine _root_.PySem.wpAt_bind (_root_.PySem.wpAt_mono h (fun ov s₁ h₁ => _root_.PySem.wpAt_of_wpAny (wpAny_bind (wpAny_standAt (wpAny_bind (wpAny_holding (wpAny_mono h₁ (fun fx s₂ h₂ => ?_) fun _ _ x => x)))))) fun _ _ x => x)
  exact h₂
/-- a bound method called with keywords alone -/
theorem callWith_MKW0 {K : Frag} {q g : Addr} {self : Value} {first : List Value} {pos : Pos} {kws : List Keyword} {Q : Value → Shared → Prop} (hf : fnIn K g = true) (hall : (backToKw pos (keywordEach kws env)).all (·.1.isSome) = true)
    (h : wpAny M A (evalAll ((backToKw pos (keywordEach kws env)).map (·.2))) (fun ks s₂ => MethP K q g self s₂.heap ∧ wpAny M A (call (.ref q) (first ++ []) (((backToKw pos (keywordEach kws env)).filterMap (·.1)).zip ks)) Q E s₂) E s)
    (hplain : ((backTo pos (starEach [] env)).any (·.1) || (backToKw pos (keywordEach kws env)).any (·.1.isNone)) = false := by rfl) :
    wpAny M A (callWith pos (.ref q) first (backTo pos (starEach [] env)) (backToKw pos (keywordEach kws env))) Q E s :=
  callWith_of hplain (keeps_M hf) (evalArgs_kw2_nil hall h)
theorem callWith_MKW0' {K : Frag} {h₀ : Heap} {L : Addr} {news : List (Addr × Obj)} {q g : Addr} {self : Value} {first : List Value} {pos : Pos} {kws : List Keyword} {Q : Value → Shared → Prop} (_X : K.In h₀) (_N : News h₀ L s.heap news) (_q : (q, methodObj (.ref g) self) ∈ news) (hf : fnIn K g = true) (hall : (backToKw pos (keywordEach kws env)).all (·.1.isSome) = true)
    (h : wpAny M A (evalAll ((backToKw pos (keywordEach kws env)).map (·.2))) (fun ks s₂ => MethP K q g self s₂.heap ∧ wpAny M A (call (.ref q) (first ++ []) (((backToKw pos (keywordEach kws env)).filterMap (·.1)).zip ks)) Q E s₂) E s)
    (hplain : ((backTo pos (starEach [] env)).any (·.1) || (backToKw pos (keywordEach kws env)).any (·.1.isNone)) = false := by rfl) :
    wpAny M A (callWith pos (.ref q) first (backTo pos (starEach [] env)) (backToKw pos (keywordEach kws env))) Q E s := callWith_MKW0 hf hall h hplain
end
end Mine
end PSup

section PL1
namespace Mine
theorem fresh_L1 : True := by
  w_top off
  first | walk1 | exact True.intro

theorem isStr_inj {v : Value} {a b : Str} (ha : v.isStr a = true) (hb : v.isStr b = true) : a = b := by
  cases v <;> simp [Value.isStr] at ha hb
  rw [← ha, ← hb]

theorem getL_putL_self {name : Str} {hsh : Int} {tk : Tok} {v : Value} : ∀ es : List DictEntry, getL name (putL name hsh (.str name tk) v es) = some (some v) := by
  intro es
  have key : (putL name hsh (.str name tk) v es).find? (·.key.isStr name) = some ⟨((putL name hsh (.str name tk) v es).find? (·.key.isStr name)).elim 0 (·.hash), ((putL name hsh (.str name tk) v es).find? (·.key.isStr name)).elim .none (·.key), v⟩ := by
    induction es with
    | nil => simp [putL, Value.isStr]
    | cons e r ih =>
      unfold putL
      by_cases h : e.key.isStr name = true
      · simp [h]
      · simp only [h]
        simp only [Bool.false_eq_true, if_false, List.find?_cons, h]
        exact ih
  unfold getL
  rw [key]

theorem find_putL_ne {name name' : Str} {hsh : Int} {tk : Tok} {v : Value} (hn : name ≠ name') : ∀ es : List DictEntry,
    (putL name hsh (.str name tk) v es).find? (·.key.isStr name') = es.find? (·.key.isStr name') ∧ (putL name hsh (.str name tk) v es).any (·.refKey) = es.any (·.refKey) := by
  intro es
  induction es with
  | nil =>
    have h1 : (Value.str name tk).isStr name' = false := by simp [Value.isStr]; exact hn
    exact ⟨by simp [putL, h1], by simp [putL, DictEntry.refKey]⟩
  | cons e r ih =>
    unfold putL
    by_cases h : e.key.isStr name = true
    · have h2 : e.key.isStr name' = false := by
        cases h3 : e.key.isStr name' with
        | false => rfl
        | true => exact absurd (isStr_inj h h3) hn
      refine ⟨?_, ?_⟩
      · simp [h, h2]
      · simp [h, DictEntry.refKey]
    · simp only [h]
      simp only [Bool.false_eq_true, if_false, List.find?_cons, List.any_cons]
      rw [ih.1, ih.2]
      exact ⟨rfl, rfl⟩
theorem getL_putL_ne {name name' : Str} {hsh : Int} {tk : Tok} {v : Value} {es : List DictEntry} (hn : name ≠ name') : getL name' (putL name hsh (.str name tk) v es) = getL name' es := by
  unfold getL
  rw [(find_putL_ne hn es).1, (find_putL_ne hn es).2]

theorem length_putL {name : Str} {hsh : Int} {key v : Value} : ∀ es : List DictEntry, (putL name hsh key v es).length = if (getL name es).any (·.isSome) then es.length else es.length + 1 := by
  intro es
  have : (putL name hsh key v es).length = if (es.find? (·.key.isStr name)).isSome then es.length else es.length + 1 := by
    induction es with
    | nil => simp [putL]
    | cons e r ih =>
      unfold putL
      by_cases h : e.key.isStr name = true
      · simp [h]
      · simp only [h]
        simp only [Bool.false_eq_true, if_false, List.find?_cons, h, List.length_cons]
        rw [ih]
        split <;> rfl
  rw [this]
  unfold getL
  cases h : es.find? (·.key.isStr name) with
  | some e => simp
  | none => simp; split <;> simp

def optV : Option Int → Tok → Value
  | none, _ => .none
  | some i, t => .int i t

structure Ctl where
  unit : Int
  rcv : Int
  stash : Int
  mx : Addr
  win : Int
  fly : Int
  ss : Option Int

structure CtlD (es : List DictEntry) (c : Ctl) : Prop where
  len : es.length ≤ 5 + (if getL "bytes_in_flight" es = some none then 0 else 1) + (if getL "ssthresh" es = some none then 0 else 1)
  unit : ∃ t, getL "_max_datagram_size" es = some (some (.int c.unit t))
  rcv : ∃ t, getL "_congestion_recovery_start_time" es = some (some (.int c.rcv t))
  stash : ∃ t, getL "_congestion_stash" es = some (some (.int c.stash t))
  mx : getL "_rtt_monitor" es = some (some (.ref c.mx))
  win : ∃ t, getL "congestion_window" es = some (some (.int c.win t))
  fly : (∃ t, getL "bytes_in_flight" es = some (some (.int c.fly t))) ∨ (getL "bytes_in_flight" es = some none ∧ c.fly = 0)
  ss : (∃ t, getL "ssthresh" es = some (some (optV c.ss t))) ∨ (getL "ssthresh" es = some none ∧ c.ss = none)
  m1 : getL "on_packet_acked" es = some none
  m2 : getL "on_packet_sent" es = some none
  m3 : getL "on_packets_expired" es = some none
  m4 : getL "on_packets_lost" es = some none
  m5 : getL "on_persistent_congestion" es = some none
  m6 : getL "on_rtt_measurement" es = some none

section
variable {es : List DictEntry} {c : Ctl} {hsh : Int} {tk t : Tok} {i : Int}
theorem CtlD.put_win (D : CtlD es c) : CtlD (putL "congestion_window" hsh (.str "congestion_window" tk) (.int i t) es) { c with win := i } := by
  obtain ⟨a1, a2, a3, a4, a5, a6, a7, a8, m1, m2, m3, m4, m5, m6⟩ := D
  have e : ∃ v, getL "congestion_window" es = some (some v) := by first | exact ⟨_, a2.choose_spec⟩ | exact ⟨_, a3.choose_spec⟩ | exact ⟨_, a4.choose_spec⟩ | exact ⟨_, a6.choose_spec⟩
  obtain ⟨v, e⟩ := e
  constructor
  · rw [length_putL, getL_putL_ne (by decide), getL_putL_ne (by decide), e]; simpa using a1
  all_goals first | exact ⟨_, getL_putL_self _⟩ | (rw [getL_putL_ne (by decide)]; assumption)
theorem CtlD.put_rcv (D : CtlD es c) : CtlD (putL "_congestion_recovery_start_time" hsh (.str "_congestion_recovery_start_time" tk) (.int i t) es) { c with rcv := i } := by
  obtain ⟨a1, a2, a3, a4, a5, a6, a7, a8, m1, m2, m3, m4, m5, m6⟩ := D
  have e : ∃ v, getL "_congestion_recovery_start_time" es = some (some v) := by first | exact ⟨_, a2.choose_spec⟩ | exact ⟨_, a3.choose_spec⟩ | exact ⟨_, a4.choose_spec⟩ | exact ⟨_, a6.choose_spec⟩
  obtain ⟨v, e⟩ := e
  constructor
  · rw [length_putL, getL_putL_ne (by decide), getL_putL_ne (by decide), e]; simpa using a1
  all_goals first | exact ⟨_, getL_putL_self _⟩ | (rw [getL_putL_ne (by decide)]; assumption)
theorem CtlD.put_stash (D : CtlD es c) : CtlD (putL "_congestion_stash" hsh (.str "_congestion_stash" tk) (.int i t) es) { c with stash := i } := by
  obtain ⟨a1, a2, a3, a4, a5, a6, a7, a8, m1, m2, m3, m4, m5, m6⟩ := D
  have e : ∃ v, getL "_congestion_stash" es = some (some v) := by first | exact ⟨_, a2.choose_spec⟩ | exact ⟨_, a3.choose_spec⟩ | exact ⟨_, a4.choose_spec⟩ | exact ⟨_, a6.choose_spec⟩
  obtain ⟨v, e⟩ := e
  constructor
  · rw [length_putL, getL_putL_ne (by decide), getL_putL_ne (by decide), e]; simpa using a1
  all_goals first | exact ⟨_, getL_putL_self _⟩ | (rw [getL_putL_ne (by decide)]; assumption)
theorem CtlD.put_fly (D : CtlD es c) : CtlD (putL "bytes_in_flight" hsh (.str "bytes_in_flight" tk) (.int i t) es) { c with fly := i } := by
  obtain ⟨a1, a2, a3, a4, a5, a6, a7, a8, m1, m2, m3, m4, m5, m6⟩ := D
  constructor
  · rw [length_putL, getL_putL_self, getL_putL_ne (name' := "ssthresh") (by decide)]
    have hA : (∃ v, getL "bytes_in_flight" es = some (some v)) ∨ getL "bytes_in_flight" es = some none := by
      rcases a7 with ⟨t, h⟩ | ⟨h, _⟩
      · exact .inl ⟨_, h⟩
      · exact .inr h
    rcases hA with ⟨v, h⟩ | h
    · rw [h] at a1 ⊢; simpa using a1
    · rw [h] at a1 ⊢
      simp only [Option.any_some, Option.isSome_none, Bool.false_eq_true, if_false, if_true, reduceCtorEq, Option.some.injEq] at a1 ⊢
      split at a1 <;> simp_all <;> omega
  all_goals first | exact .inl ⟨_, getL_putL_self _⟩ | (rw [getL_putL_ne (by decide)]; assumption)
theorem CtlD.put_ss (D : CtlD es c) : CtlD (putL "ssthresh" hsh (.str "ssthresh" tk) (.int i t) es) { c with ss := some i } := by
  obtain ⟨a1, a2, a3, a4, a5, a6, a7, a8, m1, m2, m3, m4, m5, m6⟩ := D
  constructor
  · rw [length_putL, getL_putL_self, getL_putL_ne (name' := "bytes_in_flight") (by decide)]
    have hA : (∃ v, getL "ssthresh" es = some (some v)) ∨ getL "ssthresh" es = some none := by
      rcases a8 with ⟨t, h⟩ | ⟨h, _⟩
      · exact .inl ⟨_, h⟩
      · exact .inr h
    rcases hA with ⟨v, h⟩ | h
    · rw [h] at a1 ⊢; simpa using a1
    · rw [h] at a1 ⊢
      simp only [Option.any_some, Option.isSome_none, Bool.false_eq_true, if_false, if_true, reduceCtorEq, Option.some.injEq] at a1 ⊢
      split at a1 <;> simp_all <;> omega
  all_goals first | exact .inl ⟨_, getL_putL_self _⟩ | (rw [getL_putL_ne (by decide)]; assumption)
end
theorem CtlD.len_le {es : List DictEntry} {c : Ctl} (D : CtlD es c) : es.length ≤ 7 := by
  have := D.len
  split at this <;> split at this <;> omega
theorem putL_len_le {name : Str} {hsh : Int} {key v : Value} {es : List DictEntry} {n : Nat} (h : es.length ≤ n) : (putL name hsh key v es).length ≤ n + 1 := by
  rw [length_putL]; split <;> omega
end Mine
end PL1

section PL2
namespace Mine
theorem fresh_L2 : True := by
  w_top off
  first | walk1 | exact True.intro
theorem fill (w : World) : Mine.hd.heap_1 w.params = Mine.hd.heap_1 w.params ∧ PySem.Challenge.rw_ix0003_01.row.prog = PySem.Challenge.rw_ix0003_01.row.prog := by
  k_fill
  exact ⟨rfl, rfl⟩

theorem in_sub {R news : List (Addr × Obj)} {p : Addr × Obj} (h : ∀ q ∈ R, q ∈ news) (hp : p ∈ R) : p ∈ news := h p hp

section
variable {prog : Program} {w : World} {A : Around} {E : Value → Shared → Prop} {s : Shared} {h₀ : Heap} {L cx cd : Addr} {m : Str → Option Value} {others : List (Addr × Obj)} {es : List DictEntry} {n : Nat} {c : Ctl} {expr : Bool}
  {Q : Value → Shared → Prop}

theorem ctl_own {name : Str} {v : Value} {attr : Option Value} (F : Fr h₀ L s.heap m) (X : (Mine.hd.heap_1 w.params).In h₀) (N : News h₀ L s.heap ((cx, instObj 129 cd) :: (cd, dictOf es n) :: others))
    (hg : plainGet (Mine.hd.heap_1 w.params) 129 name = true) (ha : findIn (Mine.hd.heap_1 w.params) (.ref 129) name = some attr) (hn : noGet (Mine.hd.heap_1 w.params) attr = true)
    (hl : getL name es = some (some v)) (hv : handedIn v = true) (h : Q v { s with toks := s.toks + 1 }) :
    wpAny (model prog w) A (getAttr (.ref cx) name expr) Q E s :=
  get_own F X (InstAt.of_news N (.head _) (.tail _ (.head _))) hg (by k_is) ha hn hl hv h

theorem ctl_get_unit (F : Fr h₀ L s.heap m) (X : (Mine.hd.heap_1 w.params).In h₀) (N : News h₀ L s.heap ((cx, instObj 129 cd) :: (cd, dictOf es n) :: others)) (D : CtlD es c)
    (h : ∀ t, Q (.int c.unit t) { s with toks := s.toks + 1 }) : wpAny (model prog w) A (getAttr (.ref cx) "_max_datagram_size" expr) Q E s := by
  obtain ⟨t, e⟩ := D.unit
  exact ctl_own F X N (by k_is) (by k_is) (by k_is) e rfl (h t)
theorem ctl_get_rcv (F : Fr h₀ L s.heap m) (X : (Mine.hd.heap_1 w.params).In h₀) (N : News h₀ L s.heap ((cx, instObj 129 cd) :: (cd, dictOf es n) :: others)) (D : CtlD es c)
    (h : ∀ t, Q (.int c.rcv t) { s with toks := s.toks + 1 }) : wpAny (model prog w) A (getAttr (.ref cx) "_congestion_recovery_start_time" expr) Q E s := by
  obtain ⟨t, e⟩ := D.rcv
  exact ctl_own F X N (by k_is) (by k_is) (by k_is) e rfl (h t)
theorem ctl_get_stash (F : Fr h₀ L s.heap m) (X : (Mine.hd.heap_1 w.params).In h₀) (N : News h₀ L s.heap ((cx, instObj 129 cd) :: (cd, dictOf es n) :: others)) (D : CtlD es c)
    (h : ∀ t, Q (.int c.stash t) { s with toks := s.toks + 1 }) : wpAny (model prog w) A (getAttr (.ref cx) "_congestion_stash" expr) Q E s := by
  obtain ⟨t, e⟩ := D.stash
  exact ctl_own F X N (by k_is) (by k_is) (by k_is) e rfl (h t)
theorem ctl_get_mx (F : Fr h₀ L s.heap m) (X : (Mine.hd.heap_1 w.params).In h₀) (N : News h₀ L s.heap ((cx, instObj 129 cd) :: (cd, dictOf es n) :: others)) (D : CtlD es c)
    (h : Q (.ref c.mx) { s with toks := s.toks + 1 }) : wpAny (model prog w) A (getAttr (.ref cx) "_rtt_monitor" expr) Q E s :=
  ctl_own F X N (by k_is) (by k_is) (by k_is) D.mx rfl h
theorem ctl_get_win (F : Fr h₀ L s.heap m) (X : (Mine.hd.heap_1 w.params).In h₀) (N : News h₀ L s.heap ((cx, instObj 129 cd) :: (cd, dictOf es n) :: others)) (D : CtlD es c)
    (h : ∀ t, Q (.int c.win t) { s with toks := s.toks + 1 }) : wpAny (model prog w) A (getAttr (.ref cx) "congestion_window" expr) Q E s := by
  obtain ⟨t, e⟩ := D.win
  exact ctl_own F X N (by k_is) (by k_is) (by k_is) e rfl (h t)
theorem ctl_get_fly (F : Fr h₀ L s.heap m) (X : (Mine.hd.heap_1 w.params).In h₀) (N : News h₀ L s.heap ((cx, instObj 129 cd) :: (cd, dictOf es n) :: others)) (D : CtlD es c)
    (h : ∀ t, Q (.int c.fly t) { s with toks := s.toks + 1 }) : wpAny (model prog w) A (getAttr (.ref cx) "bytes_in_flight" expr) Q E s := by
  rcases D.fly with ⟨t, e⟩ | ⟨e, z⟩
  · exact ctl_own F X N (by k_is) (by k_is) (by k_is) e rfl (h t)
  · rw [z] at h
    exact get_cls F X (InstAt.of_news N (.head _) (.tail _ (.head _))) (by k_is) (by k_is) (by k_is) (by k_is) rfl (by decide +kernel) e (h _)
theorem ctl_get_ss (F : Fr h₀ L s.heap m) (X : (Mine.hd.heap_1 w.params).In h₀) (N : News h₀ L s.heap ((cx, instObj 129 cd) :: (cd, dictOf es n) :: others)) (D : CtlD es c)
    (h : ∀ t, Q (optV c.ss t) { s with toks := s.toks + 1 }) : wpAny (model prog w) A (getAttr (.ref cx) "ssthresh" expr) Q E s := by
  rcases D.ss with ⟨t, e⟩ | ⟨e, z⟩
  · exact ctl_own F X N (by k_is) (by k_is) (by k_is) e (by cases c.ss <;> rfl) (h t)
  · rw [z] at h
    exact get_cls F X (InstAt.of_news N (.head _) (.tail _ (.head _))) (by k_is) (by k_is) (by k_is) (by k_is) rfl (by decide +kernel) e (h 0)
end

section
variable {prog : Program} {w : World} {A : Around} {E : Value → Shared → Prop} {s : Shared} {h₀ : Heap} {L cx cd : Addr} {m : Str → Option Value} {others : List (Addr × Obj)} {es : List DictEntry} {n : Nat} {c : Ctl} {expr : Bool}
  {Q : Unit → Shared → Prop}
theorem ctl_set {name : Str} {v : Value} (F : Fr h₀ L s.heap m) (X : (Mine.hd.heap_1 w.params).In h₀) (N : News h₀ L s.heap ((cx, instObj 129 cd) :: (cd, dictOf es n) :: others)) (D : CtlD es c)
    (h1 : cx ≠ cd) (h2 : ∀ p ∈ others, p.1 ≠ cd) (ht : takerIn (Mine.hd.heap_1 w.params) 129 name = some none) (hl : (getL name es).isSome = true)
    (h : ∀ h' hsh tk n', Fr h₀ L h' m → News h₀ L h' ((cx, instObj 129 cd) :: (cd, dictOf (putL name hsh (.str name tk) v es) n') :: others) → Q () { s with heap := h', toks := s.toks + 2 }) :
    wpAny (model prog w) A (setAttr (.ref cx) name v) Q E s :=
  set_dict F X N (InstAt.of_news N (.head _) (.tail _ (.head _))) rfl (by k_is) (by k_is) ht (by k_is) hl rfl (.tail h1 (.head h2)) (Nat.le_trans (putL_len_le D.len_le) (by decide))
    fun h' F' N' => h h' _ _ _ F' N'
theorem ctl_set_win {i : Int} {t : Tok} (F : Fr h₀ L s.heap m) (X : (Mine.hd.heap_1 w.params).In h₀) (N : News h₀ L s.heap ((cx, instObj 129 cd) :: (cd, dictOf es n) :: others)) (D : CtlD es c)
    (h1 : cx ≠ cd) (h2 : ∀ p ∈ others, p.1 ≠ cd)
    (h : ∀ h' es' n', Fr h₀ L h' m → News h₀ L h' ((cx, instObj 129 cd) :: (cd, dictOf es' n') :: others) → CtlD es' { c with win := i } → Q () { s with heap := h', toks := s.toks + 2 }) :
    wpAny (model prog w) A (setAttr (.ref cx) "congestion_window" (.int i t)) Q E s :=
  ctl_set F X N D h1 h2 (by k_is) (by obtain ⟨t, e⟩ := D.win; rw [e]; rfl) fun h' _ _ _ F' N' => h h' _ _ F' N' D.put_win
theorem ctl_set_rcv {i : Int} {t : Tok} (F : Fr h₀ L s.heap m) (X : (Mine.hd.heap_1 w.params).In h₀) (N : News h₀ L s.heap ((cx, instObj 129 cd) :: (cd, dictOf es n) :: others)) (D : CtlD es c)
    (h1 : cx ≠ cd) (h2 : ∀ p ∈ others, p.1 ≠ cd)
    (h : ∀ h' es' n', Fr h₀ L h' m → News h₀ L h' ((cx, instObj 129 cd) :: (cd, dictOf es' n') :: others) → CtlD es' { c with rcv := i } → Q () { s with heap := h', toks := s.toks + 2 }) :
    wpAny (model prog w) A (setAttr (.ref cx) "_congestion_recovery_start_time" (.int i t)) Q E s :=
  ctl_set F X N D h1 h2 (by k_is) (by obtain ⟨t, e⟩ := D.rcv; rw [e]; rfl) fun h' _ _ _ F' N' => h h' _ _ F' N' D.put_rcv
theorem ctl_set_stash {i : Int} {t : Tok} (F : Fr h₀ L s.heap m) (X : (Mine.hd.heap_1 w.params).In h₀) (N : News h₀ L s.heap ((cx, instObj 129 cd) :: (cd, dictOf es n) :: others)) (D : CtlD es c)
    (h1 : cx ≠ cd) (h2 : ∀ p ∈ others, p.1 ≠ cd)
    (h : ∀ h' es' n', Fr h₀ L h' m → News h₀ L h' ((cx, instObj 129 cd) :: (cd, dictOf es' n') :: others) → CtlD es' { c with stash := i } → Q () { s with heap := h', toks := s.toks + 2 }) :
    wpAny (model prog w) A (setAttr (.ref cx) "_congestion_stash" (.int i t)) Q E s :=
  ctl_set F X N D h1 h2 (by k_is) (by obtain ⟨t, e⟩ := D.stash; rw [e]; rfl) fun h' _ _ _ F' N' => h h' _ _ F' N' D.put_stash
theorem ctl_set_fly {i : Int} {t : Tok} (F : Fr h₀ L s.heap m) (X : (Mine.hd.heap_1 w.params).In h₀) (N : News h₀ L s.heap ((cx, instObj 129 cd) :: (cd, dictOf es n) :: others)) (D : CtlD es c)
    (h1 : cx ≠ cd) (h2 : ∀ p ∈ others, p.1 ≠ cd)
    (h : ∀ h' es' n', Fr h₀ L h' m → News h₀ L h' ((cx, instObj 129 cd) :: (cd, dictOf es' n') :: others) → CtlD es' { c with fly := i } → Q () { s with heap := h', toks := s.toks + 2 }) :
    wpAny (model prog w) A (setAttr (.ref cx) "bytes_in_flight" (.int i t)) Q E s :=
  ctl_set F X N D h1 h2 (by k_is) (by rcases D.fly with ⟨t, e⟩ | ⟨e, _⟩ <;> rw [e] <;> rfl) fun h' _ _ _ F' N' => h h' _ _ F' N' D.put_fly
theorem ctl_set_ss {i : Int} {t : Tok} (F : Fr h₀ L s.heap m) (X : (Mine.hd.heap_1 w.params).In h₀) (N : News h₀ L s.heap ((cx, instObj 129 cd) :: (cd, dictOf es n) :: others)) (D : CtlD es c)
    (h1 : cx ≠ cd) (h2 : ∀ p ∈ others, p.1 ≠ cd)
    (h : ∀ h' es' n', Fr h₀ L h' m → News h₀ L h' ((cx, instObj 129 cd) :: (cd, dictOf es' n') :: others) → CtlD es' { c with ss := some i } → Q () { s with heap := h', toks := s.toks + 2 }) :
    wpAny (model prog w) A (setAttr (.ref cx) "ssthresh" (.int i t)) Q E s :=
  ctl_set F X N D h1 h2 (by k_is) (by rcases D.ss with ⟨t, e⟩ | ⟨e, _⟩ <;> rw [e] <;> rfl) fun h' _ _ _ F' N' => h h' _ _ F' N' D.put_ss
end

/-- a packet: number, time, octets -/
structure Pk where
  at_ : Addr
  num : Int
  time : Int
  len : Int
def PkIn (R : List (Addr × Obj)) (p : Pk) : Prop :=
  ∃ pd es n t1 t2 t3, (p.at_, instObj 177 pd) ∈ R ∧ (pd, dictOf es n) ∈ R ∧ getL "packet_number" es = some (some (.int p.num t1)) ∧ getL "sent_time" es = some (some (.int p.time t2)) ∧ getL "sent_bytes" es = some (some (.int p.len t3))
theorem PkIn.mono {R R' : List (Addr × Obj)} {p : Pk} (h : PkIn R p) (hs : ∀ q ∈ R, q ∈ R') : PkIn R' p := by
  obtain ⟨pd, es, n, t1, t2, t3, a, b, r⟩ := h
  exact ⟨pd, es, n, t1, t2, t3, hs _ a, hs _ b, r⟩
section
variable {prog : Program} {w : World} {A : Around} {E : Value → Shared → Prop} {s : Shared} {h₀ : Heap} {L : Addr} {m : Str → Option Value} {R news : List (Addr × Obj)} {p : Pk} {expr : Bool}
  {Q : Value → Shared → Prop}
theorem pk_get_num (F : Fr h₀ L s.heap m) (X : (Mine.hd.heap_1 w.params).In h₀) (N : News h₀ L s.heap news) (P : PkIn R p) (hs : ∀ q ∈ R, q ∈ news)
    (h : ∀ t, Q (.int p.num t) { s with toks := s.toks + 1 }) : wpAny (model prog w) A (getAttr (.ref p.at_) "packet_number" expr) Q E s := by
  obtain ⟨pd, es, n, t1, t2, t3, a, b, e1, e2, e3⟩ := P
  exact get_own F X (InstAt.of_news N (hs _ a) (hs _ b)) (by k_is) (by k_is) (by k_is) (by k_is) e1 rfl (h _)
theorem pk_get_time (F : Fr h₀ L s.heap m) (X : (Mine.hd.heap_1 w.params).In h₀) (N : News h₀ L s.heap news) (P : PkIn R p) (hs : ∀ q ∈ R, q ∈ news)
    (h : ∀ t, Q (.int p.time t) { s with toks := s.toks + 1 }) : wpAny (model prog w) A (getAttr (.ref p.at_) "sent_time" expr) Q E s := by
  obtain ⟨pd, es, n, t1, t2, t3, a, b, e1, e2, e3⟩ := P
  exact get_own F X (InstAt.of_news N (hs _ a) (hs _ b)) (by k_is) (by k_is) (by k_is) (by k_is) e2 rfl (h _)
theorem pk_get_len (F : Fr h₀ L s.heap m) (X : (Mine.hd.heap_1 w.params).In h₀) (N : News h₀ L s.heap news) (P : PkIn R p) (hs : ∀ q ∈ R, q ∈ news)
    (h : ∀ t, Q (.int p.len t) { s with toks := s.toks + 1 }) : wpAny (model prog w) A (getAttr (.ref p.at_) "sent_bytes" expr) Q E s := by
  obtain ⟨pd, es, n, t1, t2, t3, a, b, e1, e2, e3⟩ := P
  exact get_own F X (InstAt.of_news N (hs _ a) (hs _ b)) (by k_is) (by k_is) (by k_is) (by k_is) e3 rfl (h _)
end
end Mine
end PL2

section PL3
namespace Mine
theorem fresh_L3 : True := by
  w_top off
  first | walk1 | exact True.intro
section
variable {prog : Program} {w : World} {A : Around} {E : Value → Shared → Prop} {s : Shared} {env : Env} {h₀ : Heap} {x : Str} {body : List Stmt} {Q : Flow → Shared → Prop}
/-- a turn's end: the loop's own iterator stands, the invariant holds of the rest -/
def LpEnd (h₀ : Heap) (L : Addr) (J : (Str → Option Value) → List (Addr × Obj) → Prop) (I : Addr) (io : Obj) (s₁ s₂ : Shared) : Prop :=
  ∃ h' tk m' nx, s₂ = { s₁ with heap := h', toks := tk } ∧ Fr h₀ L h' m' ∧ News h₀ L h' ((I, io) :: nx) ∧ (∀ p ∈ nx, p.1 ≠ I) ∧ J m' nx
def LpPost (h₀ : Heap) (L : Addr) (J : (Str → Option Value) → List (Addr × Obj) → Prop) (I : Addr) (io : Obj) (s₁ : Shared) (Q : Flow → Shared → Prop) (f : Flow) (s₂ : Shared) : Prop :=
  match f with
  | .ret v => Q (.ret v) s₂
  | .brk => Q .next s₂
  | _ => LpEnd h₀ L J I io s₁ s₂
theorem lp_walk {I : Addr} {fp : List Addr} {n : Nat} {P : Nat → Value → Prop} {St : Nat → Heap → Prop} {m₀ : Str → Option Value} {news : List (Addr × Obj)} (J : Nat → (Str → Option Value) → List (Addr × Obj) → Prop)
    (W : Walks prog w A I fp [I] n P St) (hLf : env.locals ∉ fp) (hwr : h₀.get? I = none) (hnw : ∀ p ∈ news, p.1 ≠ I) (hfp : ∀ b ∈ fp, b = I ∨ ∃ lo, ∀ i m nx, J i m nx → (b, lo) ∈ nx) (hIf : I ∈ fp)
    (hSt : ∀ i h, St i h → ∃ o, h.get? I = some o) (hst : St 0 s.heap) (F : Fr h₀ env.locals s.heap m₀) (N : News h₀ env.locals s.heap news) (hj : J 0 m₀ news)
    (turn : ∀ i v m₁ nx h tk io, i < n → P i v → (∀ p ∈ nx, p.1 ≠ I) → J i m₁ nx → Fr h₀ env.locals h (fun y => if y = x then some v else m₁ y) → News h₀ env.locals h ((I, io) :: nx) →
      wpAny (model prog w) A (execs body env) (LpPost h₀ env.locals (J (i + 1)) I io { s with heap := h, toks := tk } Q) E { s with heap := h, toks := tk })
    (done : ∀ m₁ nx h tk, J n m₁ nx → Fr h₀ env.locals h m₁ → News h₀ env.locals h nx → Q .next { s with heap := h, toks := tk }) :
    LoopAtV prog w A h₀ env x body Q E (.ref I) s := by
  refine ⟨I, fp, [I], n, P, St, m₀, news, J, rfl, W, hLf, (fun b hb => by rw [List.mem_singleton.mp hb]; exact hwr), (fun p hp h => hnw p hp (List.mem_singleton.mp h)), hst, F, N, hj, ?_, ?_⟩
  · rintro i v m₁ nx s₁ own ⟨hh', tk', rfl⟩ hin hP hJ hoff hown hget hall hst₁ F₁ N₁
    obtain ⟨io, hio⟩ := hSt _ _ hst₁
    have hI : (I, io) ∈ own := hall I hIf hwr io hio
    have hne : ∀ p ∈ nx, p.1 ≠ I := fun p hp e => hoff p hp (List.mem_singleton.mpr e)
    have N₂ : News h₀ env.locals hh' ((I, io) :: nx) := fun p hp => by
      rcases List.mem_cons.mp hp with rfl | hp
      · exact N₁ _ (List.mem_append_left _ hI)
      · exact N₁ _ (List.mem_append_right _ hp)
    refine wpAny_mono (turn i v m₁ nx hh' tk' io hin hP hne hJ F₁ N₂) (fun f s₂ p => ?_) fun _ _ e => e
    have fin : LpEnd h₀ env.locals (J (i + 1)) I io { s with heap := hh', toks := tk' } s₂ → LoopStepU h₀ env.locals [I] own (J (i + 1)) { s with heap := hh', toks := tk' } .next s₂ := by
      rintro ⟨h', tk, m', nx', e, F', N', hn, hJ'⟩
      refine ⟨rfl, h', tk, m', nx', e, F', fun p hp => ?_, fun p hp h => hn p hp (List.mem_singleton.mp h), hJ'⟩
      rcases List.mem_append.mp hp with hp | hp
      · rcases hfp _ (hown p hp) with e1 | ⟨lo, hlo⟩
        · have e2 := hget p hp
          have e3 : p = (I, io) := by
            obtain ⟨p1, p2⟩ := p
            dsimp only at e1 e2
            subst e1
            rw [hio] at e2
            rw [Option.some.inj e2]
          rw [e3]
          exact N' _ (.head _)
        · have e2 := hget p hp
          have e3 : p = (p.1, lo) := by
            have h3 := (N₂ _ (List.mem_cons_of_mem _ (hlo _ _ _ hJ))).1
            dsimp only at h3 e2
            rw [e2] at h3
            obtain ⟨p1, p2⟩ := p
            dsimp only at h3
            rw [Option.some.inj h3]
          rw [e3]
          exact N' _ (List.mem_cons_of_mem _ (hlo _ _ _ hJ'))
      · exact N' p (List.mem_cons_of_mem _ hp)
    cases f with
    | ret v => exact p
    | brk => exact p
    | next => exact fin p
    | cont => exact fin p
  · rintro h' tk m' news' F' N' _ hJ
    exact done m' news' h' tk hJ F' N'

/-- a loop over a list of any values that stands in the ledger all the while -/
theorem lp_list {l : Addr} {vs : List Value} {nn : Nat} {m₀ : Str → Option Value} {news : List (Addr × Obj)} (J : Nat → (Str → Option Value) → List (Addr × Obj) → Prop)
    (hh : A.handled = none) (hl : ∀ i m nx, J i m nx → (l, listOf vs.toArray nn) ∈ nx) (F : Fr h₀ env.locals s.heap m₀) (N : News h₀ env.locals s.heap news) (hj : J 0 m₀ news)
    (turn : ∀ i v m₁ nx h tk I io, vs[i]? = some v → (∀ p ∈ nx, p.1 ≠ I) → J i m₁ nx → Fr h₀ env.locals h (fun y => if y = x then some v else m₁ y) → News h₀ env.locals h ((I, io) :: nx) →
      wpAny (model prog w) A (execs body env) (LpPost h₀ env.locals (J (i + 1)) I io { s with heap := h, toks := tk } Q) E { s with heap := h, toks := tk })
    (done : ∀ m₁ nx h tk, J vs.length m₁ nx → Fr h₀ env.locals h m₁ → News h₀ env.locals h nx → Q .next { s with heap := h, toks := tk }) :
    wpAny (model prog w) A (pyIter (.ref l)) (fun it s₂ => LoopAtV prog w A h₀ env x body Q E it s₂) E s := by
  have hol : s.heap.get? l = some (listOf vs.toArray nn) := (N _ (hl _ _ _ hj)).1
  have hls : s.heap.IsList l vs.toArray := ⟨_, hol, rfl, nn, rfl⟩
  have hne : l ≠ s.heap.objs.size := Nat.ne_of_lt (Heap.lt_size hol)
  refine wpAny_pyIter_list hls ?_
  have W := Walks.list (prog := prog) (w := w) hh s.heap.objs.size l hne vs.toArray
  have hlen : vs.toArray.size = vs.length := by simp
  rw [hlen] at W
  refine lp_walk (s := { s with heap := _ }) J W ?_ (next_is_new F) ?_ ?_ (by simp) ?_ ⟨⟨_, Heap.get?_push_size _ rfl, rfl, rfl⟩, hls.at fun o e => Heap.get?_push_of_some _ e⟩ (F.push _) (fun p hp => ⟨Heap.get?_push_of_some _ (N p hp).1, (N p hp).2⟩) hj ?_ ?_
  · intro hm
    rcases List.mem_cons.mp hm with e | hm
    · exact absurd F.ns.lt (e ▸ Nat.lt_irrefl _)
    · exact (N _ (hl _ _ _ hj)).2.1 ((List.mem_singleton.mp hm).symm)
  · intro p hp hI
    exact absurd (Heap.lt_size (N p hp).1) (hI ▸ Nat.lt_irrefl _)
  · intro b hb
    rcases List.mem_cons.mp hb with e | hb
    · exact .inl e
    · rw [List.mem_singleton.mp hb]; exact .inr ⟨_, hl⟩
  · rintro i h ⟨⟨o, ho, _⟩, _⟩
    exact ⟨o, ho⟩
  · intro i v m₁ nx h tk io hi hP hn hJ F₁ N₁
    exact turn i v m₁ nx h tk _ io (by simpa using hP) hn hJ F₁ N₁
  · intro m₁ nx h tk hJ F₁ N₁
    exact done m₁ nx h tk hJ F₁ N₁

/-- a loop over a range -/
theorem lp_range {r : Addr} {a₀ b₀ c₀ : Int} {t₀ u₀ v₀ : Tok} {n : Nat} {m₀ : Str → Option Value} {news : List (Addr × Obj)} (J : Nat → (Str → Option Value) → List (Addr × Obj) → Prop)
    (hh : A.handled = none) (hr : IsRange s.heap r a₀ b₀ c₀ t₀ u₀ v₀) (hsmall : Builtin.Range.small a₀ b₀ c₀ = true) (hn : Builtin.Range.rangeSize a₀ b₀ c₀ = (n : Int)) (F : Fr h₀ env.locals s.heap m₀) (N : News h₀ env.locals s.heap news) (hj : J 0 m₀ news)
    (turn : ∀ i t m₁ nx h tk I io, i < n → (∀ p ∈ nx, p.1 ≠ I) → J i m₁ nx → Fr h₀ env.locals h (fun y => if y = x then some (.int (a₀ + (i : Int) * c₀) t) else m₁ y) → News h₀ env.locals h ((I, io) :: nx) →
      wpAny (model prog w) A (execs body env) (LpPost h₀ env.locals (J (i + 1)) I io { s with heap := h, toks := tk } Q) E { s with heap := h, toks := tk })
    (done : ∀ m₁ nx h tk, J n m₁ nx → Fr h₀ env.locals h m₁ → News h₀ env.locals h nx → Q .next { s with heap := h, toks := tk }) :
    wpAny (model prog w) A (pyIter (.ref r)) (fun it s₂ => LoopAtV prog w A h₀ env x body Q E it s₂) E s := by
  refine wpAny_pyIter_range hr hsmall ?_
  have W : Walks prog w A s.heap.objs.size [s.heap.objs.size] [s.heap.objs.size] n (fun i v => i < n ∧ ∃ t, v = .int (a₀ + i * c₀) t)
      (fun i h => IsRangeIter h s.heap.objs.size (a₀ + (i : Nat) * c₀) ((n : Int) - (i : Nat)) c₀) := (Walks.range hh _ a₀ c₀ n).bound
  refine lp_walk (s := { s with heap := _ }) J W ?_ (next_is_new F) ?_ ?_ (by simp) ?_ (by show IsRangeIter _ _ _ _ _; rw [hn]; simpa using Heap.get?_push_size _ rfl) (F.push _) (fun p hp => ⟨Heap.get?_push_of_some _ (N p hp).1, (N p hp).2⟩) hj ?_ ?_
  · intro hm
    exact absurd F.ns.lt ((List.mem_singleton.mp hm) ▸ Nat.lt_irrefl _)
  · intro p hp hI
    exact absurd (Heap.lt_size (N p hp).1) (hI ▸ Nat.lt_irrefl _)
  · intro b hb
    exact .inl (List.mem_singleton.mp hb)
  · intro i h ho
    exact ⟨_, ho⟩
  · rintro i v m₁ nx h tk io hi ⟨_, t, rfl⟩ hn hJ F₁ N₁
    exact turn i t m₁ nx h tk _ io hi hn hJ F₁ N₁
  · intro m₁ nx h tk hJ F₁ N₁
    exact done m₁ nx h tk hJ F₁ N₁
end

section
theorem pin_fr {h₀ : Heap} {L : Addr} {h : Heap} {m : Str → Option Value} (ps : List (Str × Value)) (h1 : ∀ p ∈ ps, m p.1 = some p.2) (F : Fr h₀ L h m) : Fr h₀ L h (kstB m ps) := by
  have em : kstB m ps = m := by
    funext y
    exact kstB_eq h1 fun _ => rfl
  rw [em]
  exact F
theorem pin_frx {h₀ : Heap} {L : Addr} {h : Heap} {m : Str → Option Value} {x : Str} {v : Value} (ps : List (Str × Value)) (h1 : ∀ p ∈ ps, m p.1 = some p.2) (F : Fr h₀ L h (fun y => if y = x then some v else m y)) : Fr h₀ L h (fun y => if y = x then some v else kstB m ps y) := by
  have em : kstB m ps = m := by
    funext y
    exact kstB_eq h1 fun _ => rfl
  rw [em]
  exact F
end

theorem news_rot3 {h₀ : Heap} {L : Addr} {h : Heap} {a b c : Addr × Obj} {r : List (Addr × Obj)} (N : News h₀ L h (a :: b :: c :: r)) : News h₀ L h (b :: c :: a :: r) := by
  refine kst_newsOf N fun q hq => ?_
  simp only [List.mem_cons] at hq ⊢
  rcases hq with e | e | e | e <;> simp [e]
theorem news_rot3' {h₀ : Heap} {L : Addr} {h : Heap} {a b c : Addr × Obj} {r : List (Addr × Obj)} (N : News h₀ L h (b :: c :: a :: r)) : News h₀ L h (a :: b :: c :: r) := by
  refine kst_newsOf N fun q hq => ?_
  simp only [List.mem_cons] at hq ⊢
  rcases hq with e | e | e | e <;> simp [e]
theorem news_swap {h₀ : Heap} {L : Addr} {h : Heap} {a b : Addr × Obj} {r : List (Addr × Obj)} (N : News h₀ L h (a :: b :: r)) : News h₀ L h (b :: a :: r) := by
  refine kst_newsOf N fun q hq => ?_
  simp only [List.mem_cons] at hq ⊢
  rcases hq with e | e | e <;> simp [e]

section
variable {prog : Program} {w : World} {A : Around} {E : Value → Shared → Prop} {s : Shared} {env : Env} {h₀ : Heap} {x : Str} {body : List Stmt} {Q : Flow → Shared → Prop}
/-- a turn's end where one object's dict alone has turned -/
def FcEnd (h₀ : Heap) (L a C d : Addr) (I : Addr) (io : Obj) (rest : List (Addr × Obj)) (ps : List (Str × Value)) (P : List DictEntry → Prop) (s₁ s₂ : Shared) : Prop :=
  ∃ h' tk m' es' n', s₂ = { s₁ with heap := h', toks := tk } ∧ Fr h₀ L h' m' ∧ News h₀ L h' ((a, instObj C d) :: (d, dictOf es' n') :: (I, io) :: rest) ∧ (∀ p ∈ ps, m' p.1 = some p.2) ∧ P es'
def FcPost (h₀ : Heap) (L a C d : Addr) (I : Addr) (io : Obj) (rest : List (Addr × Obj)) (ps : List (Str × Value)) (P : List DictEntry → Prop) (s₁ : Shared) (Q : Flow → Shared → Prop) (f : Flow) (s₂ : Shared) : Prop :=
  match f with
  | .ret v => Q (.ret v) s₂
  | .brk => Q .next s₂
  | _ => FcEnd h₀ L a C d I io rest ps P s₁ s₂
theorem FcEnd.intro {L a C d I tk : Nat} {io : Obj} {rest : List (Addr × Obj)} {ps : List (Str × Value)} {P : List DictEntry → Prop} {s₁ : Shared} {h' : Heap} {m' : Str → Option Value} {es' : List DictEntry} {n' : Nat}
    (F : Fr h₀ L h' m') (N : News h₀ L h' ((a, instObj C d) :: (d, dictOf es' n') :: (I, io) :: rest)) (hp : ∀ p ∈ ps, m' p.1 = some p.2) (hP : P es') : FcEnd h₀ L a C d I io rest ps P s₁ { s₁ with heap := h', toks := tk } :=
  ⟨h', tk, m', es', n', rfl, F, N, hp, hP⟩
theorem lp_focus {a C d l : Addr} {vs : List Value} {nn n : Nat} {m₀ : Str → Option Value} {es : List DictEntry} {rest : List (Addr × Obj)} (P : Nat → List DictEntry → Prop) (ps : List (Str × Value))
    (hh : A.handled = none) (F : Fr h₀ env.locals s.heap m₀) (N : News h₀ env.locals s.heap ((a, instObj C d) :: (d, dictOf es n) :: rest)) (hl : (l, listOf vs.toArray nn) ∈ rest) (hps : ∀ p ∈ ps, m₀ p.1 = some p.2) (hP : P 0 es)
    (turn : ∀ i v m₁ es₁ n₁ h tk I io, vs[i]? = some v → P i es₁ → a ≠ I → d ≠ I → (∀ p ∈ rest, p.1 ≠ I) → Fr h₀ env.locals h (fun y => if y = x then some v else kstB m₁ ps y) → News h₀ env.locals h ((a, instObj C d) :: (d, dictOf es₁ n₁) :: (I, io) :: rest) →
      wpAny (model prog w) A (execs body env) (FcPost h₀ env.locals a C d I io rest ps (P (i + 1)) { s with heap := h, toks := tk } Q) E { s with heap := h, toks := tk })
    (done : ∀ m₁ es₁ n₁ h tk, P vs.length es₁ → Fr h₀ env.locals h (kstB m₁ ps) → News h₀ env.locals h ((a, instObj C d) :: (d, dictOf es₁ n₁) :: rest) → Q .next { s with heap := h, toks := tk }) :
    wpAny (model prog w) A (pyIter (.ref l)) (fun it s₂ => LoopAtV prog w A h₀ env x body Q E it s₂) E s := by
  refine lp_list (nn := nn) (vs := vs) (fun i m nx => (∀ p ∈ ps, m p.1 = some p.2) ∧ ∃ es n, nx = (a, instObj C d) :: (d, dictOf es n) :: rest ∧ P i es) hh ?_ F N ⟨hps, es, n, rfl, hP⟩ ?_ ?_
  · rintro i m nx ⟨_, es, n, rfl, _⟩
    exact List.mem_cons_of_mem _ (List.mem_cons_of_mem _ hl)
  · rintro i v m₁ nx h tk I io hv hI ⟨hm, es₁, n₁, rfl, hP₁⟩ F₁ N₁
    refine wpAny_mono (turn i v m₁ es₁ n₁ h tk I io hv hP₁ (hI _ (.head _)) (hI _ (List.mem_cons_of_mem _ (.head _))) (fun p hp => hI p (List.mem_cons_of_mem _ (List.mem_cons_of_mem _ hp))) (pin_frx ps hm F₁) (news_rot3 N₁)) (fun f s₂ p => ?_) fun _ _ e => e
    have fin : FcEnd h₀ env.locals a C d I io rest ps (P (i + 1)) { s with heap := h, toks := tk } s₂ → LpEnd h₀ env.locals (fun m nx => (∀ p ∈ ps, m p.1 = some p.2) ∧ ∃ es n, nx = (a, instObj C d) :: (d, dictOf es n) :: rest ∧ P (i + 1) es) I io { s with heap := h, toks := tk } s₂ := by
      rintro ⟨h', tk', m', es', n', e, F', N', hp, hP'⟩
      refine ⟨h', tk', m', (a, instObj C d) :: (d, dictOf es' n') :: rest, e, F', news_rot3' N', ?_, hp, es', n', rfl, hP'⟩
      intro q hq
      rcases List.mem_cons.mp hq with rfl | hq
      · exact hI _ (.head _)
      · rcases List.mem_cons.mp hq with rfl | hq
        · exact hI (d, dictOf es₁ n₁) (List.mem_cons_of_mem _ (.head _))
        · exact hI q (List.mem_cons_of_mem _ (List.mem_cons_of_mem _ hq))
    cases f with
    | ret v => exact p
    | brk => exact p
    | next => exact fin p
    | cont => exact fin p
  · rintro m₁ nx h tk ⟨hm, es₁, n₁, rfl, hP₁⟩ F₁ N₁
    exact done m₁ es₁ n₁ h tk hP₁ (pin_fr ps hm F₁) N₁
end

section
variable {prog : Program} {w : World} {A : Around} {E : Value → Shared → Prop} {Q : Flow → Shared → Prop} {s : Shared} {env : Env} {h₀ : Heap} {L : Addr}
/-- a while's turn's end -/
def WlEnd (h₀ : Heap) (L : Addr) (s : Shared) (J : Nat → (Str → Option Value) → List (Addr × Obj) → Prop) (n : Nat) (s₃ : Shared) : Prop :=
  ∃ h' tk m₂ news₂ n', s₃ = { s with heap := h', toks := tk } ∧ Fr h₀ L h' m₂ ∧ News h₀ L h' news₂ ∧ n' < n ∧ J n' m₂ news₂
def WlPost (h₀ : Heap) (L : Addr) (s : Shared) (J : Nat → (Str → Option Value) → List (Addr × Obj) → Prop) (Q : Flow → Shared → Prop) (n : Nat) (f : Flow) (s₃ : Shared) : Prop :=
  match f with
  | .brk => Q .next s₃
  | .ret v => Q (.ret v) s₃
  | _ => WlEnd h₀ L s J n s₃
theorem lp_while {test : PySem.Expr} {body : List Stmt} {pos : Pos} {m : Str → Option Value} {news : List (Addr × Obj)} (J : Nat → (Str → Option Value) → List (Addr × Obj) → Prop) {n₀ : Nat}
    (F : Fr h₀ L s.heap m) (N : News h₀ L s.heap news) (hJ : J n₀ m news)
    (turn : ∀ n m₁ news₁ h₁ tk₁, Fr h₀ L h₁ m₁ → News h₀ L h₁ news₁ → J n m₁ news₁ →
      wpAny (model prog w) A (isTrue test env (eval test env)) (fun b s₂ =>
        if b = true then wpAny (model prog w) A (execs body env) (WlPost h₀ L s J Q n) E s₂ else Q .next s₂) E { s with heap := h₁, toks := tk₁ })
    (hE : PassesOwn (model prog w) A env E := by passes_own) :
    wpAny (model prog w) A (exec (.While test body [] pos) env) Q E s := by
  refine While_inv2 J F N hJ (fun n m₁ news₁ h₁ tk₁ F₁ N₁ J₁ => ?_) hE
  refine wpAny_mono (turn n m₁ news₁ h₁ tk₁ F₁ N₁ J₁) (fun b s₂ h₂ => ?_) fun _ _ e => e
  cases b with
  | false => exact h₂
  | true =>
    simp only [if_true] at h₂ ⊢
    refine wpAny_mono h₂ (fun f s₃ h₃ => ?_) fun _ _ e => e
    cases f <;> exact h₃
end
end Mine
end PL3

section PL4
namespace Mine
theorem fresh_L4 : True := by
  w_top off
  first | walk1 | exact True.intro
theorem fillL4 (w : World) : Mine.hd.heap_1 w.params = Mine.hd.heap_1 w.params ∧ PySem.Challenge.rw_ix0003_01.row.prog = PySem.Challenge.rw_ix0003_01.row.prog := by
  k_fill
  exact ⟨rfl, rfl⟩
structure Mon where
  inc : Int
  ready : Bool
  fmin : Option Int
  idx : Int
  smax : Option Int
  smin : Option Int
  stime : Int
  sl : Addr
structure MonD (es : List DictEntry) (q : Mon) : Prop where
  len : es.length ≤ 10
  inc : ∃ t, getL "_increases" es = some (some (.int q.inc t))
  ready : getL "_ready" es = some (some (.bool q.ready))
  size : ∃ t, getL "_size" es = some (some (.int 5 t))
  fmin : ∃ t, getL "_filtered_min" es = some (some (optV q.fmin t))
  idx : ∃ t, getL "_sample_idx" es = some (some (.int q.idx t))
  smax : ∃ t, getL "_sample_max" es = some (some (optV q.smax t))
  smin : ∃ t, getL "_sample_min" es = some (some (optV q.smin t))
  stime : ∃ t, getL "_sample_time" es = some (some (.int q.stime t))
  sl : getL "_samples" es = some (some (.ref q.sl))
  m1 : getL "add_rtt" es = some none
  m2 : getL "is_rtt_increasing" es = some none
section
variable {es : List DictEntry} {q : Mon} {hsh : Int} {tk t : Tok} {i : Int} {b : Bool}
theorem MonD.has_inc (D : MonD es q) : ∃ v, getL "_increases" es = some (some v) := by
  first | exact ⟨_, D.inc⟩ | exact ⟨_, D.inc.choose_spec⟩
theorem MonD.put_inc (D : MonD es q) : MonD (putL "_increases" hsh (.str "_increases" tk) (.int i t) es) { q with inc := i } := by
  obtain ⟨v, e⟩ := D.has_inc
  obtain ⟨a1, a2, a3, a4, a5, a6, a7, a8, a9, a10, m1, m2⟩ := D
  constructor
  · rw [length_putL, e]; simpa using a1
  all_goals first | exact ⟨_, getL_putL_self _⟩ | exact getL_putL_self _ | (rw [getL_putL_ne (by decide)]; assumption)
theorem MonD.has_fmin (D : MonD es q) : ∃ v, getL "_filtered_min" es = some (some v) := by
  first | exact ⟨_, D.fmin⟩ | exact ⟨_, D.fmin.choose_spec⟩
theorem MonD.put_fmin (D : MonD es q) : MonD (putL "_filtered_min" hsh (.str "_filtered_min" tk) (.int i t) es) { q with fmin := some i } := by
  obtain ⟨v, e⟩ := D.has_fmin
  obtain ⟨a1, a2, a3, a4, a5, a6, a7, a8, a9, a10, m1, m2⟩ := D
  constructor
  · rw [length_putL, e]; simpa using a1
  all_goals first | exact ⟨_, getL_putL_self _⟩ | exact getL_putL_self _ | (rw [getL_putL_ne (by decide)]; assumption)
theorem MonD.has_idx (D : MonD es q) : ∃ v, getL "_sample_idx" es = some (some v) := by
  first | exact ⟨_, D.idx⟩ | exact ⟨_, D.idx.choose_spec⟩
theorem MonD.put_idx (D : MonD es q) : MonD (putL "_sample_idx" hsh (.str "_sample_idx" tk) (.int i t) es) { q with idx := i } := by
  obtain ⟨v, e⟩ := D.has_idx
  obtain ⟨a1, a2, a3, a4, a5, a6, a7, a8, a9, a10, m1, m2⟩ := D
  constructor
  · rw [length_putL, e]; simpa using a1
  all_goals first | exact ⟨_, getL_putL_self _⟩ | exact getL_putL_self _ | (rw [getL_putL_ne (by decide)]; assumption)
theorem MonD.has_smax (D : MonD es q) : ∃ v, getL "_sample_max" es = some (some v) := by
  first | exact ⟨_, D.smax⟩ | exact ⟨_, D.smax.choose_spec⟩
theorem MonD.put_smax (D : MonD es q) : MonD (putL "_sample_max" hsh (.str "_sample_max" tk) (.int i t) es) { q with smax := some i } := by
  obtain ⟨v, e⟩ := D.has_smax
  obtain ⟨a1, a2, a3, a4, a5, a6, a7, a8, a9, a10, m1, m2⟩ := D
  constructor
  · rw [length_putL, e]; simpa using a1
  all_goals first | exact ⟨_, getL_putL_self _⟩ | exact getL_putL_self _ | (rw [getL_putL_ne (by decide)]; assumption)
theorem MonD.has_smin (D : MonD es q) : ∃ v, getL "_sample_min" es = some (some v) := by
  first | exact ⟨_, D.smin⟩ | exact ⟨_, D.smin.choose_spec⟩
theorem MonD.put_smin (D : MonD es q) : MonD (putL "_sample_min" hsh (.str "_sample_min" tk) (.int i t) es) { q with smin := some i } := by
  obtain ⟨v, e⟩ := D.has_smin
  obtain ⟨a1, a2, a3, a4, a5, a6, a7, a8, a9, a10, m1, m2⟩ := D
  constructor
  · rw [length_putL, e]; simpa using a1
  all_goals first | exact ⟨_, getL_putL_self _⟩ | exact getL_putL_self _ | (rw [getL_putL_ne (by decide)]; assumption)
theorem MonD.has_stime (D : MonD es q) : ∃ v, getL "_sample_time" es = some (some v) := by
  first | exact ⟨_, D.stime⟩ | exact ⟨_, D.stime.choose_spec⟩
theorem MonD.put_stime (D : MonD es q) : MonD (putL "_sample_time" hsh (.str "_sample_time" tk) (.int i t) es) { q with stime := i } := by
  obtain ⟨v, e⟩ := D.has_stime
  obtain ⟨a1, a2, a3, a4, a5, a6, a7, a8, a9, a10, m1, m2⟩ := D
  constructor
  · rw [length_putL, e]; simpa using a1
  all_goals first | exact ⟨_, getL_putL_self _⟩ | exact getL_putL_self _ | (rw [getL_putL_ne (by decide)]; assumption)
theorem MonD.has_ready (D : MonD es q) : ∃ v, getL "_ready" es = some (some v) := by
  first | exact ⟨_, D.ready⟩ | exact ⟨_, D.ready.choose_spec⟩
theorem MonD.put_ready (D : MonD es q) : MonD (putL "_ready" hsh (.str "_ready" tk) (.bool b) es) { q with ready := b } := by
  obtain ⟨v, e⟩ := D.has_ready
  obtain ⟨a1, a2, a3, a4, a5, a6, a7, a8, a9, a10, m1, m2⟩ := D
  constructor
  · rw [length_putL, e]; simpa using a1
  all_goals first | exact ⟨_, getL_putL_self _⟩ | exact getL_putL_self _ | (rw [getL_putL_ne (by decide)]; assumption)
end
section
variable {prog : Program} {w : World} {A : Around} {E : Value → Shared → Prop} {s : Shared} {h₀ : Heap} {L mx md : Addr} {m : Str → Option Value} {others : List (Addr × Obj)} {es : List DictEntry} {n : Nat} {q : Mon} {expr : Bool}
section
variable {Q : Value → Shared → Prop}
theorem mon_own {name : Str} {v : Value} {attr : Option Value} (F : Fr h₀ L s.heap m) (X : (Mine.hd.heap_1 w.params).In h₀) (N : News h₀ L s.heap ((mx, instObj 64 md) :: (md, dictOf es n) :: others))
    (hg : plainGet (Mine.hd.heap_1 w.params) 64 name = true) (ha : findIn (Mine.hd.heap_1 w.params) (.ref 64) name = some attr) (hn : noGet (Mine.hd.heap_1 w.params) attr = true)
    (hl : getL name es = some (some v)) (hv : handedIn v = true) (h : Q v { s with toks := s.toks + 1 }) :
    wpAny (model prog w) A (getAttr (.ref mx) name expr) Q E s :=
  get_own F X (InstAt.of_news N (.head _) (.tail _ (.head _))) hg (by k_is) ha hn hl hv h
theorem mon_get_inc (F : Fr h₀ L s.heap m) (X : (Mine.hd.heap_1 w.params).In h₀) (N : News h₀ L s.heap ((mx, instObj 64 md) :: (md, dictOf es n) :: others)) (D : MonD es q)
    (h : ∀ t, Q (.int q.inc t) { s with toks := s.toks + 1 }) : wpAny (model prog w) A (getAttr (.ref mx) "_increases" expr) Q E s := by
  obtain ⟨t, e⟩ := D.inc
  exact mon_own F X N (by k_is) (by k_is) (by k_is) e rfl (h t)
theorem mon_get_idx (F : Fr h₀ L s.heap m) (X : (Mine.hd.heap_1 w.params).In h₀) (N : News h₀ L s.heap ((mx, instObj 64 md) :: (md, dictOf es n) :: others)) (D : MonD es q)
    (h : ∀ t, Q (.int q.idx t) { s with toks := s.toks + 1 }) : wpAny (model prog w) A (getAttr (.ref mx) "_sample_idx" expr) Q E s := by
  obtain ⟨t, e⟩ := D.idx
  exact mon_own F X N (by k_is) (by k_is) (by k_is) e rfl (h t)
theorem mon_get_stime (F : Fr h₀ L s.heap m) (X : (Mine.hd.heap_1 w.params).In h₀) (N : News h₀ L s.heap ((mx, instObj 64 md) :: (md, dictOf es n) :: others)) (D : MonD es q)
    (h : ∀ t, Q (.int q.stime t) { s with toks := s.toks + 1 }) : wpAny (model prog w) A (getAttr (.ref mx) "_sample_time" expr) Q E s := by
  obtain ⟨t, e⟩ := D.stime
  exact mon_own F X N (by k_is) (by k_is) (by k_is) e rfl (h t)
theorem mon_get_size (F : Fr h₀ L s.heap m) (X : (Mine.hd.heap_1 w.params).In h₀) (N : News h₀ L s.heap ((mx, instObj 64 md) :: (md, dictOf es n) :: others)) (D : MonD es q)
    (h : ∀ t, Q (.int 5 t) { s with toks := s.toks + 1 }) : wpAny (model prog w) A (getAttr (.ref mx) "_size" expr) Q E s := by
  obtain ⟨t, e⟩ := D.size
  exact mon_own F X N (by k_is) (by k_is) (by k_is) e rfl (h t)
theorem mon_get_fmin (F : Fr h₀ L s.heap m) (X : (Mine.hd.heap_1 w.params).In h₀) (N : News h₀ L s.heap ((mx, instObj 64 md) :: (md, dictOf es n) :: others)) (D : MonD es q)
    (h : ∀ t, Q (optV q.fmin t) { s with toks := s.toks + 1 }) : wpAny (model prog w) A (getAttr (.ref mx) "_filtered_min" expr) Q E s := by
  obtain ⟨t, e⟩ := D.fmin
  exact mon_own F X N (by k_is) (by k_is) (by k_is) e (by cases q.fmin <;> rfl) (h t)
theorem mon_get_smax (F : Fr h₀ L s.heap m) (X : (Mine.hd.heap_1 w.params).In h₀) (N : News h₀ L s.heap ((mx, instObj 64 md) :: (md, dictOf es n) :: others)) (D : MonD es q)
    (h : ∀ t, Q (optV q.smax t) { s with toks := s.toks + 1 }) : wpAny (model prog w) A (getAttr (.ref mx) "_sample_max" expr) Q E s := by
  obtain ⟨t, e⟩ := D.smax
  exact mon_own F X N (by k_is) (by k_is) (by k_is) e (by cases q.smax <;> rfl) (h t)
theorem mon_get_smin (F : Fr h₀ L s.heap m) (X : (Mine.hd.heap_1 w.params).In h₀) (N : News h₀ L s.heap ((mx, instObj 64 md) :: (md, dictOf es n) :: others)) (D : MonD es q)
    (h : ∀ t, Q (optV q.smin t) { s with toks := s.toks + 1 }) : wpAny (model prog w) A (getAttr (.ref mx) "_sample_min" expr) Q E s := by
  obtain ⟨t, e⟩ := D.smin
  exact mon_own F X N (by k_is) (by k_is) (by k_is) e (by cases q.smin <;> rfl) (h t)
theorem mon_get_ready (F : Fr h₀ L s.heap m) (X : (Mine.hd.heap_1 w.params).In h₀) (N : News h₀ L s.heap ((mx, instObj 64 md) :: (md, dictOf es n) :: others)) (D : MonD es q)
    (h : Q (.bool q.ready) { s with toks := s.toks + 1 }) : wpAny (model prog w) A (getAttr (.ref mx) "_ready" expr) Q E s :=
  mon_own F X N (by k_is) (by k_is) (by k_is) D.ready rfl h
theorem mon_get_sl (F : Fr h₀ L s.heap m) (X : (Mine.hd.heap_1 w.params).In h₀) (N : News h₀ L s.heap ((mx, instObj 64 md) :: (md, dictOf es n) :: others)) (D : MonD es q)
    (h : Q (.ref q.sl) { s with toks := s.toks + 1 }) : wpAny (model prog w) A (getAttr (.ref mx) "_samples" expr) Q E s :=
  mon_own F X N (by k_is) (by k_is) (by k_is) D.sl rfl h
end
section
variable {Q : Unit → Shared → Prop}
theorem mon_set {name : Str} {v : Value} (F : Fr h₀ L s.heap m) (X : (Mine.hd.heap_1 w.params).In h₀) (N : News h₀ L s.heap ((mx, instObj 64 md) :: (md, dictOf es n) :: others)) (D : MonD es q)
    (h1 : mx ≠ md) (h2 : ∀ p ∈ others, p.1 ≠ md) (ht : takerIn (Mine.hd.heap_1 w.params) 64 name = some none) (hl : (getL name es).isSome = true)
    (h : ∀ h' hsh tk n', Fr h₀ L h' m → News h₀ L h' ((mx, instObj 64 md) :: (md, dictOf (putL name hsh (.str name tk) v es) n') :: others) → Q () { s with heap := h', toks := s.toks + 2 }) :
    wpAny (model prog w) A (setAttr (.ref mx) name v) Q E s :=
  set_dict F X N (InstAt.of_news N (.head _) (.tail _ (.head _))) rfl (by k_is) (by k_is) ht (by k_is) hl rfl (.tail h1 (.head h2)) (Nat.le_trans (putL_len_le D.len) (by decide))
    fun h' F' N' => h h' _ _ _ F' N'
theorem mon_set_inc {i : Int} {t : Tok} (F : Fr h₀ L s.heap m) (X : (Mine.hd.heap_1 w.params).In h₀) (N : News h₀ L s.heap ((mx, instObj 64 md) :: (md, dictOf es n) :: others)) (D : MonD es q)
    (h1 : mx ≠ md) (h2 : ∀ p ∈ others, p.1 ≠ md)
    (h : ∀ h' es' n', Fr h₀ L h' m → News h₀ L h' ((mx, instObj 64 md) :: (md, dictOf es' n') :: others) → MonD es' { q with inc := i } → Q () { s with heap := h', toks := s.toks + 2 }) :
    wpAny (model prog w) A (setAttr (.ref mx) "_increases" (.int i t)) Q E s :=
  mon_set F X N D h1 h2 (by k_is) (by obtain ⟨v, e⟩ := D.has_inc; rw [e]; rfl) fun h' _ _ _ F' N' => h h' _ _ F' N' D.put_inc
theorem mon_set_fmin {i : Int} {t : Tok} (F : Fr h₀ L s.heap m) (X : (Mine.hd.heap_1 w.params).In h₀) (N : News h₀ L s.heap ((mx, instObj 64 md) :: (md, dictOf es n) :: others)) (D : MonD es q)
    (h1 : mx ≠ md) (h2 : ∀ p ∈ others, p.1 ≠ md)
    (h : ∀ h' es' n', Fr h₀ L h' m → News h₀ L h' ((mx, instObj 64 md) :: (md, dictOf es' n') :: others) → MonD es' { q with fmin := some i } → Q () { s with heap := h', toks := s.toks + 2 }) :
    wpAny (model prog w) A (setAttr (.ref mx) "_filtered_min" (.int i t)) Q E s :=
  mon_set F X N D h1 h2 (by k_is) (by obtain ⟨v, e⟩ := D.has_fmin; rw [e]; rfl) fun h' _ _ _ F' N' => h h' _ _ F' N' D.put_fmin
theorem mon_set_idx {i : Int} {t : Tok} (F : Fr h₀ L s.heap m) (X : (Mine.hd.heap_1 w.params).In h₀) (N : News h₀ L s.heap ((mx, instObj 64 md) :: (md, dictOf es n) :: others)) (D : MonD es q)
    (h1 : mx ≠ md) (h2 : ∀ p ∈ others, p.1 ≠ md)
    (h : ∀ h' es' n', Fr h₀ L h' m → News h₀ L h' ((mx, instObj 64 md) :: (md, dictOf es' n') :: others) → MonD es' { q with idx := i } → Q () { s with heap := h', toks := s.toks + 2 }) :
    wpAny (model prog w) A (setAttr (.ref mx) "_sample_idx" (.int i t)) Q E s :=
  mon_set F X N D h1 h2 (by k_is) (by obtain ⟨v, e⟩ := D.has_idx; rw [e]; rfl) fun h' _ _ _ F' N' => h h' _ _ F' N' D.put_idx
theorem mon_set_smax {i : Int} {t : Tok} (F : Fr h₀ L s.heap m) (X : (Mine.hd.heap_1 w.params).In h₀) (N : News h₀ L s.heap ((mx, instObj 64 md) :: (md, dictOf es n) :: others)) (D : MonD es q)
    (h1 : mx ≠ md) (h2 : ∀ p ∈ others, p.1 ≠ md)
    (h : ∀ h' es' n', Fr h₀ L h' m → News h₀ L h' ((mx, instObj 64 md) :: (md, dictOf es' n') :: others) → MonD es' { q with smax := some i } → Q () { s with heap := h', toks := s.toks + 2 }) :
    wpAny (model prog w) A (setAttr (.ref mx) "_sample_max" (.int i t)) Q E s :=
  mon_set F X N D h1 h2 (by k_is) (by obtain ⟨v, e⟩ := D.has_smax; rw [e]; rfl) fun h' _ _ _ F' N' => h h' _ _ F' N' D.put_smax
theorem mon_set_smin {i : Int} {t : Tok} (F : Fr h₀ L s.heap m) (X : (Mine.hd.heap_1 w.params).In h₀) (N : News h₀ L s.heap ((mx, instObj 64 md) :: (md, dictOf es n) :: others)) (D : MonD es q)
    (h1 : mx ≠ md) (h2 : ∀ p ∈ others, p.1 ≠ md)
    (h : ∀ h' es' n', Fr h₀ L h' m → News h₀ L h' ((mx, instObj 64 md) :: (md, dictOf es' n') :: others) → MonD es' { q with smin := some i } → Q () { s with heap := h', toks := s.toks + 2 }) :
    wpAny (model prog w) A (setAttr (.ref mx) "_sample_min" (.int i t)) Q E s :=
  mon_set F X N D h1 h2 (by k_is) (by obtain ⟨v, e⟩ := D.has_smin; rw [e]; rfl) fun h' _ _ _ F' N' => h h' _ _ F' N' D.put_smin
theorem mon_set_stime {i : Int} {t : Tok} (F : Fr h₀ L s.heap m) (X : (Mine.hd.heap_1 w.params).In h₀) (N : News h₀ L s.heap ((mx, instObj 64 md) :: (md, dictOf es n) :: others)) (D : MonD es q)
    (h1 : mx ≠ md) (h2 : ∀ p ∈ others, p.1 ≠ md)
    (h : ∀ h' es' n', Fr h₀ L h' m → News h₀ L h' ((mx, instObj 64 md) :: (md, dictOf es' n') :: others) → MonD es' { q with stime := i } → Q () { s with heap := h', toks := s.toks + 2 }) :
    wpAny (model prog w) A (setAttr (.ref mx) "_sample_time" (.int i t)) Q E s :=
  mon_set F X N D h1 h2 (by k_is) (by obtain ⟨v, e⟩ := D.has_stime; rw [e]; rfl) fun h' _ _ _ F' N' => h h' _ _ F' N' D.put_stime
theorem mon_set_ready {b : Bool} (F : Fr h₀ L s.heap m) (X : (Mine.hd.heap_1 w.params).In h₀) (N : News h₀ L s.heap ((mx, instObj 64 md) :: (md, dictOf es n) :: others)) (D : MonD es q)
    (h1 : mx ≠ md) (h2 : ∀ p ∈ others, p.1 ≠ md)
    (h : ∀ h' es' n', Fr h₀ L h' m → News h₀ L h' ((mx, instObj 64 md) :: (md, dictOf es' n') :: others) → MonD es' { q with ready := b } → Q () { s with heap := h', toks := s.toks + 2 }) :
    wpAny (model prog w) A (setAttr (.ref mx) "_ready" (.bool b)) Q E s :=
  mon_set F X N D h1 h2 (by k_is) (by obtain ⟨v, e⟩ := D.has_ready; rw [e]; rfl) fun h' _ _ _ F' N' => h h' _ _ F' N' D.put_ready
end
end
end Mine
end PL4

section PL5
namespace Mine
theorem fresh_L5 : True := by
  w_top off
  first | walk1 | exact True.intro
structure Wd where
  win : Int
  thr : Option Int
  rcv : Int
  rest : Int
  meas : Int
  tl : Addr
  floor : Option Int
  times : Int
def WKey (prog : Program) (w : World) (kvs : List (Str × Value)) (o : Obj) : Prop := o.IsDictOf (PySem.strKind prog w) kvs
structure WorldD (prog : Program) (w : World) (o : Obj) (v : Wd) (kvs : List (Str × Value)) : Prop where
  d : o.IsDictOf (PySem.strKind prog w) kvs
  len : kvs.length ≤ 8
  win : ∃ t, valueAt kvs "window" = some (.int v.win t)
  thr : ∃ t, valueAt kvs "threshold" = some (optV v.thr t)
  rcv : ∃ t, valueAt kvs "recovery" = some (.int v.rcv t)
  rest : ∃ t, valueAt kvs "rest" = some (.int v.rest t)
  meas : ∃ t, valueAt kvs "measured" = some (.int v.meas t)
  tl : valueAt kvs "trips" = some (.ref v.tl)
  floor : ∃ t, valueAt kvs "floor" = some (optV v.floor t)
  times : ∃ t, valueAt kvs "times" = some (.int v.times t)
theorem any_of_valueAt {kvs : List (Str × Value)} {k : Str} {x : Value} (h : valueAt kvs k = some x) : kvs.any (fun kv => kv.1 = k) = true := by
  have h2 := valueAt_isSome_eq_any kvs k
  rw [h] at h2
  exact h2.symm
theorem length_stored {kvs : List (Str × Value)} {k : Str} {x y : Value} (h : valueAt kvs k = some x) : (stored kvs k y).length = kvs.length := by
  unfold stored
  rw [if_pos (any_of_valueAt h), List.length_map]
theorem valueAt_stored_self {kvs : List (Str × Value)} {k : Str} {x y : Value} (h : valueAt kvs k = some x) : valueAt (stored kvs k y) k = some y := by
  have h1 := any_of_valueAt h
  unfold stored
  rw [if_pos h1]
  clear h
  induction kvs with
  | nil => simp at h1
  | cons p r ih =>
    unfold valueAt
    by_cases e : p.1 = k
    · simp [e]
    · have h2 : r.any (fun kv => kv.1 = k) = true := by simpa [e] using h1
      have := ih h2
      unfold valueAt at this
      simpa [e] using this
theorem valueAt_stored_ne {kvs : List (Str × Value)} {k k' : Str} {x y : Value} (h : valueAt kvs k = some x) (hn : k ≠ k') : valueAt (stored kvs k y) k' = valueAt kvs k' := by
  have h1 := any_of_valueAt h
  unfold stored
  rw [if_pos h1]
  clear h h1
  induction kvs with
  | nil => rfl
  | cons p r ih =>
    unfold valueAt at ih ⊢
    by_cases e : p.1 = k
    · have e2 : ¬ k = k' := hn
      simpa [e, e2] using ih
    · by_cases e2 : p.1 = k'
      · have e3 : ¬ k' = k := fun q => hn q.symm
        simp [e2, e3]
      · simpa [e, e2] using ih
section
variable {prog : Program} {w : World} {o o' : Obj} {v : Wd} {kvs : List (Str × Value)} {t : Tok} {i : Int}
theorem WorldD.put_win (D : WorldD prog w o v kvs) (h : o'.IsDictOf (PySem.strKind prog w) (stored kvs "window" (.int i t))) : WorldD prog w o' { v with win := i } (stored kvs "window" (.int i t)) := by
  obtain ⟨t0, e⟩ := D.win
  obtain ⟨a1, a2, a3, a4, a5, a6, a7, a8, a9, a10⟩ := D
  constructor
  · exact h
  · rw [length_stored e]; exact a2
  all_goals first | exact ⟨_, valueAt_stored_self e⟩ | (rw [valueAt_stored_ne e (by decide)]; assumption)
theorem WorldD.put_rcv (D : WorldD prog w o v kvs) (h : o'.IsDictOf (PySem.strKind prog w) (stored kvs "recovery" (.int i t))) : WorldD prog w o' { v with rcv := i } (stored kvs "recovery" (.int i t)) := by
  obtain ⟨t0, e⟩ := D.rcv
  obtain ⟨a1, a2, a3, a4, a5, a6, a7, a8, a9, a10⟩ := D
  constructor
  · exact h
  · rw [length_stored e]; exact a2
  all_goals first | exact ⟨_, valueAt_stored_self e⟩ | (rw [valueAt_stored_ne e (by decide)]; assumption)
theorem WorldD.put_rest (D : WorldD prog w o v kvs) (h : o'.IsDictOf (PySem.strKind prog w) (stored kvs "rest" (.int i t))) : WorldD prog w o' { v with rest := i } (stored kvs "rest" (.int i t)) := by
  obtain ⟨t0, e⟩ := D.rest
  obtain ⟨a1, a2, a3, a4, a5, a6, a7, a8, a9, a10⟩ := D
  constructor
  · exact h
  · rw [length_stored e]; exact a2
  all_goals first | exact ⟨_, valueAt_stored_self e⟩ | (rw [valueAt_stored_ne e (by decide)]; assumption)
theorem WorldD.put_meas (D : WorldD prog w o v kvs) (h : o'.IsDictOf (PySem.strKind prog w) (stored kvs "measured" (.int i t))) : WorldD prog w o' { v with meas := i } (stored kvs "measured" (.int i t)) := by
  obtain ⟨t0, e⟩ := D.meas
  obtain ⟨a1, a2, a3, a4, a5, a6, a7, a8, a9, a10⟩ := D
  constructor
  · exact h
  · rw [length_stored e]; exact a2
  all_goals first | exact ⟨_, valueAt_stored_self e⟩ | (rw [valueAt_stored_ne e (by decide)]; assumption)
theorem WorldD.put_times (D : WorldD prog w o v kvs) (h : o'.IsDictOf (PySem.strKind prog w) (stored kvs "times" (.int i t))) : WorldD prog w o' { v with times := i } (stored kvs "times" (.int i t)) := by
  obtain ⟨t0, e⟩ := D.times
  obtain ⟨a1, a2, a3, a4, a5, a6, a7, a8, a9, a10⟩ := D
  constructor
  · exact h
  · rw [length_stored e]; exact a2
  all_goals first | exact ⟨_, valueAt_stored_self e⟩ | (rw [valueAt_stored_ne e (by decide)]; assumption)
theorem WorldD.put_thr (D : WorldD prog w o v kvs) (h : o'.IsDictOf (PySem.strKind prog w) (stored kvs "threshold" (.int i t))) : WorldD prog w o' { v with thr := some i } (stored kvs "threshold" (.int i t)) := by
  obtain ⟨t0, e⟩ := D.thr
  obtain ⟨a1, a2, a3, a4, a5, a6, a7, a8, a9, a10⟩ := D
  constructor
  · exact h
  · rw [length_stored e]; exact a2
  all_goals first | exact ⟨_, valueAt_stored_self e⟩ | (rw [valueAt_stored_ne e (by decide)]; assumption)
theorem WorldD.put_floor (D : WorldD prog w o v kvs) (h : o'.IsDictOf (PySem.strKind prog w) (stored kvs "floor" (.int i t))) : WorldD prog w o' { v with floor := some i } (stored kvs "floor" (.int i t)) := by
  obtain ⟨t0, e⟩ := D.floor
  obtain ⟨a1, a2, a3, a4, a5, a6, a7, a8, a9, a10⟩ := D
  constructor
  · exact h
  · rw [length_stored e]; exact a2
  all_goals first | exact ⟨_, valueAt_stored_self e⟩ | (rw [valueAt_stored_ne e (by decide)]; assumption)
end
section
variable {prog : Program} {w : World} {A : Around} {E : Value → Shared → Prop} {s : Shared} {h₀ : Heap} {L wd : Addr} {m : Str → Option Value} {news others : List (Addr × Obj)} {o : Obj} {v : Wd} {kvs : List (Str × Value)}
section
variable {value slice : PySem.Expr} {tk : Tok} {Q : Value → Shared → Prop}
theorem w_get_win (N : News h₀ L s.heap news) (hp : (wd, o) ∈ news) (D : WorldD prog w o v kvs) (h : ∀ t, Q (.int v.win t) { s with toks := s.toks + 1 })
    (hs : subscripted slice false (.ref wd) (.str "window" tk) = operate [.ref wd, .str "window" tk] (getItem (.ref wd) (.str "window" tk)) := by with_unfolding_all rfl) (hg : ∀ r, letTemporaryGo value (.ref wd) r = pure () := by intro _; with_unfolding_all rfl) :
    wpAny (model prog w) A (subscriptTail value slice (.ref wd) (.str "window" tk)) Q E s := by
  obtain ⟨t, e⟩ := D.win
  exact kda_item (knd := PySem.strKind prog w) N hp D.d (strKind_is _ _ _ _) e (h t) hs hg
theorem w_get_rcv (N : News h₀ L s.heap news) (hp : (wd, o) ∈ news) (D : WorldD prog w o v kvs) (h : ∀ t, Q (.int v.rcv t) { s with toks := s.toks + 1 })
    (hs : subscripted slice false (.ref wd) (.str "recovery" tk) = operate [.ref wd, .str "recovery" tk] (getItem (.ref wd) (.str "recovery" tk)) := by with_unfolding_all rfl) (hg : ∀ r, letTemporaryGo value (.ref wd) r = pure () := by intro _; with_unfolding_all rfl) :
    wpAny (model prog w) A (subscriptTail value slice (.ref wd) (.str "recovery" tk)) Q E s := by
  obtain ⟨t, e⟩ := D.rcv
  exact kda_item (knd := PySem.strKind prog w) N hp D.d (strKind_is _ _ _ _) e (h t) hs hg
theorem w_get_rest (N : News h₀ L s.heap news) (hp : (wd, o) ∈ news) (D : WorldD prog w o v kvs) (h : ∀ t, Q (.int v.rest t) { s with toks := s.toks + 1 })
    (hs : subscripted slice false (.ref wd) (.str "rest" tk) = operate [.ref wd, .str "rest" tk] (getItem (.ref wd) (.str "rest" tk)) := by with_unfolding_all rfl) (hg : ∀ r, letTemporaryGo value (.ref wd) r = pure () := by intro _; with_unfolding_all rfl) :
    wpAny (model prog w) A (subscriptTail value slice (.ref wd) (.str "rest" tk)) Q E s := by
  obtain ⟨t, e⟩ := D.rest
  exact kda_item (knd := PySem.strKind prog w) N hp D.d (strKind_is _ _ _ _) e (h t) hs hg
theorem w_get_meas (N : News h₀ L s.heap news) (hp : (wd, o) ∈ news) (D : WorldD prog w o v kvs) (h : ∀ t, Q (.int v.meas t) { s with toks := s.toks + 1 })
    (hs : subscripted slice false (.ref wd) (.str "measured" tk) = operate [.ref wd, .str "measured" tk] (getItem (.ref wd) (.str "measured" tk)) := by with_unfolding_all rfl) (hg : ∀ r, letTemporaryGo value (.ref wd) r = pure () := by intro _; with_unfolding_all rfl) :
    wpAny (model prog w) A (subscriptTail value slice (.ref wd) (.str "measured" tk)) Q E s := by
  obtain ⟨t, e⟩ := D.meas
  exact kda_item (knd := PySem.strKind prog w) N hp D.d (strKind_is _ _ _ _) e (h t) hs hg
theorem w_get_times (N : News h₀ L s.heap news) (hp : (wd, o) ∈ news) (D : WorldD prog w o v kvs) (h : ∀ t, Q (.int v.times t) { s with toks := s.toks + 1 })
    (hs : subscripted slice false (.ref wd) (.str "times" tk) = operate [.ref wd, .str "times" tk] (getItem (.ref wd) (.str "times" tk)) := by with_unfolding_all rfl) (hg : ∀ r, letTemporaryGo value (.ref wd) r = pure () := by intro _; with_unfolding_all rfl) :
    wpAny (model prog w) A (subscriptTail value slice (.ref wd) (.str "times" tk)) Q E s := by
  obtain ⟨t, e⟩ := D.times
  exact kda_item (knd := PySem.strKind prog w) N hp D.d (strKind_is _ _ _ _) e (h t) hs hg
theorem w_get_thr (N : News h₀ L s.heap news) (hp : (wd, o) ∈ news) (D : WorldD prog w o v kvs) (h : ∀ t, Q (optV v.thr t) { s with toks := s.toks + 1 })
    (hs : subscripted slice false (.ref wd) (.str "threshold" tk) = operate [.ref wd, .str "threshold" tk] (getItem (.ref wd) (.str "threshold" tk)) := by with_unfolding_all rfl) (hg : ∀ r, letTemporaryGo value (.ref wd) r = pure () := by intro _; with_unfolding_all rfl) :
    wpAny (model prog w) A (subscriptTail value slice (.ref wd) (.str "threshold" tk)) Q E s := by
  obtain ⟨t, e⟩ := D.thr
  exact kda_item (knd := PySem.strKind prog w) N hp D.d (strKind_is _ _ _ _) e (h t) hs hg
theorem w_get_floor (N : News h₀ L s.heap news) (hp : (wd, o) ∈ news) (D : WorldD prog w o v kvs) (h : ∀ t, Q (optV v.floor t) { s with toks := s.toks + 1 })
    (hs : subscripted slice false (.ref wd) (.str "floor" tk) = operate [.ref wd, .str "floor" tk] (getItem (.ref wd) (.str "floor" tk)) := by with_unfolding_all rfl) (hg : ∀ r, letTemporaryGo value (.ref wd) r = pure () := by intro _; with_unfolding_all rfl) :
    wpAny (model prog w) A (subscriptTail value slice (.ref wd) (.str "floor" tk)) Q E s := by
  obtain ⟨t, e⟩ := D.floor
  exact kda_item (knd := PySem.strKind prog w) N hp D.d (strKind_is _ _ _ _) e (h t) hs hg
theorem w_get_tl (N : News h₀ L s.heap news) (hp : (wd, o) ∈ news) (D : WorldD prog w o v kvs) (h : Q (.ref v.tl) { s with toks := s.toks + 1 })
    (hs : subscripted slice false (.ref wd) (.str "trips" tk) = operate [.ref wd, .str "trips" tk] (getItem (.ref wd) (.str "trips" tk)) := by with_unfolding_all rfl) (hg : ∀ r, letTemporaryGo value (.ref wd) r = pure () := by intro _; with_unfolding_all rfl) :
    wpAny (model prog w) A (subscriptTail value slice (.ref wd) (.str "trips" tk)) Q E s := by
  exact kda_item (knd := PySem.strKind prog w) N hp D.d (strKind_is _ _ _ _) D.tl h hs hg
end
section
variable {i : Int} {t tk : Tok} {Q : Unit → Shared → Prop}
theorem w_set_win (F : Fr h₀ L s.heap m) (N : News h₀ L s.heap ((wd, o) :: others)) (h2 : ∀ p ∈ others, p.1 ≠ wd) (D : WorldD prog w o v kvs)
    (h : ∀ h' o' kvs', Fr h₀ L h' m → News h₀ L h' ((wd, o') :: others) → WorldD prog w o' { v with win := i } kvs' → Q () { s with heap := h', toks := s.toks + 1 }) :
    wpAny (model prog w) A (setItem (.ref wd) (.str "window" tk) (.int i t)) Q E s :=
  kda_set (knd := PySem.strKind prog w) F N (.head h2) D.d (strKind_is _ _ _ _) (Nat.le_trans D.len (by rw [sizeLine_eq]; decide)) fun h' o' F' N' d' => h h' o' _ F' N' (D.put_win d')
theorem w_set_rcv (F : Fr h₀ L s.heap m) (N : News h₀ L s.heap ((wd, o) :: others)) (h2 : ∀ p ∈ others, p.1 ≠ wd) (D : WorldD prog w o v kvs)
    (h : ∀ h' o' kvs', Fr h₀ L h' m → News h₀ L h' ((wd, o') :: others) → WorldD prog w o' { v with rcv := i } kvs' → Q () { s with heap := h', toks := s.toks + 1 }) :
    wpAny (model prog w) A (setItem (.ref wd) (.str "recovery" tk) (.int i t)) Q E s :=
  kda_set (knd := PySem.strKind prog w) F N (.head h2) D.d (strKind_is _ _ _ _) (Nat.le_trans D.len (by rw [sizeLine_eq]; decide)) fun h' o' F' N' d' => h h' o' _ F' N' (D.put_rcv d')
theorem w_set_rest (F : Fr h₀ L s.heap m) (N : News h₀ L s.heap ((wd, o) :: others)) (h2 : ∀ p ∈ others, p.1 ≠ wd) (D : WorldD prog w o v kvs)
    (h : ∀ h' o' kvs', Fr h₀ L h' m → News h₀ L h' ((wd, o') :: others) → WorldD prog w o' { v with rest := i } kvs' → Q () { s with heap := h', toks := s.toks + 1 }) :
    wpAny (model prog w) A (setItem (.ref wd) (.str "rest" tk) (.int i t)) Q E s :=
  kda_set (knd := PySem.strKind prog w) F N (.head h2) D.d (strKind_is _ _ _ _) (Nat.le_trans D.len (by rw [sizeLine_eq]; decide)) fun h' o' F' N' d' => h h' o' _ F' N' (D.put_rest d')
theorem w_set_meas (F : Fr h₀ L s.heap m) (N : News h₀ L s.heap ((wd, o) :: others)) (h2 : ∀ p ∈ others, p.1 ≠ wd) (D : WorldD prog w o v kvs)
    (h : ∀ h' o' kvs', Fr h₀ L h' m → News h₀ L h' ((wd, o') :: others) → WorldD prog w o' { v with meas := i } kvs' → Q () { s with heap := h', toks := s.toks + 1 }) :
    wpAny (model prog w) A (setItem (.ref wd) (.str "measured" tk) (.int i t)) Q E s :=
  kda_set (knd := PySem.strKind prog w) F N (.head h2) D.d (strKind_is _ _ _ _) (Nat.le_trans D.len (by rw [sizeLine_eq]; decide)) fun h' o' F' N' d' => h h' o' _ F' N' (D.put_meas d')
theorem w_set_times (F : Fr h₀ L s.heap m) (N : News h₀ L s.heap ((wd, o) :: others)) (h2 : ∀ p ∈ others, p.1 ≠ wd) (D : WorldD prog w o v kvs)
    (h : ∀ h' o' kvs', Fr h₀ L h' m → News h₀ L h' ((wd, o') :: others) → WorldD prog w o' { v with times := i } kvs' → Q () { s with heap := h', toks := s.toks + 1 }) :
    wpAny (model prog w) A (setItem (.ref wd) (.str "times" tk) (.int i t)) Q E s :=
  kda_set (knd := PySem.strKind prog w) F N (.head h2) D.d (strKind_is _ _ _ _) (Nat.le_trans D.len (by rw [sizeLine_eq]; decide)) fun h' o' F' N' d' => h h' o' _ F' N' (D.put_times d')
theorem w_set_thr (F : Fr h₀ L s.heap m) (N : News h₀ L s.heap ((wd, o) :: others)) (h2 : ∀ p ∈ others, p.1 ≠ wd) (D : WorldD prog w o v kvs)
    (h : ∀ h' o' kvs', Fr h₀ L h' m → News h₀ L h' ((wd, o') :: others) → WorldD prog w o' { v with thr := some i } kvs' → Q () { s with heap := h', toks := s.toks + 1 }) :
    wpAny (model prog w) A (setItem (.ref wd) (.str "threshold" tk) (.int i t)) Q E s :=
  kda_set (knd := PySem.strKind prog w) F N (.head h2) D.d (strKind_is _ _ _ _) (Nat.le_trans D.len (by rw [sizeLine_eq]; decide)) fun h' o' F' N' d' => h h' o' _ F' N' (D.put_thr d')
theorem w_set_floor (F : Fr h₀ L s.heap m) (N : News h₀ L s.heap ((wd, o) :: others)) (h2 : ∀ p ∈ others, p.1 ≠ wd) (D : WorldD prog w o v kvs)
    (h : ∀ h' o' kvs', Fr h₀ L h' m → News h₀ L h' ((wd, o') :: others) → WorldD prog w o' { v with floor := some i } kvs' → Q () { s with heap := h', toks := s.toks + 1 }) :
    wpAny (model prog w) A (setItem (.ref wd) (.str "floor" tk) (.int i t)) Q E s :=
  kda_set (knd := PySem.strKind prog w) F N (.head h2) D.d (strKind_is _ _ _ _) (Nat.le_trans D.len (by rw [sizeLine_eq]; decide)) fun h' o' F' N' d' => h h' o' _ F' N' (D.put_floor d')
end
end
end Mine
end PL5

section PL6
namespace Mine
theorem fresh_L6 : True := by
  w_top off
  first | walk1 | exact True.intro
section
variable {prog : Program} {w : World} {A : Around} {E : Value → Shared → Prop} {s : Shared} {h₀ : Heap} {L : Addr} {m : Str → Option Value} {env : Env}
/-- a comprehension with a test, of any length, its list so far told by f -/
theorem compT_all {ct elt : PySem.Expr} {x : Str} {scope : Scope} {cl : List (Str × Addr)} {S : List (Addr × Obj) → Prop} {P : Nat → Value → Prop} {Fin : List Value → List (Addr × Obj) → Prop} {news : List (Addr × Obj)} {n : Nat} (f : Nat → List Value)
    (h0 : f 0 = []) (hS : S news)
    (step : ∀ i v I oI C oC D m₂ h tk (E' : Value → Shared → Prop), i < n → P i v → LCg.NsObj oC m₂ → m₂ x = some v → Fr h₀ L h m → News h₀ L h ((I, oI) :: (C, oC) :: (D, LCg.lst (f i)) :: news) → LCg.Off3 I C D news →
      wpAny (model prog w) A (isTrue ct (compEnvC scope cl C env) (eval ct (compEnvC scope cl C env))) (fun ok s' => if ok = true then
        wpAny (model prog w) A (eval elt (compEnvC scope cl C env)) (LCg.CompEnd h₀ L m { s with heap := h, toks := tk } I oI C oC D (LCg.lst (f i)) (fun nw => nw = news) (fun y _ => f (i + 1) = f i ++ [y])) E' s'
        else LCg.CompEnd h₀ L m { s with heap := h, toks := tk } I oI C oC D (LCg.lst (f i)) (fun nw => nw = news) (fun _ _ => f (i + 1) = f i) Value.none s') E' { s with heap := h, toks := tk })
    (fin : Fin (f n) news) : LCt.CompRestT prog w A h₀ L m env ct elt x scope cl s S P Fin n 0 [] news := by
  have key : ∀ k i, k + i = n → LCt.CompRestT prog w A h₀ L m env ct elt x scope cl s S P Fin k i (f i) news := by
    intro k
    induction k with
    | zero => intro i hi; rw [show i = n by omega]; exact LCt.CompRestT.zero fin
    | succ k ih =>
      intro i hi
      refine LCt.CompRestT.succ ?_
      intro v I oI C oC D m₂ h tk E' hv hC hx F' N' off ne
      refine wpAny_mono (step i v I oI C oC D m₂ h tk E' (by omega) hv hC hx F' N' off) (fun ok s' hq => ?_) fun _ _ e => e
      cases ok with
      | true =>
        simp only [if_true] at hq ⊢
        refine wpAny_mono hq (fun y s'' hy => ?_) fun _ _ e => e
        obtain ⟨h', tk', nw, e, F₂, N₂, o₂, hn, hr⟩ := hy
        subst hn
        exact ⟨h', tk', nw, e, F₂, N₂, o₂, hS, by have z := ih (i + 1) (by omega); rw [hr] at z; exact z⟩
      | false =>
        simp only [Bool.false_eq_true, if_false] at hq ⊢
        obtain ⟨h', tk', nw, e, F₂, N₂, o₂, hn, hr⟩ := hq
        subst hn
        exact ⟨h', tk', nw, e, F₂, N₂, o₂, hS, by have z := ih (i + 1) (by omega); rw [hr] at z; exact z⟩
  have := key n 0 (by omega)
  rw [h0] at this
  exact this
/-- one without a test -/
theorem compU_all {elt : PySem.Expr} {x : Str} {scope : Scope} {cl : List (Str × Addr)} {S : List (Addr × Obj) → Prop} {P : Nat → Value → Prop} {Fin : List Value → List (Addr × Obj) → Prop} {news : List (Addr × Obj)} {n : Nat} (J : Nat → List Value → Prop)
    (h0 : J 0 []) (hS : S news)
    (step : ∀ i v I oI C oC D m₂ ys h tk (E' : Value → Shared → Prop), i < n → P i v → J i ys → LCg.NsObj oC m₂ → m₂ x = some v → Fr h₀ L h m → News h₀ L h ((I, oI) :: (C, oC) :: (D, LCg.lst ys) :: news) → LCg.Off3 I C D news →
      wpAny (model prog w) A (eval elt (compEnvC scope cl C env)) (LCg.CompEnd h₀ L m { s with heap := h, toks := tk } I oI C oC D (LCg.lst ys) (fun nw => nw = news) (fun y _ => J (i + 1) (ys ++ [y]))) E' { s with heap := h, toks := tk })
    (fin : ∀ ys, J n ys → Fin ys news) : LCg.CompRest prog w A h₀ L m env elt x scope cl s S P Fin n 0 [] news := by
  have key : ∀ k i ys, k + i = n → J i ys → LCg.CompRest prog w A h₀ L m env elt x scope cl s S P Fin k i ys news := by
    intro k
    induction k with
    | zero => intro i ys hi hJ; exact LCg.CompRest.zero (fin _ (show n = i by omega ▸ hJ))
    | succ k ih =>
      intro i ys hi hJ
      refine LCg.CompRest.succ ?_
      intro v I oI C oC D m₂ h tk E' hv hC hx F' N' off ne
      refine wpAny_mono (step i v I oI C oC D m₂ ys h tk E' (by omega) hv hJ hC hx F' N' off) (fun y s'' hy => ?_) fun _ _ e => e
      obtain ⟨h', tk', nw, e, F₂, N₂, o₂, hn, hr⟩ := hy
      subst hn
      exact ⟨h', tk', nw, e, F₂, N₂, o₂, hS, ih (i + 1) _ (by omega) hr⟩
  exact key n 0 [] (by omega) h0
end
section
variable {prog : Program} {w : World} {A : Around} {E : Value → Shared → Prop} {s : Shared} {h₀ : Heap} {L l : Addr} {m : Str → Option Value} {news : List (Addr × Obj)} {k : Nat} {vs : List Value}
theorem t_len {Q : Value → Shared → Prop} (N : News h₀ L s.heap news) (hl : (l, listOf vs.toArray k) ∈ news) (hz : vs.length ≤ 1000) (h : Q (.int vs.length (s.toks + 1)) { s with toks := s.toks + 1 + 1 }) :
    wpAny (model prog w) A (call (.builtin "len") [.ref l]) Q E s :=
  PySem.Calls.call_len_list ⟨_, (N _ hl).1, rfl, k, rfl⟩ (by rw [List.size_toArray]; omega) (by rw [List.size_toArray]; exact h)
theorem t_item {value slice : PySem.Expr} {i : Int} {u : Tok} {Q : Value → Shared → Prop} (N : News h₀ L s.heap news) (hl : (l, listOf vs.toArray k) ∈ news) (h0 : 0 ≤ i) (h1 : i < vs.length) (hz : vs.length ≤ 1000)
    (h : ∀ v, vs[i.toNat]? = some v → Q v s)
    (hs : subscripted slice false (.ref l) (.int i u) = operate [.ref l, .int i u] (getItem (.ref l) (.int i u)) := by with_unfolding_all rfl) :
    wpAny (model prog w) A (subscriptTail value slice (.ref l) (.int i u)) Q E s := by
  have hL : s.heap.IsList l vs.toArray := ⟨_, (N _ hl).1, rfl, k, rfl⟩
  have hx : vs[i.toNat]? = some (vs[i.toNat]'(by omega)) := List.getElem?_eq_getElem _
  exact tail_any hL.typeIs slot_list_getitem.lookup (wpAny_getItem_list hL h0 (by omega) (by simpa using hx) (h _ hx)) hs
theorem t_truthy {Q : Bool → Shared → Prop} (N : News h₀ L s.heap news) (hl : (l, listOf vs.toArray k) ∈ news) (hz : vs.length ≤ 1000) (h : ∀ tk, Q (decide (0 < vs.length)) { s with toks := tk }) :
    wpAny (model prog w) A (truthy (.ref l)) Q E s := by
  refine wpAny_truthy_list ⟨_, (N _ hl).1, rfl, k, rfl⟩ (by rw [List.size_toArray]; omega) ?_
  have e : (!vs.toArray.isEmpty) = decide (0 < vs.length) := by cases vs <;> simp
  rw [e]
  exact h _
end
end Mine
end PL6

section PL8
namespace Mine
theorem fresh_L8 : True := by
  w_top off
  first | walk1 | exact True.intro
theorem off_cons {r : List (Addr × Obj)} {a b : Addr} {o : Obj} (h1 : a ≠ b) (h2 : ∀ p ∈ r, p.1 ≠ b) : ∀ p ∈ (a, o) :: r, p.1 ≠ b := by
  intro p hp
  rcases List.mem_cons.mp hp with rfl | hp
  · exact h1
  · exact h2 p hp
theorem w_setg_win {prog : Program} {w : World} {A : Around} {E : Value → Shared → Prop} {s : Shared} {h₀ : Heap} {L wd : Addr} {m : Str → Option Value} {news : List (Addr × Obj)} {gg : Obj → List (Addr × Obj)} {o : Obj} {v : Wd} {kvs : List (Str × Value)} {i : Int} {t tk : Tok} {Q : Unit → Shared → Prop} (F : Fr h₀ L s.heap m) (N : News h₀ L s.heap news) (U : UpdF wd o news gg) (D : WorldD prog w o v kvs)
    (h : ∀ h' o' kvs', Fr h₀ L h' m → News h₀ L h' (gg o') → WorldD prog w o' { v with win := i } kvs' → Q () { s with heap := h', toks := s.toks + 1 }) :
    wpAny (model prog w) A (setItem (.ref wd) (.str "window" tk) (.int i t)) Q E s :=
  kda_set (knd := PySem.strKind prog w) F N U D.d (strKind_is _ _ _ _) (Nat.le_trans D.len (by rw [sizeLine_eq]; decide)) fun h' o' F' N' d' => h h' o' _ F' N' (D.put_win d')
theorem w_setg_rcv {prog : Program} {w : World} {A : Around} {E : Value → Shared → Prop} {s : Shared} {h₀ : Heap} {L wd : Addr} {m : Str → Option Value} {news : List (Addr × Obj)} {gg : Obj → List (Addr × Obj)} {o : Obj} {v : Wd} {kvs : List (Str × Value)} {i : Int} {t tk : Tok} {Q : Unit → Shared → Prop} (F : Fr h₀ L s.heap m) (N : News h₀ L s.heap news) (U : UpdF wd o news gg) (D : WorldD prog w o v kvs)
    (h : ∀ h' o' kvs', Fr h₀ L h' m → News h₀ L h' (gg o') → WorldD prog w o' { v with rcv := i } kvs' → Q () { s with heap := h', toks := s.toks + 1 }) :
    wpAny (model prog w) A (setItem (.ref wd) (.str "recovery" tk) (.int i t)) Q E s :=
  kda_set (knd := PySem.strKind prog w) F N U D.d (strKind_is _ _ _ _) (Nat.le_trans D.len (by rw [sizeLine_eq]; decide)) fun h' o' F' N' d' => h h' o' _ F' N' (D.put_rcv d')
theorem w_setg_rest {prog : Program} {w : World} {A : Around} {E : Value → Shared → Prop} {s : Shared} {h₀ : Heap} {L wd : Addr} {m : Str → Option Value} {news : List (Addr × Obj)} {gg : Obj → List (Addr × Obj)} {o : Obj} {v : Wd} {kvs : List (Str × Value)} {i : Int} {t tk : Tok} {Q : Unit → Shared → Prop} (F : Fr h₀ L s.heap m) (N : News h₀ L s.heap news) (U : UpdF wd o news gg) (D : WorldD prog w o v kvs)
    (h : ∀ h' o' kvs', Fr h₀ L h' m → News h₀ L h' (gg o') → WorldD prog w o' { v with rest := i } kvs' → Q () { s with heap := h', toks := s.toks + 1 }) :
    wpAny (model prog w) A (setItem (.ref wd) (.str "rest" tk) (.int i t)) Q E s :=
  kda_set (knd := PySem.strKind prog w) F N U D.d (strKind_is _ _ _ _) (Nat.le_trans D.len (by rw [sizeLine_eq]; decide)) fun h' o' F' N' d' => h h' o' _ F' N' (D.put_rest d')
theorem w_setg_meas {prog : Program} {w : World} {A : Around} {E : Value → Shared → Prop} {s : Shared} {h₀ : Heap} {L wd : Addr} {m : Str → Option Value} {news : List (Addr × Obj)} {gg : Obj → List (Addr × Obj)} {o : Obj} {v : Wd} {kvs : List (Str × Value)} {i : Int} {t tk : Tok} {Q : Unit → Shared → Prop} (F : Fr h₀ L s.heap m) (N : News h₀ L s.heap news) (U : UpdF wd o news gg) (D : WorldD prog w o v kvs)
    (h : ∀ h' o' kvs', Fr h₀ L h' m → News h₀ L h' (gg o') → WorldD prog w o' { v with meas := i } kvs' → Q () { s with heap := h', toks := s.toks + 1 }) :
    wpAny (model prog w) A (setItem (.ref wd) (.str "measured" tk) (.int i t)) Q E s :=
  kda_set (knd := PySem.strKind prog w) F N U D.d (strKind_is _ _ _ _) (Nat.le_trans D.len (by rw [sizeLine_eq]; decide)) fun h' o' F' N' d' => h h' o' _ F' N' (D.put_meas d')
theorem w_setg_times {prog : Program} {w : World} {A : Around} {E : Value → Shared → Prop} {s : Shared} {h₀ : Heap} {L wd : Addr} {m : Str → Option Value} {news : List (Addr × Obj)} {gg : Obj → List (Addr × Obj)} {o : Obj} {v : Wd} {kvs : List (Str × Value)} {i : Int} {t tk : Tok} {Q : Unit → Shared → Prop} (F : Fr h₀ L s.heap m) (N : News h₀ L s.heap news) (U : UpdF wd o news gg) (D : WorldD prog w o v kvs)
    (h : ∀ h' o' kvs', Fr h₀ L h' m → News h₀ L h' (gg o') → WorldD prog w o' { v with times := i } kvs' → Q () { s with heap := h', toks := s.toks + 1 }) :
    wpAny (model prog w) A (setItem (.ref wd) (.str "times" tk) (.int i t)) Q E s :=
  kda_set (knd := PySem.strKind prog w) F N U D.d (strKind_is _ _ _ _) (Nat.le_trans D.len (by rw [sizeLine_eq]; decide)) fun h' o' F' N' d' => h h' o' _ F' N' (D.put_times d')
theorem w_setg_thr {prog : Program} {w : World} {A : Around} {E : Value → Shared → Prop} {s : Shared} {h₀ : Heap} {L wd : Addr} {m : Str → Option Value} {news : List (Addr × Obj)} {gg : Obj → List (Addr × Obj)} {o : Obj} {v : Wd} {kvs : List (Str × Value)} {i : Int} {t tk : Tok} {Q : Unit → Shared → Prop} (F : Fr h₀ L s.heap m) (N : News h₀ L s.heap news) (U : UpdF wd o news gg) (D : WorldD prog w o v kvs)
    (h : ∀ h' o' kvs', Fr h₀ L h' m → News h₀ L h' (gg o') → WorldD prog w o' { v with thr := some i } kvs' → Q () { s with heap := h', toks := s.toks + 1 }) :
    wpAny (model prog w) A (setItem (.ref wd) (.str "threshold" tk) (.int i t)) Q E s :=
  kda_set (knd := PySem.strKind prog w) F N U D.d (strKind_is _ _ _ _) (Nat.le_trans D.len (by rw [sizeLine_eq]; decide)) fun h' o' F' N' d' => h h' o' _ F' N' (D.put_thr d')
theorem w_setg_floor {prog : Program} {w : World} {A : Around} {E : Value → Shared → Prop} {s : Shared} {h₀ : Heap} {L wd : Addr} {m : Str → Option Value} {news : List (Addr × Obj)} {gg : Obj → List (Addr × Obj)} {o : Obj} {v : Wd} {kvs : List (Str × Value)} {i : Int} {t tk : Tok} {Q : Unit → Shared → Prop} (F : Fr h₀ L s.heap m) (N : News h₀ L s.heap news) (U : UpdF wd o news gg) (D : WorldD prog w o v kvs)
    (h : ∀ h' o' kvs', Fr h₀ L h' m → News h₀ L h' (gg o') → WorldD prog w o' { v with floor := some i } kvs' → Q () { s with heap := h', toks := s.toks + 1 }) :
    wpAny (model prog w) A (setItem (.ref wd) (.str "floor" tk) (.int i t)) Q E s :=
  kda_set (knd := PySem.strKind prog w) F N U D.d (strKind_is _ _ _ _) (Nat.le_trans D.len (by rw [sizeLine_eq]; decide)) fun h' o' F' N' d' => h h' o' _ F' N' (D.put_floor d')
end Mine
end PL8

section Big
local macro_rules | `(tactic| walk_at "zz m") => `(tactic| first | ((repeat (first | exact List.mem_cons_self | refine List.mem_cons_of_mem _ ?_)); done) | (repeat (first | assumption | refine List.mem_cons_of_mem _ ?_)))
local macro_rules | `(tactic| walk_at "zz i") => `(tactic| (intro q hq; repeat (first | exact hq | refine List.mem_cons_of_mem _ ?_)))
local macro_rules | `(tactic| walk_at "zz o") => `(tactic| first | assumption | exact Mine.off_cons (by first | assumption | (refine neN ?_; omega)) (by walk_at "zz o"))
local macro_rules | `(tactic| walk_at "zz u") => `(tactic| first | exact UpdF.head (by walk_at "zz o") | exact UpdF.tail (by k_ne) (UpdF.head (by walk_at "zz o")) | k_updF)
local macro_rules | `(tactic| walk_at "getAttr ref") => `(tactic| (k_here; (with_reducible (first | (refine Mine.ctl_get_unit ‹_› ‹_› ‹_› ‹_› ?_; intro _) | (refine Mine.ctl_get_rcv ‹_› ‹_› ‹_› ‹_› ?_; intro _) | (refine Mine.ctl_get_stash ‹_› ‹_› ‹_› ‹_› ?_; intro _) | (refine Mine.ctl_get_win ‹_› ‹_› ‹_› ‹_› ?_; intro _) | (refine Mine.ctl_get_fly ‹_› ‹_› ‹_› ‹_› ?_; intro _) | (refine Mine.ctl_get_ss ‹_› ‹_› ‹_› ‹_› ?_; intro _) | refine Mine.ctl_get_mx ‹_› ‹_› ‹_› ‹_› ?_ | (refine Mine.pk_get_num ‹_› ‹_› ‹_› ‹_› (by walk_at "zz i") ?_; intro _) | (refine Mine.pk_get_time ‹_› ‹_› ‹_› ‹_› (by walk_at "zz i") ?_; intro _) | (refine Mine.pk_get_len ‹_› ‹_› ‹_› ‹_› (by walk_at "zz i") ?_; intro _) | (refine Mine.mon_get_inc ‹_› ‹_› ‹_› ‹_› ?_; intro _) | (refine Mine.mon_get_idx ‹_› ‹_› ‹_› ‹_› ?_; intro _) | (refine Mine.mon_get_stime ‹_› ‹_› ‹_› ‹_› ?_; intro _) | (refine Mine.mon_get_size ‹_› ‹_› ‹_› ‹_› ?_; intro _) | (refine Mine.mon_get_fmin ‹_› ‹_› ‹_› ‹_› ?_; intro _) | (refine Mine.mon_get_smax ‹_› ‹_› ‹_› ‹_› ?_; intro _) | (refine Mine.mon_get_smin ‹_› ‹_› ‹_› ‹_› ?_; intro _) | refine Mine.mon_get_ready ‹_› ‹_› ‹_› ‹_› ?_ | refine Mine.mon_get_sl ‹_› ‹_› ‹_› ‹_› ?_)); try dsimp only [Mine.optV]))
local macro_rules | `(tactic| walk_at "setAttr ref") => `(tactic| (k_here; (with_reducible (first | refine Mine.ctl_set_rcv ‹_› ‹_› ‹_› ‹_› ‹_› (by walk_at "zz o") ?_ | refine Mine.ctl_set_stash ‹_› ‹_› ‹_› ‹_› ‹_› (by walk_at "zz o") ?_ | refine Mine.ctl_set_win ‹_› ‹_› ‹_› ‹_› ‹_› (by walk_at "zz o") ?_ | refine Mine.ctl_set_fly ‹_› ‹_› ‹_› ‹_› ‹_› (by walk_at "zz o") ?_ | refine Mine.ctl_set_ss ‹_› ‹_› ‹_› ‹_› ‹_› (by walk_at "zz o") ?_ | refine Mine.mon_set_inc ‹_› ‹_› ‹_› ‹_› ‹_› (by walk_at "zz o") ?_ | refine Mine.mon_set_fmin ‹_› ‹_› ‹_› ‹_› ‹_› (by walk_at "zz o") ?_ | refine Mine.mon_set_idx ‹_› ‹_› ‹_› ‹_› ‹_› (by walk_at "zz o") ?_ | refine Mine.mon_set_smax ‹_› ‹_› ‹_› ‹_› ‹_› (by walk_at "zz o") ?_ | refine Mine.mon_set_smin ‹_› ‹_› ‹_› ‹_› ‹_› (by walk_at "zz o") ?_ | refine Mine.mon_set_stime ‹_› ‹_› ‹_› ‹_› ‹_› (by walk_at "zz o") ?_ | refine Mine.mon_set_ready ‹_› ‹_› ‹_› ‹_› ‹_› (by walk_at "zz o") ?_)); intro _ _ _ F' N' D'; try dsimp only at D'))
local macro_rules | `(tactic| walk_at "setItem ref str") => `(tactic| (k_here; (with_reducible (first | refine' Mine.w_setg_win ?F ?N ?U ?D ?_ | refine' Mine.w_setg_rcv ?F ?N ?U ?D ?_ | refine' Mine.w_setg_rest ?F ?N ?U ?D ?_ | refine' Mine.w_setg_meas ?F ?N ?U ?D ?_ | refine' Mine.w_setg_times ?F ?N ?U ?D ?_ | refine' Mine.w_setg_thr ?F ?N ?U ?D ?_ | refine' Mine.w_setg_floor ?F ?N ?U ?D ?_)); (case F => k_asm); (case N => k_asm); (case U => walk_at "zz u"); (case D => k_asm); intro _ _ _ F' N' D'; (try dsimp only at N' D')))
local macro_rules | `(tactic| walk_at "subscriptTail") => `(tactic| (k_here; (with_reducible (first | (refine Mine.w_get_win ‹_› (by walk_at "zz m") ‹_› ?_; intro _) | (refine Mine.w_get_rcv ‹_› (by walk_at "zz m") ‹_› ?_; intro _) | (refine Mine.w_get_rest ‹_› (by walk_at "zz m") ‹_› ?_; intro _) | (refine Mine.w_get_meas ‹_› (by walk_at "zz m") ‹_› ?_; intro _) | (refine Mine.w_get_times ‹_› (by walk_at "zz m") ‹_› ?_; intro _) | (refine Mine.w_get_thr ‹_› (by walk_at "zz m") ‹_› ?_; intro _) | (refine Mine.w_get_floor ‹_› (by walk_at "zz m") ‹_› ?_; intro _) | refine Mine.w_get_tl ‹_› (by walk_at "zz m") ‹_› ?_)); try dsimp only [Mine.optV]))

section PC1
namespace Mine
theorem fresh_C1 : True := by
  w_top off
  first | walk1 | exact True.intro
theorem fillC1 (w : World) : Mine.hd.heap_1 w.params = Mine.hd.heap_1 w.params ∧ PySem.Challenge.rw_ix0003_01.row.prog = PySem.Challenge.rw_ix0003_01.row.prog := by
  k_fill
  exact ⟨rfl, rfl⟩

set_option maxHeartbeats 8000000 in
theorem c_sent {w : World} {p : Program} {loose : List Str} {mean : ExcName → Option Value} {mg mb : Str → Option Value} {dp un : Nat} {gd : Option (List Code)} {cn : Str} {cs : Scope} {a : Addr} {ccd : Value} {cl : List (Str × Addr)} {outer : List Env} {A₀ : Around} {base h₀ : Heap} {L : Addr} {m : Str → Option Value} {s : Shared} {Q E : Value → Shared → Prop}
    {cx cd : Addr} {es : List DictEntry} {n : Nat} {c : Ctl} {others : List (Addr × Obj)} {pk : Pk}
    (B : Below A₀ base outer h₀) (F : Fr h₀ L s.heap m) (X : (Mine.hd.heap_1 w.params).In h₀) (T : Top p loose mean mg mb h₀) (hk : cs.kind = .function)
    (N : News h₀ L s.heap ((cx, instObj 129 cd) :: (cd, dictOf es n) :: others)) (D : CtlD es c) (h1 : cx ≠ cd) (h2 : ∀ p ∈ others, p.1 ≠ cd)
    (hd : dp + 5 < recursionLimit) (hu : un + 40 < cLine) (P : PkIn others pk)
    (ret : ∀ h' tk es' n' c', c' = { c with fly := c.fly + pk.len } → Fr h₀ L h' m → News h₀ L h' ((cx, instObj 129 cd) :: (cd, dictOf es' n') :: others) → CtlD es' c' → Q .none { s with heap := h', toks := tk }) :
    wpAny (model PySem.Challenge.rw_ix0003_01.row.prog w) (ktrTop dp un gd cn cs L a ccd cl outer) (call (.ref 98) [.ref cx] [("packet", .ref pk.at_)]) Q E s := by
  refine wpAny_call ?_
  k_dflt ktr_enter
  k_steps
  exact ret _ _ _ _ _ rfl (by assumption) (by assumption) (by assumption)
end Mine
end PC1

section PC2
namespace Mine
theorem fresh_C2 : True := by
  w_top off
  first | walk1 | exact True.intro
theorem fillC2 (w : World) : Mine.hd.heap_1 w.params = Mine.hd.heap_1 w.params ∧ PySem.Challenge.rw_ix0003_01.row.prog = PySem.Challenge.rw_ix0003_01.row.prog := by
  k_fill
  exact ⟨rfl, rfl⟩
local macro_rules | `(tactic| walk_at "binaryOp FloorDiv int int") => `(tactic| with_reducible (refine floordiv_int (by omega) ?_ (Or.inl (PyProof.noPylong_small (by omega)))))

def Ctl.acked (c : Ctl) (time len : Int) : Ctl :=
  if time ≤ c.rcv then { c with fly := c.fly - len }
  else if c.ss.all (fun x => decide (c.win < x)) then { c with fly := c.fly - len, win := c.win + len }
  else if (c.stash + len).fdiv c.win = 0 then { c with fly := c.fly - len, stash := c.stash + len }
  else { c with fly := c.fly - len, stash := c.stash + len - (c.stash + len).fdiv c.win * c.win, win := c.win + (c.stash + len).fdiv c.win * c.unit }
set_option maxHeartbeats 8000000 in
theorem c_persist {w : World} {p : Program} {loose : List Str} {mean : ExcName → Option Value} {mg mb : Str → Option Value} {dp un : Nat} {gd : Option (List Code)} {cn : Str} {cs : Scope} {a : Addr} {ccd : Value} {cl : List (Str × Addr)} {outer : List Env} {A₀ : Around} {base h₀ : Heap} {L : Addr} {m : Str → Option Value} {s : Shared} {Q E : Value → Shared → Prop}
    {cx cd : Addr} {es : List DictEntry} {n : Nat} {c : Ctl} {others : List (Addr × Obj)}
    (B : Below A₀ base outer h₀) (F : Fr h₀ L s.heap m) (X : (Mine.hd.heap_1 w.params).In h₀) (T : Top p loose mean mg mb h₀) (hk : cs.kind = .function)
    (N : News h₀ L s.heap ((cx, instObj 129 cd) :: (cd, dictOf es n) :: others)) (D : CtlD es c) (h1 : cx ≠ cd) (h2 : ∀ p ∈ others, p.1 ≠ cd)
    (hd : dp + 5 < recursionLimit) (hu : un + 40 < cLine)
    (ret : ∀ h' tk es' n' c', c' = { c with win := 2 * c.unit, rcv := 0 } → Fr h₀ L h' m → News h₀ L h' ((cx, instObj 129 cd) :: (cd, dictOf es' n') :: others) → CtlD es' c' → Q .none { s with heap := h', toks := tk }) :
    wpAny (model PySem.Challenge.rw_ix0003_01.row.prog w) (ktrTop dp un gd cn cs L a ccd cl outer) (call (.ref 119) [.ref cx] []) Q E s := by
  refine wpAny_call ?_
  k_dflt ktr_enter
  k_steps
  exact ret _ _ _ _ _ rfl (by assumption) (by assumption) (by assumption)
set_option maxHeartbeats 8000000 in
theorem c_acked {w : World} {p : Program} {loose : List Str} {mean : ExcName → Option Value} {mg mb : Str → Option Value} {dp un : Nat} {gd : Option (List Code)} {cn : Str} {cs : Scope} {a : Addr} {ccd : Value} {cl : List (Str × Addr)} {outer : List Env} {A₀ : Around} {base h₀ : Heap} {L : Addr} {m : Str → Option Value} {s : Shared} {Q E : Value → Shared → Prop}
    {cx cd : Addr} {es : List DictEntry} {n : Nat} {c : Ctl} {others : List (Addr × Obj)} {pk : Pk} {now : Int} {tn : Tok}
    (B : Below A₀ base outer h₀) (F : Fr h₀ L s.heap m) (X : (Mine.hd.heap_1 w.params).In h₀) (T : Top p loose mean mg mb h₀) (hk : cs.kind = .function)
    (N : News h₀ L s.heap ((cx, instObj 129 cd) :: (cd, dictOf es n) :: others)) (D : CtlD es c) (h1 : cx ≠ cd) (h2 : ∀ p ∈ others, p.1 ≠ cd)
    (hd : dp + 5 < recursionLimit) (hu : un + 40 < cLine) (P : PkIn others pk) (hw : 0 < c.win) (hw2 : c.win < 1073741824) (hs : 0 ≤ c.stash) (hs2 : c.stash < 1073741824) (hl : 0 ≤ pk.len) (hl2 : pk.len < 1073741824) (hun : 0 < c.unit) (hun2 : c.unit ≤ 1280)
    (ret : ∀ h' tk es' n' c', c' = c.acked pk.time pk.len → Fr h₀ L h' m → News h₀ L h' ((cx, instObj 129 cd) :: (cd, dictOf es' n') :: others) → CtlD es' c' → Q .none { s with heap := h', toks := tk }) :
    wpAny (model PySem.Challenge.rw_ix0003_01.row.prog w) (ktrTop dp un gd cn cs L a ccd cl outer) (call (.ref 91) [.ref cx] [("now", .int now tn), ("packet", .ref pk.at_)]) Q E s := by
  obtain ⟨unit, rcv, stash, mx, win, fly, ss⟩ := c
  cases ss
  all_goals dsimp only at *
  all_goals (
    refine wpAny_call ?_
    k_dflt ktr_enter
    k_steps
    all_goals (refine ret _ _ _ _ _ ?_ (by assumption) (by assumption) (by assumption))
    all_goals (unfold Ctl.acked; dsimp only [Option.all])
    all_goals (repeat' split)
    all_goals (first | rfl | (exfalso; simp_all; done) | (exfalso; simp_all; omega) | (simp_all; done)))
end Mine
end PC2

section PC3
namespace Mine
theorem fresh_C3 : True := by
  w_top off
  first | walk1 | exact True.intro
theorem fillC3 (w : World) : Mine.hd.heap_1 w.params = Mine.hd.heap_1 w.params ∧ PySem.Challenge.rw_ix0003_01.row.prog = PySem.Challenge.rw_ix0003_01.row.prog := by
  k_fill
  exact ⟨rfl, rfl⟩
local macro_rules | `(tactic| walk_at "LpPost") => `(tactic| (dsimp only [LpPost]))

def lensOf (ps : List Pk) : Int := (ps.map (·.len)).sum
theorem lensOf_snoc (ps : List Pk) (p : Pk) : lensOf (ps ++ [p]) = lensOf ps + p.len := by simp [lensOf]
theorem take_snoc {α : Type} {l : List α} {i : Nat} {p : α} (h : l[i]? = some p) : l.take (i + 1) = l.take i ++ [p] := by
  rw [List.take_add_one, h]; rfl
theorem off2 {a b I : Addr} {o o' o1 o2 : Obj} {r : List (Addr × Obj)} (h : ∀ p ∈ (a, o) :: (b, o1) :: r, p.1 ≠ I) : ∀ p ∈ (a, o') :: (b, o2) :: r, p.1 ≠ I := by
  intro p hp
  simp only [List.mem_cons] at hp
  rcases hp with rfl | rfl | hp
  · exact h (a, o) (.head _)
  · exact h (b, o1) (List.mem_cons_of_mem _ (.head _))
  · exact h p (List.mem_cons_of_mem _ (List.mem_cons_of_mem _ hp))
def lastTime (ps : List Pk) : Int := ps.getLast?.elim 0 (·.time)
theorem lastTime_snoc (ps : List Pk) (p : Pk) : lastTime (ps ++ [p]) = p.time := by simp [lastTime]
def halved (win unit : Int) : Int := if 2 * unit > win.fdiv 2 then 2 * unit else win.fdiv 2
def Ctl.lost (c : Ctl) (now : Int) (ps : List Pk) : Ctl :=
  if lastTime ps > c.rcv then { c with fly := c.fly - lensOf ps, rcv := now, win := halved c.win c.unit, ss := some (halved c.win c.unit) }
  else { c with fly := c.fly - lensOf ps }
set_option maxHeartbeats 8000000 in
theorem c_expired {w : World} {p : Program} {loose : List Str} {mean : ExcName → Option Value} {mg mb : Str → Option Value} {dp un : Nat} {gd : Option (List Code)} {cn : Str} {cs : Scope} {a : Addr} {ccd : Value} {cl : List (Str × Addr)} {outer : List Env} {A₀ : Around} {base h₀ : Heap} {L : Addr} {m : Str → Option Value} {s : Shared} {Q E : Value → Shared → Prop}
    {cx cd : Addr} {es : List DictEntry} {n : Nat} {c : Ctl} {others : List (Addr × Obj)} {gl : Addr} {pks : List Pk} {nn : Nat}
    (B : Below A₀ base outer h₀) (F : Fr h₀ L s.heap m) (X : (Mine.hd.heap_1 w.params).In h₀) (T : Top p loose mean mg mb h₀) (hk : cs.kind = .function)
    (N : News h₀ L s.heap ((cx, instObj 129 cd) :: (cd, dictOf es n) :: others)) (D : CtlD es c) (h1 : cx ≠ cd) (h2 : ∀ p ∈ others, p.1 ≠ cd)
    (hd : dp + 5 < recursionLimit) (hu : un + 40 < cLine) (G : (gl, listOf (pks.map (fun p => Value.ref p.at_)).toArray nn) ∈ others) (P : ∀ p ∈ pks, PkIn others p)
    (ret : ∀ h' tk es' n' c', c' = { c with fly := c.fly - lensOf pks } → Fr h₀ L h' m → News h₀ L h' ((cx, instObj 129 cd) :: (cd, dictOf es' n') :: others) → CtlD es' c' → Q .none { s with heap := h', toks := tk }) :
    wpAny (model PySem.Challenge.rw_ix0003_01.row.prog w) (ktrTop dp un gd cn cs L a ccd cl outer) (call (.ref 105) [.ref cx] [("packets", .ref gl)]) Q E s := by
  refine wpAny_call ?_
  k_dflt ktr_enter
  repeat' (first | (k_unfold; (try dsimp only)) | ((fail_if_success (with_reducible show wpAny _ _ (exec (Stmt.For _ _ _ _ _) _) _ _ _)); (fail_if_success (with_reducible show wpAny _ _ (pyIter _) _ _ _)); walk1) | (leave1; walk_say "STEP leave1"; try dsimp only) | fail "no step")
  (rename Fr _ _ _ _ => lF')
  refine For_invVF lF' (by rfl) (by rfl) ?_
  repeat' (first | (k_unfold; (try dsimp only)) | ((fail_if_success (with_reducible show wpAny _ _ (exec (Stmt.For _ _ _ _ _) _) _ _ _)); (fail_if_success (with_reducible show wpAny _ _ (pyIter _) _ _ _)); walk1) | (leave1; walk_say "STEP leave1"; try dsimp only) | fail "no step")
  (rename News _ _ _ _ => lN')
  refine lp_list (nn := nn) (vs := pks.map (fun p => Value.ref p.at_)) (fun i m nx => m "self" = some (.ref cx) ∧ ∃ es n, nx = (cx, instObj 129 cd) :: (cd, dictOf es n) :: others ∧ CtlD es { c with fly := c.fly - lensOf (pks.take i) }) rfl ?hl lF' lN' ?hj ?turn ?done
  case hl =>
    rintro i m nx ⟨_, es, n, rfl, _⟩
    exact List.mem_cons_of_mem _ (List.mem_cons_of_mem _ G)
  case hj => exact ⟨rfl, es, n, rfl, by simpa [lensOf] using D⟩
  case turn =>
    rintro i v m₁ nx h tk I io hv hI ⟨hm, es₁, n₁, rfl, D₁⟩ F₁ N₁
    obtain ⟨pk, hpk, rfl⟩ : ∃ pk, pks[i]? = some pk ∧ v = Value.ref pk.at_ := by
      rw [List.getElem?_map] at hv
      cases e : pks[i]? with
      | none => rw [e] at hv; cases hv
      | some q => rw [e] at hv; exact ⟨q, rfl, (Option.some.inj hv).symm⟩
    have P₁ := P pk (List.mem_of_getElem? hpk)
    have F₂ := pin_frx [("self", .ref cx)] (by simpa using hm) F₁
    clear F₁
    have N₂ : News _ _ h ((cx, instObj 129 cd) :: (cd, dictOf es₁ n₁) :: (I, io) :: others) := news_rot3 N₁
    clear N₁
    have h3 : ∀ p ∈ (I, io) :: others, p.1 ≠ cd := by
      intro q hq
      rcases List.mem_cons.mp hq with rfl | hq
      · exact fun e => hI _ (List.mem_cons_of_mem _ (.head _)) e.symm
      · exact h2 q hq
    repeat' (first | (k_unfold; (try dsimp only)) | ((fail_if_success (with_reducible show wpAny _ _ (exec (Stmt.For _ _ _ _ _) _) _ _ _)); (fail_if_success (with_reducible show wpAny _ _ (pyIter _) _ _ _)); walk1) | (leave1; walk_say "STEP leave1"; try dsimp only) | fail "no step")
    refine ⟨_, _, _, (cx, instObj 129 cd) :: (cd, dictOf _ _) :: others, rfl, by assumption, news_rot3' (by assumption), off2 hI, rfl, _, _, rfl, ?_⟩
    have e : c.fly - lensOf (pks.take i) - pk.len = c.fly - lensOf (pks.take (i + 1)) := by rw [take_snoc hpk, lensOf_snoc]; omega
    rw [← e]
    assumption
  case done =>
    rintro m₁ nx h tk ⟨hm, es₁, n₁, rfl, D₁⟩ F₁ N₁
    repeat' (first | (k_unfold; (try dsimp only)) | ((fail_if_success (with_reducible show wpAny _ _ (exec (Stmt.For _ _ _ _ _) _) _ _ _)); (fail_if_success (with_reducible show wpAny _ _ (pyIter _) _ _ _)); walk1) | (leave1; walk_say "STEP leave1"; try dsimp only) | fail "no step")
    refine ret _ _ _ _ _ rfl (by assumption) (by assumption) ?_
    simpa using D₁
set_option maxHeartbeats 8000000 in
theorem c_lost {w : World} {p : Program} {loose : List Str} {mean : ExcName → Option Value} {mg mb : Str → Option Value} {dp un : Nat} {gd : Option (List Code)} {cn : Str} {cs : Scope} {a : Addr} {ccd : Value} {cl : List (Str × Addr)} {outer : List Env} {A₀ : Around} {base h₀ : Heap} {L : Addr} {m : Str → Option Value} {s : Shared} {Q E : Value → Shared → Prop}
    {cx cd : Addr} {es : List DictEntry} {n : Nat} {c : Ctl} {others : List (Addr × Obj)} {gl : Addr} {pks : List Pk} {nn : Nat} {now : Int} {tn : Tok}
    (B : Below A₀ base outer h₀) (F : Fr h₀ L s.heap m) (X : (Mine.hd.heap_1 w.params).In h₀) (T : Top p loose mean mg mb h₀) (hk : cs.kind = .function)
    (N : News h₀ L s.heap ((cx, instObj 129 cd) :: (cd, dictOf es n) :: others)) (D : CtlD es c) (h1 : cx ≠ cd) (h2 : ∀ p ∈ others, p.1 ≠ cd)
    (hd : dp + 5 < recursionLimit) (hu : un + 40 < cLine) (G : (gl, listOf (pks.map (fun p => Value.ref p.at_)).toArray nn) ∈ others) (P : ∀ p ∈ pks, PkIn others p)
    (ret : ∀ h' tk es' n' c', c' = c.lost now pks → Fr h₀ L h' m → News h₀ L h' ((cx, instObj 129 cd) :: (cd, dictOf es' n') :: others) → CtlD es' c' → Q .none { s with heap := h', toks := tk }) :
    wpAny (model PySem.Challenge.rw_ix0003_01.row.prog w) (ktrTop dp un gd cn cs L a ccd cl outer) (call (.ref 112) [.ref cx] [("now", .int now tn), ("packets", .ref gl)]) Q E s := by
  refine wpAny_call ?_
  k_dflt ktr_enter
  repeat' (first | (k_unfold; (try dsimp only)) | ((fail_if_success (with_reducible show wpAny _ _ (exec (Stmt.For _ _ _ _ _) _) _ _ _)); (fail_if_success (with_reducible show wpAny _ _ (pyIter _) _ _ _)); walk1) | (leave1; walk_say "STEP leave1"; try dsimp only) | fail "no step")
  (rename Fr _ _ _ _ => lF')
  refine For_invVF lF' (by rfl) (by rfl) ?_
  repeat' (first | (k_unfold; (try dsimp only)) | ((fail_if_success (with_reducible show wpAny _ _ (exec (Stmt.For _ _ _ _ _) _) _ _ _)); (fail_if_success (with_reducible show wpAny _ _ (pyIter _) _ _ _)); walk1) | (leave1; walk_say "STEP leave1"; try dsimp only) | fail "no step")
  (rename News _ _ _ _ => lN')
  refine lp_list (nn := nn) (vs := pks.map (fun p => Value.ref p.at_)) (fun i m nx => m "self" = some (.ref cx) ∧ m "now" = some (.int now tn) ∧ (∃ t, m "lost_largest_time" = some (.int (lastTime (pks.take i)) t)) ∧ ∃ es n, nx = (cx, instObj 129 cd) :: (cd, dictOf es n) :: others ∧ CtlD es { c with fly := c.fly - lensOf (pks.take i) }) rfl ?hl lF' lN' ?hj ?turn ?done
  case hl =>
    rintro i m nx ⟨_, _, _, es, n, rfl, _⟩
    exact List.mem_cons_of_mem _ (List.mem_cons_of_mem _ G)
  case hj => exact ⟨rfl, rfl, ⟨_, rfl⟩, es, n, rfl, by simpa [lensOf] using D⟩
  case turn =>
    rintro i v m₁ nx h tk I io hv hI ⟨hm, hm2, ⟨tl, hm3⟩, es₁, n₁, rfl, D₁⟩ F₁ N₁
    obtain ⟨pk, hpk, rfl⟩ : ∃ pk, pks[i]? = some pk ∧ v = Value.ref pk.at_ := by
      rw [List.getElem?_map] at hv
      cases e : pks[i]? with
      | none => rw [e] at hv; cases hv
      | some q => rw [e] at hv; exact ⟨q, rfl, (Option.some.inj hv).symm⟩
    have P₁ := P pk (List.mem_of_getElem? hpk)
    have F₂ := pin_frx [("self", .ref cx), ("now", .int now tn), ("lost_largest_time", .int _ tl)] (by simpa using ⟨hm, hm2, hm3⟩) F₁
    clear F₁
    have N₂ : News _ _ h ((cx, instObj 129 cd) :: (cd, dictOf es₁ n₁) :: (I, io) :: others) := news_rot3 N₁
    clear N₁
    have h3 : ∀ p ∈ (I, io) :: others, p.1 ≠ cd := by
      intro q hq
      rcases List.mem_cons.mp hq with rfl | hq
      · exact fun e => hI _ (List.mem_cons_of_mem _ (.head _)) e.symm
      · exact h2 q hq
    repeat' (first | (k_unfold; (try dsimp only)) | ((fail_if_success (with_reducible show wpAny _ _ (exec (Stmt.For _ _ _ _ _) _) _ _ _)); (fail_if_success (with_reducible show wpAny _ _ (pyIter _) _ _ _)); walk1) | (leave1; walk_say "STEP leave1"; try dsimp only) | fail "no step")
    refine ⟨_, _, _, (cx, instObj 129 cd) :: (cd, dictOf _ _) :: others, rfl, by assumption, news_rot3' (by assumption), off2 hI, rfl, rfl, ⟨_, by rw [take_snoc hpk, lastTime_snoc]; rfl⟩, _, _, rfl, ?_⟩
    have e : c.fly - lensOf (pks.take i) - pk.len = c.fly - lensOf (pks.take (i + 1)) := by rw [take_snoc hpk, lensOf_snoc]; omega
    rw [← e]
    assumption
  case done =>
    rintro m₁ nx h tk ⟨hm, hm2, ⟨tl, hm3⟩, es₁, n₁, rfl, D₁⟩ F₁ N₁
    have F₂ := pin_fr [("self", .ref cx), ("now", .int now tn), ("lost_largest_time", .int _ tl)] (by simpa using ⟨hm, hm2, hm3⟩) F₁
    clear F₁
    simp only [List.length_map, List.take_length] at F₂ D₁
    repeat' (first | (k_unfold; (try dsimp only)) | ((fail_if_success (with_reducible show wpAny _ _ (exec (Stmt.For _ _ _ _ _) _) _ _ _)); (fail_if_success (with_reducible show wpAny _ _ (pyIter _) _ _ _)); walk1) | (leave1; walk_say "STEP leave1"; try dsimp only) | fail "no step")
    all_goals (refine ret _ _ _ _ _ ?_ (by assumption) (by assumption) (by assumption))
    all_goals (unfold Ctl.lost halved)
    all_goals (first | exact (if_pos (by omega)).symm | exact (if_neg (by omega)).symm)
end Mine
end PC3

section PC4
namespace Mine
theorem fresh_C4 : True := by
  w_top off
  first | walk1 | exact True.intro
theorem fillC4 (w : World) : Mine.hd.heap_1 w.params = Mine.hd.heap_1 w.params ∧ PySem.Challenge.rw_ix0003_01.row.prog = PySem.Challenge.rw_ix0003_01.row.prog := by
  k_fill
  exact ⟨rfl, rfl⟩
theorem mon_setItem {prog : Program} {w : World} {A : Around} {E : Value → Shared → Prop} {s : Shared} {h₀ : Heap} {L mx md sl : Addr} {m : Str → Option Value} {others : List (Addr × Obj)} {es : List DictEntry} {n k : Nat} {xs : List Value} {ns : List Int} {i r : Int} {t u : Tok} {Q : Unit → Shared → Prop}
    (F : Fr h₀ L s.heap m) (N : News h₀ L s.heap ((mx, instObj 64 md) :: (md, dictOf es n) :: (sl, listOf xs.toArray k) :: others)) (hx : IntsAre xs ns) (g1 : mx ≠ sl) (g2 : md ≠ sl) (g3 : ∀ p ∈ others, p.1 ≠ sl) (h0 : 0 ≤ i) (h1 : i < ns.length) (hl : ns.length = 5)
    (h : ∀ h' xs', Fr h₀ L h' m → News h₀ L h' ((mx, instObj 64 md) :: (md, dictOf es n) :: (sl, listOf xs'.toArray k) :: others) → IntsAre xs' (ns.set i.toNat r) → (ns.set i.toNat r).length = 5 → Q () { s with heap := h' }) :
    wpAny (model prog w) A (setItem (.ref sl) (.int i t) (.int r u)) Q E s :=
  ksa_set F N (.tail g1 (.tail g2 (.head g3))) hx h0 h1 (by omega) fun h' F' N' I' l' _ => h h' _ F' N' I' (by rw [l', hl])
theorem news_drop3 {h₀ : Heap} {L : Addr} {h : Heap} {a b c : Addr × Obj} {r : List (Addr × Obj)} (N : News h₀ L h (a :: b :: c :: r)) : News h₀ L h (a :: b :: r) := by
  refine kst_newsOf N fun q hq => ?_
  simp only [List.mem_cons] at hq ⊢
  rcases hq with e | e | e <;> simp [e]
theorem ints_at {vs : List Value} {ns : List Int} (h : IntsAre vs ns) {i : Nat} {v : Value} (hv : vs[i]? = some v) : ∃ x t, ns[i]? = some x ∧ v = .int x t := by
  have hi : i < ns.length := by
    have h1 := (List.getElem?_eq_some_iff.mp hv).1
    rw [h.length] at h1
    exact h1
  obtain ⟨t, e⟩ := h.get i ns[i] (by simp [hi])
  rw [hv] at e
  exact ⟨ns[i], t, by simp [hi], Option.some.inj e⟩
def lohi (p : Int × Int) (x : Int) : Int × Int := if x < p.1 then (x, p.2) else if x > p.2 then (p.1, x) else p
def spanOf (ns : List Int) : Int × Int := (ns.drop 1).foldl lohi (ns.getD 0 0, ns.getD 0 0)
def Mon.add (q : Mon) (ns : List Int) (r : Int) : Mon :=
  let ns' := ns.set q.idx.toNat r
  if q.idx + 1 ≥ 5 then { q with idx := 0, ready := true, smin := some (spanOf ns').1, smax := some (spanOf ns').2 }
  else if q.ready then { q with idx := q.idx + 1, smin := some (spanOf ns').1, smax := some (spanOf ns').2 }
  else { q with idx := q.idx + 1 }
local macro_rules | `(tactic| walk_at "FcPost") => `(tactic| (dsimp only [FcPost]))
local macro_rules | `(tactic| walk_at "setItem ref int") => `(tactic| (k_here; with_reducible (refine mon_setItem ‹_› ‹_› ‹_› ‹_› ‹_› ‹_› ?hz0 ?hz1 ‹_› ?_); (case hz0 => omega); (case hz1 => omega); intro _ _ F' N' I' l'))

set_option maxHeartbeats 8000000 in
theorem c_add {w : World} {p : Program} {loose : List Str} {mean : ExcName → Option Value} {mg mb : Str → Option Value} {dp un : Nat} {gd : Option (List Code)} {cn : Str} {cs : Scope} {a : Addr} {ccd : Value} {cl : List (Str × Addr)} {outer : List Env} {A₀ : Around} {base h₀ : Heap} {L : Addr} {m : Str → Option Value} {s : Shared} {Q E : Value → Shared → Prop}
    {mx md : Addr} {es : List DictEntry} {n k : Nat} {q : Mon} {xs : List Value} {ns : List Int} {others : List (Addr × Obj)} {r : Int} {tr : Tok}
    (B : Below A₀ base outer h₀) (F : Fr h₀ L s.heap m) (X : (Mine.hd.heap_1 w.params).In h₀) (T : Top p loose mean mg mb h₀) (hk : cs.kind = .function)
    (N : News h₀ L s.heap ((mx, instObj 64 md) :: (md, dictOf es n) :: (q.sl, listOf xs.toArray k) :: others)) (D : MonD es q) (hx : IntsAre xs ns) (hl : ns.length = 5) (hi : 0 ≤ q.idx) (hi5 : q.idx < 5)
    (h1 : mx ≠ md) (h2 : ∀ p ∈ others, p.1 ≠ md) (h3 : q.sl ≠ md) (g1 : mx ≠ q.sl) (g2 : md ≠ q.sl) (g3 : ∀ p ∈ others, p.1 ≠ q.sl)
    (hd : dp + 5 < recursionLimit) (hu : un + 40 < cLine)
    (ret : ∀ h' tk es' n' xs', Fr h₀ L h' m → News h₀ L h' ((mx, instObj 64 md) :: (md, dictOf es' n') :: (q.sl, listOf xs'.toArray k) :: others) → MonD es' (q.add ns r) → IntsAre xs' (ns.set q.idx.toNat r) → Q .none { s with heap := h', toks := tk }) :
    wpAny (model PySem.Challenge.rw_ix0003_01.row.prog w) (ktrTop dp un gd cn cs L a ccd cl outer) (call (.ref 54) [.ref mx] [("rtt", .int r tr)]) Q E s := by
  obtain ⟨inc, ready, fmin, idx, smax, smin, stime, sl⟩ := q
  cases ready
  all_goals dsimp only at *
  all_goals (
    refine wpAny_call ?_
    k_dflt ktr_enter
    repeat' (first | (k_unfold; (try dsimp only)) | ((fail_if_success (with_reducible show wpAny _ _ (exec (Stmt.For _ _ _ _ _) _) _ _ _)); (fail_if_success (with_reducible show wpAny _ _ (pyIter _) _ _ _)); walk1) | (leave1; walk_say "STEP leave1"; try dsimp only) | fail "no step")
    all_goals (first | ((fail_if_success (with_reducible show wpAny _ _ _ _ _ _)); refine ret _ _ _ _ _ (by assumption) (by assumption) ?_ (by assumption); unfold Mon.add; dsimp only; rw [if_neg (by omega)]; assumption) | skip)
    all_goals ((rename Fr _ _ _ _ => lF'); refine For_invVF lF' (by rfl) (by rfl) ?_)
    repeat' (first | (k_unfold; (try dsimp only)) | ((fail_if_success (with_reducible show wpAny _ _ (exec (Stmt.For _ _ _ _ _) _) _ _ _)); (fail_if_success (with_reducible show wpAny _ _ (pyIter _) _ _ _)); walk1) | (leave1; walk_say "STEP leave1"; try dsimp only) | fail "no step")
    all_goals (
      (rename Fr _ _ _ _ => lF'); (rename News _ _ _ _ => lN'); (rename IntsAre _ _ => iW); (rename MonD _ _ => lD)
      have N2 := news_rot3 lN'
      clear lN'
      obtain ⟨jdx, hj, lD2⟩ : ∃ jdx, jdx = (if idx + 1 ≥ 5 then 0 else idx + 1) ∧ MonD _ ⟨inc, true, fmin, jdx, some ((ns.set idx.toNat r).getD 0 0), some ((ns.set idx.toNat r).getD 0 0), stime, sl⟩ := ⟨_, by first | exact (if_pos (by omega)).symm | exact (if_neg (by omega)).symm, lD⟩
      clear lD
      refine lp_focus (fun i es => MonD es ⟨inc, true, fmin, jdx, some ((((ns.set idx.toNat r).drop 1).take i).foldl lohi ((ns.set idx.toNat r).getD 0 0, (ns.set idx.toNat r).getD 0 0)).2, some ((((ns.set idx.toNat r).drop 1).take i).foldl lohi ((ns.set idx.toNat r).getD 0 0, (ns.set idx.toNat r).getD 0 0)).1, stime, sl⟩) [("self", .ref mx)] rfl lF' N2 List.mem_cons_self (by intro p hp; rw [List.mem_singleton.mp hp]; rfl) lD2 ?turn ?done
      case turn =>
        rintro i v m₁ es₁ n₁ h tk I io hv D₁ hI1 hI2 hI3 F₁ N₁
        obtain ⟨x, t, hx₁, rfl⟩ := ints_at iW hv
        obtain ⟨lo, hi, hlh⟩ : ∃ lo hi, ((((ns.set idx.toNat r).drop 1).take i).foldl lohi ((ns.set idx.toNat r).getD 0 0, (ns.set idx.toNat r).getD 0 0)) = (lo, hi) := ⟨_, _, rfl⟩
        rw [hlh] at D₁
        dsimp only at D₁
        have hI2' : I ≠ md := fun e => hI2 e.symm
        repeat' (first | (k_unfold; (try dsimp only)) | ((fail_if_success (with_reducible show wpAny _ _ (exec (Stmt.For _ _ _ _ _) _) _ _ _)); (fail_if_success (with_reducible show wpAny _ _ (pyIter _) _ _ _)); walk1) | (leave1; walk_say "STEP leave1"; try dsimp only) | fail "no step")
        all_goals (
          refine FcEnd.intro (by assumption) (by assumption) (by intro p hp; rw [List.mem_singleton.mp hp]; rfl) ?_
          rw [take_snoc hx₁, List.foldl_append, hlh]
          simp only [List.foldl_cons, List.foldl_nil, lohi]
          first | (rw [if_pos (by omega)]; assumption) | (rw [if_neg (by omega), if_pos (by omega)]; assumption) | (rw [if_neg (by omega), if_neg (by omega)]; assumption))
      case done =>
        rintro m₁ es₁ n₁ h tk D₁ F₁ N₁
        rw [iW.length, List.take_length] at D₁
        repeat' (first | (k_unfold; (try dsimp only)) | ((fail_if_success (with_reducible show wpAny _ _ (exec (Stmt.For _ _ _ _ _) _) _ _ _)); (fail_if_success (with_reducible show wpAny _ _ (pyIter _) _ _ _)); walk1) | (leave1; walk_say "STEP leave1"; try dsimp only) | fail "no step")
        refine ret _ _ _ _ _ (by assumption) (news_drop3 (by assumption)) ?_ (by assumption)
        unfold Mon.add spanOf
        subst hj
        dsimp only
        by_cases h5 : idx + 1 ≥ 5
        all_goals first
          | (exfalso; omega)
          | (simp only [h5, if_true, if_false] at D₁ ⊢; exact D₁)))
end Mine
end PC4

section PC5
namespace Mine
theorem fresh_C5 : True := by
  w_top off
  first | walk1 | exact True.intro
theorem fillC5 (w : World) : Mine.hd.heap_1 w.params = Mine.hd.heap_1 w.params ∧ PySem.Challenge.rw_ix0003_01.row.prog = PySem.Challenge.rw_ix0003_01.row.prog := by
  k_fill
  exact ⟨rfl, rfl⟩

theorem mon_meth {prog : Program} {w : World} {A : Around} {E : Value → Shared → Prop} {s : Shared} {h₀ : Heap} {L mx md : Addr} {m : Str → Option Value} {others : List (Addr × Obj)} {es : List DictEntry} {n : Nat} {q : Mon} {pl : Sem Bool} {Q : Value × List Value → Shared → Prop}
    (F : Fr h₀ L s.heap m) (X : (Mine.hd.heap_1 w.params).In h₀) (N : News h₀ L s.heap ((mx, instObj 64 md) :: (md, dictOf es n) :: others)) (D : MonD es q)
    (h : Q (.ref 54, [.ref mx]) s) : wpAny (model prog w) A (getMethod (.ref mx) "add_rtt" pl) Q E s :=
  method_inst F X (InstAt.of_news N (.head _) (.tail _ (.head _))) (by k_is) (by k_is) (by k_is) D.m1 h
local macro_rules | `(tactic| walk_at "getMethod ref") => `(tactic| (k_here; with_reducible (refine mon_meth ‹_› ‹_› ‹_› ‹_› ?_)))

theorem Mon.add_cases (q : Mon) (ns : List Int) (r : Int) :
    (∃ j, q.add ns r = ⟨q.inc, true, q.fmin, j, some (spanOf (ns.set q.idx.toNat r)).2, some (spanOf (ns.set q.idx.toNat r)).1, q.stime, q.sl⟩) ∨ (∃ j, q.add ns r = ⟨q.inc, false, q.fmin, j, q.smax, q.smin, q.stime, q.sl⟩) := by
  unfold Mon.add
  dsimp only
  split
  · exact .inl ⟨_, rfl⟩
  · cases h : q.ready with
    | true => exact .inl ⟨_, by simp [h]; rfl⟩
    | false => exact .inr ⟨q.idx + 1, by simp [h]⟩
theorem c_add2 {w : World} {p : Program} {loose : List Str} {mean : ExcName → Option Value} {mg mb : Str → Option Value} {dp un : Nat} {gd : Option (List Code)} {cn : Str} {cs : Scope} {a : Addr} {ccd : Value} {cl : List (Str × Addr)} {outer : List Env} {A₀ : Around} {base h₀ : Heap} {L : Addr} {m : Str → Option Value} {s : Shared} {Q E : Value → Shared → Prop}
    {mx md sl : Addr} {es : List DictEntry} {n k : Nat} {q : Mon} {xs : List Value} {ns : List Int} {others : List (Addr × Obj)} {r : Int} {tr : Tok}
    (B : Below A₀ base outer h₀) (F : Fr h₀ L s.heap m) (X : (Mine.hd.heap_1 w.params).In h₀) (T : Top p loose mean mg mb h₀) (hk : cs.kind = .function)
    (N : News h₀ L s.heap ((mx, instObj 64 md) :: (md, dictOf es n) :: (sl, listOf xs.toArray k) :: others)) (D : MonD es q) (hx : IntsAre xs ns) (hl : ns.length = 5) (hi : 0 ≤ q.idx) (hi5 : q.idx < 5)
    (hsl : q.sl = sl) (h1 : mx ≠ md) (h2 : ∀ p ∈ others, p.1 ≠ md) (h3 : sl ≠ md) (g1 : mx ≠ sl) (g2 : md ≠ sl) (g3 : ∀ p ∈ others, p.1 ≠ sl)
    (hd : dp + 5 < recursionLimit) (hu : un + 40 < cLine)
    (ret1 : ∀ h' tk es' n' xs' j, q.add ns r = ⟨q.inc, true, q.fmin, j, some (spanOf (ns.set q.idx.toNat r)).2, some (spanOf (ns.set q.idx.toNat r)).1, q.stime, q.sl⟩ → Fr h₀ L h' m → News h₀ L h' ((mx, instObj 64 md) :: (md, dictOf es' n') :: (sl, listOf xs'.toArray k) :: others) → MonD es' ⟨q.inc, true, q.fmin, j, some (spanOf (ns.set q.idx.toNat r)).2, some (spanOf (ns.set q.idx.toNat r)).1, q.stime, q.sl⟩ → IntsAre xs' (ns.set q.idx.toNat r) → Q .none { s with heap := h', toks := tk })
    (ret2 : ∀ h' tk es' n' xs' j, q.add ns r = ⟨q.inc, false, q.fmin, j, q.smax, q.smin, q.stime, q.sl⟩ → Fr h₀ L h' m → News h₀ L h' ((mx, instObj 64 md) :: (md, dictOf es' n') :: (sl, listOf xs'.toArray k) :: others) → MonD es' ⟨q.inc, false, q.fmin, j, q.smax, q.smin, q.stime, q.sl⟩ → IntsAre xs' (ns.set q.idx.toNat r) → Q .none { s with heap := h', toks := tk }) :
    wpAny (model PySem.Challenge.rw_ix0003_01.row.prog w) (ktrTop dp un gd cn cs L a ccd cl outer) (call (.ref 54) [.ref mx] [("rtt", .int r tr)]) Q E s := by
  subst hsl
  exact c_add B F X T hk N D hx hl hi hi5 h1 h2 h3 g1 g2 g3 hd hu fun h' tk es' n' xs' F' N' D' I' => by
    rcases Mon.add_cases q ns r with ⟨j, e⟩ | ⟨j, e⟩
    · rw [e] at D'
      exact ret1 _ _ _ _ _ _ e F' N' D' I'
    · rw [e] at D'
      exact ret2 _ _ _ _ _ _ e F' N' D' I'
def Mon.rise (q : Mon) (ns : List Int) (now r : Int) : Mon × Bool :=
  let q1 := { q.add ns r with stime := now }
  let lo := (spanOf (ns.set q.idx.toNat r)).1
  let hi := (spanOf (ns.set q.idx.toNat r)).2
  if q1.ready then
    let f := q.fmin.elim hi fun f => if f > hi then hi else f
    if (lo - f) * 4 ≥ f then ({ q1 with fmin := some f, inc := q.inc + 1 }, decide (q.inc + 1 ≥ 5))
    else if lo - f > 0 then ({ q1 with fmin := some f, inc := 0 }, false)
    else ({ q1 with fmin := some f }, false)
  else (q1, false)
local macro_rules | `(tactic| walk_at "call ref") => `(tactic| (k_here; k_dflt (refine' c_add2 ?kB ?kF ?kX ?kT ?kk ?kN ?kD ?kx ?kl ?ki ?ki5 ?ks ?k1 ?k2 ?k3 ?g1 ?g2 ?g3 ?kd ?ku ?_ ?_); (case kB => k_asm); (case kF => k_asm); (case kX => k_asm); (case kT => k_asm); (case kk => exact rfl); (case kN => k_asm); (case kD => k_asm); (case kx => k_asm); (case ks => exact rfl); (case kl => k_asm); (case ki => k_asm); (case ki5 => k_asm); (case k1 => k_asm); (case k2 => k_asm); (case k3 => k_asm); (case g1 => k_asm); (case g2 => k_asm); (case g3 => k_asm); (case kd => ktr_room); (case ku => ktr_units); (all_goals intro _ _ _ _ _ _ e9 F' N' D' I')))

set_option maxHeartbeats 8000000 in
theorem c_rise {w : World} {p : Program} {loose : List Str} {mean : ExcName → Option Value} {mg mb : Str → Option Value} {dp un : Nat} {gd : Option (List Code)} {cn : Str} {cs : Scope} {a : Addr} {ccd : Value} {cl : List (Str × Addr)} {outer : List Env} {A₀ : Around} {base h₀ : Heap} {L : Addr} {m : Str → Option Value} {s : Shared} {Q E : Value → Shared → Prop}
    {mx md sl : Addr} {es : List DictEntry} {n k : Nat} {q : Mon} {xs : List Value} {ns : List Int} {others : List (Addr × Obj)} {now r : Int} {tn tr : Tok}
    (B : Below A₀ base outer h₀) (F : Fr h₀ L s.heap m) (X : (Mine.hd.heap_1 w.params).In h₀) (T : Top p loose mean mg mb h₀) (hk : cs.kind = .function)
    (N : News h₀ L s.heap ((mx, instObj 64 md) :: (md, dictOf es n) :: (sl, listOf xs.toArray k) :: others)) (D : MonD es q) (hx : IntsAre xs ns) (hl : ns.length = 5) (hi : 0 ≤ q.idx) (hi5 : q.idx < 5)
    (hsl : q.sl = sl) (h1 : mx ≠ md) (h2 : ∀ p ∈ others, p.1 ≠ md) (h3 : sl ≠ md) (g1 : mx ≠ sl) (g2 : md ≠ sl) (g3 : ∀ p ∈ others, p.1 ≠ sl)
    (hd : dp + 10 < recursionLimit) (hu : un + 80 < cLine) (hnow : now > q.stime + 1000)
    (ret : ∀ h' tk es' n' xs' q' b, (q', b) = q.rise ns now r → Fr h₀ L h' m → News h₀ L h' ((mx, instObj 64 md) :: (md, dictOf es' n') :: (sl, listOf xs'.toArray k) :: others) → MonD es' q' → IntsAre xs' (ns.set q.idx.toNat r) → Q (.bool b) { s with heap := h', toks := tk }) :
    wpAny (model PySem.Challenge.rw_ix0003_01.row.prog w) (ktrTop dp un gd cn cs L a ccd cl outer) (call (.ref 61) [.ref mx] [("now", .int now tn), ("rtt", .int r tr)]) Q E s := by
  obtain ⟨inc, ready, fmin, idx, smax, smin, stime, sl⟩ := q
  dsimp only at *
  subst hsl
  refine wpAny_call ?_
  k_dflt ktr_enter
  repeat' (first | (k_unfold; (try dsimp only)) | ((fail_if_success (with_reducible show wpAny _ _ (exec (Stmt.For _ _ _ _ _) _) _ _ _)); (fail_if_success (with_reducible show wpAny _ _ (pyIter _) _ _ _)); (fail_if_success (with_reducible show wpAny _ _ (exec (Stmt.If (PySem.Expr.BoolOp _ _ _) _ _ _) _) _ _ _)); walk1) | (leave1; walk_say "STEP leave1"; try dsimp only) | fail "no step")
  all_goals (first | ((with_reducible show wpAny _ _ (exec (Stmt.If (PySem.Expr.BoolOp _ _ _) _ _ _) _) _ _ _); cases fmin) | skip)
  all_goals (
    repeat' (first | (k_unfold; (try dsimp only)) | ((fail_if_success (with_reducible show wpAny _ _ (exec (Stmt.For _ _ _ _ _) _) _ _ _)); (fail_if_success (with_reducible show wpAny _ _ (pyIter _) _ _ _)); walk1) | (leave1; walk_say "STEP leave1"; try dsimp only) | fail "no step"))
  all_goals (refine ret _ _ _ _ _ _ _ ?_ (by assumption) (by assumption) (by assumption) (by assumption))
  all_goals (
    unfold Mon.rise
    (rename (Mon.add _ _ _ = _) => e9)
    rw [e9]
    dsimp only [Option.elim]
    clear e9
    repeat' split
    all_goals first | rfl | (exfalso; omega) | (exfalso; simp_all; done) | exact congrArg (Prod.mk _) (decide_eq_true (by omega)).symm | exact congrArg (Prod.mk _) (decide_eq_false (by omega)).symm)
end Mine
end PC5

section PC6
namespace Mine
theorem fresh_C6 : True := by
  w_top off
  first | walk1 | exact True.intro
theorem fillC6 (w : World) : Mine.hd.heap_1 w.params = Mine.hd.heap_1 w.params ∧ PySem.Challenge.rw_ix0003_01.row.prog = PySem.Challenge.rw_ix0003_01.row.prog := by
  k_fill
  exact ⟨rfl, rfl⟩

theorem rise_meth {prog : Program} {w : World} {A : Around} {E : Value → Shared → Prop} {s : Shared} {h₀ : Heap} {L mx md : Addr} {m : Str → Option Value} {a b : Addr × Obj} {others : List (Addr × Obj)} {es : List DictEntry} {n : Nat} {q : Mon} {pl : Sem Bool} {Q : Value × List Value → Shared → Prop}
    (F : Fr h₀ L s.heap m) (X : (Mine.hd.heap_1 w.params).In h₀) (N : News h₀ L s.heap (a :: b :: (mx, instObj 64 md) :: (md, dictOf es n) :: others)) (D : MonD es q)
    (h : Q (.ref 61, [.ref mx]) s) : wpAny (model prog w) A (getMethod (.ref mx) "is_rtt_increasing" pl) Q E s :=
  method_inst F X (InstAt.of_news N (.tail _ (.tail _ (.head _))) (.tail _ (.tail _ (.tail _ (.head _))))) (by k_is) (by k_is) (by k_is) D.m2 h
local macro_rules | `(tactic| walk_at "getMethod ref") => `(tactic| (k_here; with_reducible (refine rise_meth ‹_› ‹_› ‹_› ‹_› ?_)))
theorem news_perm5 {h₀ : Heap} {L : Addr} {h : Heap} {a b c d e : Addr × Obj} {r : List (Addr × Obj)} (N : News h₀ L h (a :: b :: c :: d :: e :: r)) : News h₀ L h (c :: d :: e :: a :: b :: r) := by
  refine kst_newsOf N fun q hq => ?_
  simp only [List.mem_cons] at hq ⊢
  rcases hq with e | e | e | e | e | e <;> simp [e]
theorem news_perm5' {h₀ : Heap} {L : Addr} {h : Heap} {a b c d e : Addr × Obj} {r : List (Addr × Obj)} (N : News h₀ L h (c :: d :: e :: a :: b :: r)) : News h₀ L h (a :: b :: c :: d :: e :: r) := by
  refine kst_newsOf N fun q hq => ?_
  simp only [List.mem_cons] at hq ⊢
  rcases hq with e | e | e | e | e | e <;> simp [e]

theorem c_rise2 {w : World} {p : Program} {loose : List Str} {mean : ExcName → Option Value} {mg mb : Str → Option Value} {dp un : Nat} {gd : Option (List Code)} {cn : Str} {cs : Scope} {a : Addr} {ccd : Value} {cl : List (Str × Addr)} {outer : List Env} {A₀ : Around} {base h₀ : Heap} {L : Addr} {m : Str → Option Value} {s : Shared} {Q E : Value → Shared → Prop}
    {cx cd mx md sl : Addr} {es em : List DictEntry} {n nm k : Nat} {q : Mon} {xs : List Value} {ns : List Int} {others : List (Addr × Obj)} {now r : Int} {tn tr : Tok}
    (B : Below A₀ base outer h₀) (F : Fr h₀ L s.heap m) (X : (Mine.hd.heap_1 w.params).In h₀) (T : Top p loose mean mg mb h₀) (hk : cs.kind = .function)
    (N : News h₀ L s.heap ((cx, instObj 129 cd) :: (cd, dictOf es n) :: (mx, instObj 64 md) :: (md, dictOf em nm) :: (sl, listOf xs.toArray k) :: others)) (D : MonD em q) (hx : IntsAre xs ns) (hl : ns.length = 5) (hi : 0 ≤ q.idx) (hi5 : q.idx < 5) (hsl : q.sl = sl)
    (h1 : mx ≠ md) (h2 : ∀ p ∈ others, p.1 ≠ md) (h3 : sl ≠ md) (g1 : mx ≠ sl) (g2 : md ≠ sl) (g3 : ∀ p ∈ others, p.1 ≠ sl)
    (k1 : cx ≠ cd) (k2 : ∀ p ∈ others, p.1 ≠ cd) (k3 : mx ≠ cd) (k4 : md ≠ cd) (k5 : sl ≠ cd) (k6 : cx ≠ md) (k7 : cx ≠ sl)
    (hd : dp + 10 < recursionLimit) (hu : un + 80 < cLine) (hnow : now > q.stime + 1000)
    (ret : ∀ h' tk em' n' xs' q' b, (q', b) = q.rise ns now r → Fr h₀ L h' m → News h₀ L h' ((cx, instObj 129 cd) :: (cd, dictOf es n) :: (mx, instObj 64 md) :: (md, dictOf em' n') :: (sl, listOf xs'.toArray k) :: others) → MonD em' q' → IntsAre xs' (ns.set q.idx.toNat r) → Q (.bool b) { s with heap := h', toks := tk }) :
    wpAny (model PySem.Challenge.rw_ix0003_01.row.prog w) (ktrTop dp un gd cn cs L a ccd cl outer) (call (.ref 61) [.ref mx] [("now", .int now tn), ("rtt", .int r tr)]) Q E s :=
  c_rise B F X T hk (news_perm5 N) D hx hl hi hi5 hsl h1 (off_cons k6 (off_cons (Ne.symm k4) h2)) h3 g1 g2 (off_cons k7 (off_cons (Ne.symm k5) g3)) hd hu hnow
    fun h' tk em' n' xs' q' b e F' N' D' I' => ret h' tk em' n' xs' q' b e F' (news_perm5' N') D' I'
local macro_rules | `(tactic| walk_at "call ref") => `(tactic| (k_here; k_dflt (refine' c_rise2 ?kB ?kF ?kX ?kT ?kk ?kN ?kD ?kx ?kl ?ki ?ki5 ?ks ?h1 ?h2 ?h3 ?g1 ?g2 ?g3 ?k1 ?k2 ?k3 ?k4 ?k5 ?k6 ?k7 ?kd ?ku ?kw ?_); (case kB => k_asm); (case kF => k_asm); (case kX => k_asm); (case kT => k_asm); (case kk => exact rfl); (case kN => k_asm); (case kD => k_asm); (case kx => k_asm); (case kl => k_asm); (case ki => k_asm); (case ki5 => k_asm); (case ks => first | exact rfl | k_asm); (case h1 => k_asm); (case h2 => k_asm); (case h3 => k_asm); (case g1 => k_asm); (case g2 => k_asm); (case g3 => k_asm); (case k1 => k_asm); (case k2 => k_asm); (case k3 => k_asm); (case k4 => k_asm); (case k5 => k_asm); (case k6 => k_asm); (case k7 => k_asm); (case kd => ktr_room); (case ku => ktr_units); (case kw => k_asm); intro _ _ _ _ _ _ b9 e9 F' N' D' I'; (cases b9)))

def rttMeas (c : Ctl) (q : Mon) (ns : List Int) (now r : Int) : Ctl × Mon × List Int :=
  if c.ss = none then ((if (q.rise ns now r).2 = true then { c with ss := some c.win } else c), (q.rise ns now r).1, ns.set q.idx.toNat r)
  else (c, q, ns)
set_option maxHeartbeats 8000000 in
theorem c_rtt {w : World} {p : Program} {loose : List Str} {mean : ExcName → Option Value} {mg mb : Str → Option Value} {dp un : Nat} {gd : Option (List Code)} {cn : Str} {cs : Scope} {a : Addr} {ccd : Value} {cl : List (Str × Addr)} {outer : List Env} {A₀ : Around} {base h₀ : Heap} {L : Addr} {m : Str → Option Value} {s : Shared} {Q E : Value → Shared → Prop}
    {cx cd mx md sl : Addr} {es em : List DictEntry} {n nm k : Nat} {c : Ctl} {q : Mon} {xs : List Value} {ns : List Int} {others : List (Addr × Obj)} {now r : Int} {tn tr : Tok}
    (B : Below A₀ base outer h₀) (F : Fr h₀ L s.heap m) (X : (Mine.hd.heap_1 w.params).In h₀) (T : Top p loose mean mg mb h₀) (hk : cs.kind = .function)
    (N : News h₀ L s.heap ((cx, instObj 129 cd) :: (cd, dictOf es n) :: (mx, instObj 64 md) :: (md, dictOf em nm) :: (sl, listOf xs.toArray k) :: others)) (D : MonD em q) (hx : IntsAre xs ns) (hl : ns.length = 5) (hi : 0 ≤ q.idx) (hi5 : q.idx < 5) (hsl : q.sl = sl)
    (h1 : mx ≠ md) (h2 : ∀ p ∈ others, p.1 ≠ md) (h3 : sl ≠ md) (g1 : mx ≠ sl) (g2 : md ≠ sl) (g3 : ∀ p ∈ others, p.1 ≠ sl)
    (k1 : cx ≠ cd) (k2 : ∀ p ∈ others, p.1 ≠ cd) (k3 : mx ≠ cd) (k4 : md ≠ cd) (k5 : sl ≠ cd) (k6 : cx ≠ md) (k7 : cx ≠ sl)
    (hd : dp + 20 < recursionLimit) (hu : un + 160 < cLine) (hnow : now > q.stime + 1000) (C : CtlD es c) (hmx : c.mx = mx)
    (ret : ∀ h' tk es' n' em' nm' xs' c' q' ns', (c', q', ns') = rttMeas c q ns now r → Fr h₀ L h' m → News h₀ L h' ((cx, instObj 129 cd) :: (cd, dictOf es' n') :: (mx, instObj 64 md) :: (md, dictOf em' nm') :: (sl, listOf xs'.toArray k) :: others) → CtlD es' c' → MonD em' q' → IntsAre xs' ns' → Q .none { s with heap := h', toks := tk }) :
    wpAny (model PySem.Challenge.rw_ix0003_01.row.prog w) (ktrTop dp un gd cn cs L a ccd cl outer) (call (.ref 126) [.ref cx] [("now", .int now tn), ("rtt", .int r tr)]) Q E s := by
  obtain ⟨unit, rcv, stash, mx', win, fly, ss⟩ := c
  cases ss
  all_goals dsimp only at *
  all_goals subst hmx
  all_goals (
    refine wpAny_call ?_
    k_dflt ktr_enter
    repeat' (first | (k_unfold; (try dsimp only)) | ((fail_if_success (with_reducible show wpAny _ _ (exec (Stmt.For _ _ _ _ _) _) _ _ _)); (fail_if_success (with_reducible show wpAny _ _ (pyIter _) _ _ _)); walk1) | (leave1; walk_say "STEP leave1"; try dsimp only) | fail "no step")
    all_goals (refine ret _ _ _ _ _ _ _ _ _ _ ?_ (by assumption) (by assumption) (by assumption) (by assumption) (by assumption))
    all_goals first
      | exact (if_neg (by simp)).symm
      | (rename (_ = Mon.rise _ _ _ _) => e9
         unfold rttMeas
         rw [if_pos rfl, ← e9]
         rfl))
end Mine
end PC6

section PC7
namespace Mine
theorem fresh_C7 : True := by
  w_top off
  first | walk1 | exact True.intro
theorem fillC7 (w : World) : Mine.hd.heap_1 w.params = Mine.hd.heap_1 w.params ∧ PySem.Challenge.rw_ix0003_01.row.prog = PySem.Challenge.rw_ix0003_01.row.prog := by
  k_fill
  exact ⟨rfl, rfl⟩
theorem fdiv_of {a b z : Int} (hb : 0 < b) (h0 : 0 ≤ a - z * b) (h1 : a - z * b < b) : a.fdiv b = z := by
  rw [Int.fdiv_eq_ediv_of_nonneg _ (Int.le_of_lt hb)]
  exact ((Int.ediv_emod_unique hb).2 ⟨by rw [Int.mul_comm b z]; omega, h0, h1⟩).1
def Wd.acked (v : Wd) (time len unit : Int) : Wd :=
  if time > v.rcv then
    if v.thr.all (fun x => decide (v.win < x)) then { v with win := v.win + len }
    else { v with rest := v.rest + len - (v.rest + len).fdiv v.win * v.win, win := v.win + (v.rest + len).fdiv v.win * unit }
  else v
local macro_rules | `(tactic| walk_at "WlPost") => `(tactic| (dsimp only [WlPost]))

set_option maxHeartbeats 8000000 in
theorem c_wacked {w : World} {p : Program} {loose : List Str} {mean : ExcName → Option Value} {mg mb : Str → Option Value} {dp un : Nat} {gd : Option (List Code)} {cn : Str} {cs : Scope} {a : Addr} {ccd : Value} {cl : List (Str × Addr)} {outer : List Env} {A₀ : Around} {base h₀ : Heap} {L : Addr} {m : Str → Option Value} {s : Shared} {Q E : Value → Shared → Prop}
    {wd : Addr} {wo : Obj} {kvs : List (Str × Value)} {v : Wd} {others : List (Addr × Obj)} {pk : Pk} {unit : Int} {tu : Tok}
    (B : Below A₀ base outer h₀) (F : Fr h₀ L s.heap m) (X : (Mine.hd.heap_1 w.params).In h₀) (T : Top p loose mean mg mb h₀) (hk : cs.kind = .function)
    (N : News h₀ L s.heap ((wd, wo) :: others)) (D : WorldD PySem.Challenge.rw_ix0003_01.row.prog w wo v kvs) (h2 : ∀ p ∈ others, p.1 ≠ wd)
    (hd : dp + 5 < recursionLimit) (hu : un + 40 < cLine) (P : PkIn others pk) (hw : 0 < v.win) (hr : 0 ≤ v.rest) (hl : 0 ≤ pk.len)
    (ret : ∀ h' tk wo' kvs' v', v' = v.acked pk.time pk.len unit → Fr h₀ L h' m → News h₀ L h' ((wd, wo') :: others) → WorldD PySem.Challenge.rw_ix0003_01.row.prog w wo' v' kvs' → Q .none { s with heap := h', toks := tk }) :
    wpAny (model PySem.Challenge.rw_ix0003_01.row.prog w) (ktrTop dp un gd cn cs L a ccd cl outer) (call (.ref 202) [.ref wd, .ref pk.at_, .int unit tu]) Q E s := by
  obtain ⟨win, thr, rcv, rest, meas, tl, floor, times⟩ := v
  dsimp only at *
  refine wpAny_call ?_
  k_dflt ktr_enter
  repeat' (first | (k_unfold; (try dsimp only)) | ((fail_if_success (with_reducible show wpAny _ _ (exec (Stmt.For _ _ _ _ _) _) _ _ _)); (fail_if_success (with_reducible show wpAny _ _ (exec (Stmt.While _ _ _ _) _) _ _ _)); (fail_if_success (with_reducible show wpAny _ _ (pyIter _) _ _ _)); (fail_if_success (with_reducible show wpAny _ _ (exec (Stmt.If (PySem.Expr.BoolOp _ _ _) _ _ _) _) _ _ _)); walk1) | (leave1; walk_say "STEP leave1"; try dsimp only) | fail "no step")
  all_goals (first | ((with_reducible show wpAny _ _ (exec (Stmt.If (PySem.Expr.BoolOp _ _ _) _ _ _) _) _ _ _); rcases thr with _ | th) | skip)
  all_goals (
    repeat' (first | (k_unfold; (try dsimp only)) | ((fail_if_success (with_reducible show wpAny _ _ (exec (Stmt.For _ _ _ _ _) _) _ _ _)); (fail_if_success (with_reducible show wpAny _ _ (exec (Stmt.While _ _ _ _) _) _ _ _)); (fail_if_success (with_reducible show wpAny _ _ (pyIter _) _ _ _)); walk1) | (leave1; walk_say "STEP leave1"; try dsimp only) | fail "no step"))
  all_goals (first | ((fail_if_success (with_reducible show wpAny _ _ _ _ _ _)); refine ret _ _ _ _ _ ?_ (by assumption) (by assumption) (by assumption); unfold Wd.acked; dsimp only [Option.all]; first | exact (if_neg (by omega)).symm | (rw [if_pos (by omega), if_pos (by simp; try omega)])) | skip)
  all_goals (
    (rename Fr _ _ _ _ => lF'); (rename News _ _ _ _ => lN'); (rename WorldD _ _ _ _ _ => lD)
    refine lp_while (n₀ := (rest + pk.len).toNat) (fun nn m nx => ∃ (o1 : Obj) (kvs1 : List (Str × Value)) (z : Int), m "world" = some (.ref wd) ∧ m "unit" = some (.int unit tu) ∧ (∃ t, m "old" = some (.int win t)) ∧ nx = (wd, o1) :: others ∧ WorldD PySem.Challenge.rw_ix0003_01.row.prog w o1 ⟨win + z * unit, some th, rcv, rest + pk.len - z * win, meas, tl, floor, times⟩ kvs1 ∧ 0 ≤ rest + pk.len - z * win ∧ nn = (rest + pk.len - z * win).toNat) lF' lN' ⟨_, _, 0, rfl, rfl, ⟨_, rfl⟩, rfl, (by simpa using lD), by omega, by simp⟩ ?_
    rintro nn m₁ nx h tk F₁ N₁ ⟨o1, kvs1, z, hm1, hm2, ⟨t3, hm3⟩, rfl, D₁, hz, hnn⟩
    have F₂ := pin_fr [("world", .ref wd), ("unit", .int unit tu), ("old", .int win t3)] (by simpa using ⟨hm1, hm2, hm3⟩) F₁
    clear F₁ lF' lN' lD
    generalize hR : rest + pk.len - z * win = R at D₁ hz hnn
    generalize hW : win + z * unit = W1 at D₁
    repeat' (first | (k_unfold; (try dsimp only)) | ((fail_if_success (with_reducible show wpAny _ _ (exec (Stmt.For _ _ _ _ _) _) _ _ _)); (fail_if_success (with_reducible show wpAny _ _ (exec (Stmt.While _ _ _ _) _) _ _ _)); (fail_if_success (with_reducible show wpAny _ _ (pyIter _) _ _ _)); walk1) | (leave1; walk_say "STEP leave1"; try dsimp only) | fail "no step")
    · have e1 : (z + 1) * win = z * win + win := by rw [Int.add_mul, Int.one_mul]
      have e2 : (z + 1) * unit = z * unit + unit := by rw [Int.add_mul, Int.one_mul]
      (rename WorldD _ _ _ _ _ => lD9)
      rw [show R - win = rest + pk.len - (z + 1) * win by rw [e1]; omega, show W1 + unit = win + (z + 1) * unit by rw [e2]; omega] at lD9
      exact ⟨_, _, _, _, (R - win).toNat, rfl, by assumption, by assumption, by omega, _, _, z + 1, rfl, rfl, ⟨_, rfl⟩, rfl, lD9, by rw [e1]; omega, by rw [e1, show rest + pk.len - (z * win + win) = R - win by omega]⟩
    · refine ret _ _ _ _ _ ?_ (by assumption) (by assumption) (by assumption)
      have hq : (rest + pk.len).fdiv win = z := fdiv_of hw (by omega) (by omega)
      unfold Wd.acked
      dsimp only [Option.all]
      rw [if_pos (by omega), if_neg (by simp; omega), hq, hR, hW])
end Mine
end PC7

section PC8
namespace Mine
theorem fresh_C8 : True := by
  w_top off
  first | walk1 | exact True.intro
theorem fillC8 (w : World) : Mine.hd.heap_1 w.params = Mine.hd.heap_1 w.params ∧ PySem.Challenge.rw_ix0003_01.row.prog = PySem.Challenge.rw_ix0003_01.row.prog := by
  k_fill
  exact ⟨rfl, rfl⟩

theorem t_append {prog : Program} {w : World} {A : Around} {E : Value → Shared → Prop} {s : Shared} {h₀ : Heap} {L tl : Addr} {m : Str → Option Value} {others : List (Addr × Obj)} {p1 : Addr × Obj} {k : Nat} {xs : List Value} {ns : List Int} {r : Int} {u : Tok} {Q : Value → Shared → Prop}
    (F : Fr h₀ L s.heap m) (N : News h₀ L s.heap (p1 :: (tl, listOf xs.toArray k) :: others)) (hx : IntsAre xs ns) (g1 : p1.1 ≠ tl) (g3 : ∀ p ∈ others, p.1 ≠ tl) (hl : ns.length ≤ 1000)
    (h : ∀ h' xs' k', Fr h₀ L h' m → News h₀ L h' (p1 :: (tl, listOf xs'.toArray k') :: others) → IntsAre xs' (ns ++ [r]) → Q .none { s with heap := h' }) :
    wpAny (model prog w) A (call (.builtin "list.append") [.ref tl, .int r u]) Q E s :=
  append_K F N (.tail g1 (.head g3)) (fun h' F' N' => h h' (xs ++ [.int r u]) (k + 1) F' (by simpa using N') (ksk_snoc hx)) (by rw [List.size_toArray, hx.length, sizeLine_eq]; omega)
local macro_rules | `(tactic| walk_at "call builtin:list.append") => `(tactic| (k_here; with_reducible (refine t_append ‹_› ‹_› ‹_› ?hz1 ‹_› ‹_› ?_); (case hz1 => exact Ne.symm ‹_›); intro _ _ _ F' N' I'))
theorem lohi_fold (r : List Int) : ∀ lo hi : Int, lo ≤ hi → ((r.foldl lohi (lo, hi)).1 ≤ lo ∧ hi ≤ (r.foldl lohi (lo, hi)).2 ∧ ((r.foldl lohi (lo, hi)).1 = lo ∨ (r.foldl lohi (lo, hi)).1 ∈ r) ∧ ((r.foldl lohi (lo, hi)).2 = hi ∨ (r.foldl lohi (lo, hi)).2 ∈ r) ∧ ∀ a ∈ r, (r.foldl lohi (lo, hi)).1 ≤ a ∧ a ≤ (r.foldl lohi (lo, hi)).2) := by
  induction r with
  | nil => intro lo hi h; simp
  | cons x r ih =>
    intro lo hi h
    rw [List.foldl_cons]
    by_cases h1 : x < lo
    · rw [show lohi (lo, hi) x = (x, hi) from if_pos h1]
      obtain ⟨a1, a2, a3, a4, a5⟩ := ih x hi (by omega)
      refine ⟨by omega, a2, ?_, ?_, ?_⟩
      · rcases a3 with e | e
        · exact .inr (by rw [e]; exact List.mem_cons_self)
        · exact .inr (List.mem_cons_of_mem _ e)
      · rcases a4 with e | e
        · exact .inl e
        · exact .inr (List.mem_cons_of_mem _ e)
      · intro b hb
        rcases List.mem_cons.mp hb with rfl | hb
        · exact ⟨a1, by omega⟩
        · exact a5 b hb
    · by_cases h2 : x > hi
      · rw [show lohi (lo, hi) x = (lo, x) from (if_neg h1).trans (if_pos h2)]
        obtain ⟨a1, a2, a3, a4, a5⟩ := ih lo x (by omega)
        refine ⟨a1, by omega, ?_, ?_, ?_⟩
        · rcases a3 with e | e
          · exact .inl e
          · exact .inr (List.mem_cons_of_mem _ e)
        · rcases a4 with e | e
          · exact .inr (by rw [e]; exact List.mem_cons_self)
          · exact .inr (List.mem_cons_of_mem _ e)
        · intro b hb
          rcases List.mem_cons.mp hb with rfl | hb
          · exact ⟨by omega, a2⟩
          · exact a5 b hb
      · rw [show lohi (lo, hi) x = (lo, hi) from (if_neg h1).trans (if_neg h2)]
        obtain ⟨a1, a2, a3, a4, a5⟩ := ih lo hi h
        refine ⟨a1, a2, ?_, ?_, ?_⟩
        · rcases a3 with e | e
          · exact .inl e
          · exact .inr (List.mem_cons_of_mem _ e)
        · rcases a4 with e | e
          · exact .inl e
          · exact .inr (List.mem_cons_of_mem _ e)
        · intro b hb
          rcases List.mem_cons.mp hb with rfl | hb
          · exact ⟨by omega, by omega⟩
          · exact a5 b hb
theorem span_spec {ns : List Int} (h : 0 < ns.length) : (spanOf ns).1 ∈ ns ∧ (∀ a ∈ ns, (spanOf ns).1 ≤ a) ∧ (spanOf ns).2 ∈ ns ∧ (∀ a ∈ ns, a ≤ (spanOf ns).2) := by
  cases ns with
  | nil => exact absurd h (by simp)
  | cons x r =>
    obtain ⟨a1, a2, a3, a4, a5⟩ := lohi_fold r x x (Int.le_refl _)
    have e : spanOf (x :: r) = r.foldl lohi (x, x) := rfl
    rw [e]
    refine ⟨?_, ?_, ?_, ?_⟩
    · rcases a3 with e | e
      · rw [e]; exact List.mem_cons_self
      · exact List.mem_cons_of_mem _ e
    · intro b hb
      rcases List.mem_cons.mp hb with rfl | hb
      · exact a1
      · exact (a5 b hb).1
    · rcases a4 with e | e
      · rw [e]; exact List.mem_cons_self
      · exact List.mem_cons_of_mem _ e
    · intro b hb
      rcases List.mem_cons.mp hb with rfl | hb
      · exact a2
      · exact (a5 b hb).2
theorem t_slice_from {prog : Program} {w : World} {A : Around} {E : Value → Shared → Prop} {s : Shared} {h₀ : Heap} {L l : Addr} {m : Str → Option Value} {news : List (Addr × Obj)} {k : Nat} {vs : List Value} {ns : List Int} {value slice : PySem.Expr} {x : Int} {t : Tok} {Q : Value → Shared → Prop}
    (F : Fr h₀ L s.heap m) (N : News h₀ L s.heap news) (hl : (l, listOf vs.toArray k) ∈ news) (hi : IntsAre vs ns) (h0 : 0 ≤ x) (hz : ns.length ≤ 1001)
    (h : ∀ D ws h', Fr h₀ L h' m → News h₀ L h' ((D, listOf ws.toArray 0) :: news) → IntsAre ws (ns.drop x.toNat) → (∀ p ∈ news, p.1 < D) → Q (.ref D) { s with heap := h' })
    (hs : subscripted slice false (.ref l) (.ref s.heap.objs.size) = operate [.ref s.heap.objs.size, .ref l] (getItem (.ref l) (.ref s.heap.objs.size))) (ht : ∀ r, letTemporaryGo value (.ref l) r = pure ()) :
    wpAny (model prog w) A (subscriptTail value slice (.ref l) (.ref s.heap.objs.size)) Q E { s with heap := s.heap.push { cls := .type "slice", data := .fields #[.int x t, .none, .none] } } := by
  refine kmk_slice F N ⟨_, (N _ hl).1, rfl, k, rfl⟩ (IsPart.int x t) IsPart.none (fun D h' F' N' hlt => ?_) hs ht (by rw [List.size_toArray, hi.length, sizeLine_eq]; omega)
  exact h D (slicePick vs.toArray (some x) none none).toList h' F' (by simpa using N') (kmk_from hi h0) hlt
local macro_rules | `(tactic| walk_at "subscriptTail Name Slice ref ref") => `(tactic| (k_here; (with_reducible show wpAny _ _ (subscriptTail _ (PySem.Expr.Slice (some _) none none _) (Value.ref _) (Value.ref _)) _ _ _); (refine t_slice_from ‹_› ‹_› (by walk_at "zz m") ‹_› ?hz0 ?hz1 ?_ ?hs ?ht); (case hz0 => omega); (case hz1 => (simp only [List.length_append, List.length_cons, List.length_nil]; omega)); (case hs => with_unfolding_all rfl); (case ht => (intro _; with_unfolding_all rfl)); intro D' ws' h' F' N' hI' l1; (try k_lt l1)))
def Wd.grow (v : Wd) (T : List Int) (now trip : Int) : Wd × Bool :=
  if ((T.length + 1 : Nat) : Int) < 5 then ({ v with meas := now }, false)
  else
    let last := List.drop (((T.length + 1 : Nat) : Int) - 5).toNat (T ++ [trip])
    let f := v.floor.elim (spanOf last).2 fun f => if (spanOf last).2 < f then (spanOf last).2 else f
    if 4 * ((spanOf last).1 - f) ≥ f then ({ v with meas := now, floor := some f, times := v.times + 1 }, decide (5 ≤ v.times + 1))
    else if (spanOf last).1 - f > 0 then ({ v with meas := now, floor := some f, times := 0 }, false)
    else ({ v with meas := now, floor := some f }, false)
theorem news_tail {h₀ : Heap} {L : Addr} {h : Heap} {a : Addr × Obj} {r : List (Addr × Obj)} (N : News h₀ L h (a :: r)) : News h₀ L h r := kst_newsOf N fun q hq => List.mem_cons_of_mem _ hq
theorem t_max {prog : Program} {w : World} {A : Around} {E : Value → Shared → Prop} {s : Shared} {h₀ : Heap} {L l : Addr} {m : Str → Option Value} {rest : List (Addr × Obj)} {k : Nat} {xs : List Value} {ns : List Int} {Q : Value → Shared → Prop}
    (hh : A.handled = none) (F : Fr h₀ L s.heap m) (N : News h₀ L s.heap ((l, listOf xs.toArray k) :: rest)) (hx : IntsAre xs ns) (hne : 0 < ns.length)
    (h : ∀ h' (t : Tok) tk, Fr h₀ L h' m → News h₀ L h' ((l, listOf xs.toArray k) :: rest) → Q (.int (spanOf ns).2 t) { s with heap := h', toks := tk }) :
    wpAny (model prog w) A (call (.builtin "max") [.ref l]) Q E s :=
  kso_max F N ⟨_, (N _ List.mem_cons_self).1, rfl, k, rfl⟩ hx hne hh fun h' M t tk F' N' a b => by
    obtain ⟨s1, s2, s3, s4⟩ := span_spec hne
    have e : M = (spanOf ns).2 := Int.le_antisymm (s4 _ a) (b _ s3)
    rw [e]
    exact h h' t tk F' N'
theorem t_min {prog : Program} {w : World} {A : Around} {E : Value → Shared → Prop} {s : Shared} {h₀ : Heap} {L l : Addr} {m : Str → Option Value} {rest : List (Addr × Obj)} {k : Nat} {xs : List Value} {ns : List Int} {Q : Value → Shared → Prop}
    (hh : A.handled = none) (F : Fr h₀ L s.heap m) (N : News h₀ L s.heap ((l, listOf xs.toArray k) :: rest)) (hx : IntsAre xs ns) (hne : 0 < ns.length)
    (h : ∀ h' (t : Tok) tk, Fr h₀ L h' m → News h₀ L h' ((l, listOf xs.toArray k) :: rest) → Q (.int (spanOf ns).1 t) { s with heap := h', toks := tk }) :
    wpAny (model prog w) A (call (.builtin "min") [.ref l]) Q E s :=
  kso_min F N ⟨_, (N _ List.mem_cons_self).1, rfl, k, rfl⟩ hx hne hh fun h' M t tk F' N' a b => by
    obtain ⟨s1, s2, s3, s4⟩ := span_spec hne
    have e : M = (spanOf ns).1 := Int.le_antisymm (b _ s1) (s2 _ a)
    rw [e]
    exact h h' t tk F' N'
local macro_rules | `(tactic| walk_at "call builtin:max") => `(tactic| (k_here; with_reducible (show wpAny _ _ (call (Value.builtin _) [Value.ref _]) _ _ _); (refine t_max rfl ‹_› ‹_› ‹_› ?hz ?_); (case hz => (simp only [List.length_drop, List.length_append, List.length_cons, List.length_nil]; omega)); intro _ _ _ F' N'))
local macro_rules | `(tactic| walk_at "call builtin:min") => `(tactic| (k_here; with_reducible (show wpAny _ _ (call (Value.builtin _) [Value.ref _]) _ _ _); (refine t_min rfl ‹_› ‹_› ‹_› ?hz ?_); (case hz => (simp only [List.length_drop, List.length_append, List.length_cons, List.length_nil]; omega)); intro _ _ _ F' N'))

set_option maxHeartbeats 8000000 in
theorem c_grow {w : World} {p : Program} {loose : List Str} {mean : ExcName → Option Value} {mg mb : Str → Option Value} {dp un : Nat} {gd : Option (List Code)} {cn : Str} {cs : Scope} {a : Addr} {ccd : Value} {cl : List (Str × Addr)} {outer : List Env} {A₀ : Around} {base h₀ : Heap} {L : Addr} {m : Str → Option Value} {s : Shared} {Q E : Value → Shared → Prop}
    {wd tl : Addr} {ts : List Value} {T9 : List Int} {nt : Nat} {wo : Obj} {kvs : List (Str × Value)} {v : Wd} {others : List (Addr × Obj)} {now trip : Int} {tn tt : Tok}
    (B : Below A₀ base outer h₀) (F : Fr h₀ L s.heap m) (X : (Mine.hd.heap_1 w.params).In h₀) (T : Top p loose mean mg mb h₀) (hk : cs.kind = .function)
    (N : News h₀ L s.heap ((wd, wo) :: (tl, listOf ts.toArray nt) :: others)) (D : WorldD PySem.Challenge.rw_ix0003_01.row.prog w wo v kvs) (h2 : ∀ p ∈ others, p.1 ≠ wd)
    (hd : dp + 5 < recursionLimit) (hu : un + 40 < cLine) (htl : v.tl = tl) (hx : IntsAre ts T9) (hT : T9.length ≤ 1000) (h3 : tl ≠ wd) (h4 : ∀ p ∈ others, p.1 ≠ tl) (hnow : now > v.meas + 1000)
    (ret : ∀ h' tk wo' kvs' v' ts' nt' b, (v', b) = v.grow T9 now trip → Fr h₀ L h' m → News h₀ L h' ((wd, wo') :: (tl, listOf ts'.toArray nt') :: others) → WorldD PySem.Challenge.rw_ix0003_01.row.prog w wo' v' kvs' → IntsAre ts' (T9 ++ [trip]) → Q (.bool b) { s with heap := h', toks := tk }) :
    wpAny (model PySem.Challenge.rw_ix0003_01.row.prog w) (ktrTop dp un gd cn cs L a ccd cl outer) (call (.ref 195) [.ref wd, .int now tn, .int trip tt]) Q E s := by
  obtain ⟨win, thr, rcv, rest, meas, tl', floor, times⟩ := v
  dsimp only at *
  subst htl
  refine wpAny_call ?_
  k_dflt ktr_enter
  repeat' (first | (k_unfold; (try dsimp only)) | ((fail_if_success (with_reducible show wpAny _ _ (exec (Stmt.For _ _ _ _ _) _) _ _ _)); (fail_if_success (with_reducible show wpAny _ _ (exec (Stmt.While _ _ _ _) _) _ _ _)); (fail_if_success (with_reducible show wpAny _ _ (pyIter _) _ _ _)); (fail_if_success (with_reducible show wpAny _ _ (exec (Stmt.If (PySem.Expr.BoolOp _ _ _) _ _ _) _) _ _ _)); walk1) | (leave1; walk_say "STEP leave1"; try dsimp only) | fail "no step")
  all_goals (first | ((with_reducible show wpAny _ _ (exec (Stmt.If (PySem.Expr.BoolOp _ _ _) _ _ _) _) _ _ _); rcases floor with _ | fl) | skip)
  all_goals (
    repeat' (first | (k_unfold; (try dsimp only)) | ((fail_if_success (with_reducible show wpAny _ _ (exec (Stmt.For _ _ _ _ _) _) _ _ _)); (fail_if_success (with_reducible show wpAny _ _ (exec (Stmt.While _ _ _ _) _) _ _ _)); (fail_if_success (with_reducible show wpAny _ _ (pyIter _) _ _ _)); walk1) | (leave1; walk_say "STEP leave1"; try dsimp only) | fail "no step"))
  all_goals (first | refine ret _ _ _ _ _ _ _ _ ?_ (by assumption) (by assumption) (by assumption) (by assumption) | refine ret _ _ _ _ _ _ _ _ ?_ (by assumption) (news_tail (by assumption)) (by assumption) (by assumption))
  all_goals (
    unfold Wd.grow
    dsimp only [Option.elim]
    repeat' split
    all_goals first | rfl | (exfalso; omega))
end Mine
end PC8

section PC9
namespace Mine
theorem fresh_C9 : True := by
  w_top off
  first | walk1 | exact True.intro
theorem fillC9 (w : World) : Mine.hd.heap_1 w.params = Mine.hd.heap_1 w.params ∧ PySem.Challenge.rw_ix0003_01.row.prog = PySem.Challenge.rw_ix0003_01.row.prog := by
  k_fill
  exact ⟨rfl, rfl⟩
local macro_rules | `(tactic| k_all) => `(tactic| assumption)

set_option maxHeartbeats 8000000 in
theorem c_mkpk {w : World} {p : Program} {loose : List Str} {mean : ExcName → Option Value} {mg mb : Str → Option Value} {dp un : Nat} {gd : Option (List Code)} {cn : Str} {cs : Scope} {a : Addr} {ccd : Value} {cl : List (Str × Addr)} {outer : List Env} {A₀ : Around} {base h₀ : Heap} {L : Addr} {m : Str → Option Value} {s : Shared} {Q E : Value → Shared → Prop} {news : List (Addr × Obj)} {ve vp : Value} {num now len : Int} {t1 t2 t3 : Tok}
    (B : Below A₀ base outer h₀) (F : Fr h₀ L s.heap m) (X : (Mine.hd.heap_1 w.params).In h₀) (T : Top p loose mean mg mb h₀) (hk : cs.kind = .function)
    (N : News h₀ L s.heap news)
    (hd : dp + 5 < recursionLimit) (hu : un + 40 < cLine)
    (ret : ∀ h' tk x1 x2 x3 o1 o2 o3, Fr h₀ L h' m → News h₀ L h' ((x1, o1) :: (x2, o2) :: (x3, o3) :: news) → PkIn [(x1, o1), (x2, o2), (x3, o3)] ⟨x2, num, now, len⟩ → (∀ q ∈ news, q.1 < x3) → x3 < x2 → x2 < x1 → Q (.ref x2) { s with heap := h', toks := tk }) :
    wpAny (model PySem.Challenge.rw_ix0003_01.row.prog w) (ktrTop dp un gd cn cs L a ccd cl outer) (call (.ref 177) [ve, .bool true, .bool true, .bool false, .int num t1, vp, .int now t2, .int len t3]) Q E s := by
  refine call_cls F X N (by k_dflt k_is) (by k_dflt k_is) (by k_dflt k_is) ?_
  intro x2 x3 h2 F2 N2 l1 l2
  have l3 := l2
  k_lt2 l2
  have hoff : ∀ p ∈ news, p.1 ≠ x3 := fun p hp => Nat.ne_of_lt (l1 p hp)
  k_dflt (refine' code_def ?k1 ?k2 ?k3 ?k4 ?k5 ?kA ?kF ?kK ?k6 ?k7 ?k8 ?k9 ?kB ?_ ?c2 ?c3 ?c4 ?c5; (case kA => exact rfl); (case kF => exact rfl); (case kK => assumption); (case k1 => k_asm); (case k2 => k_asm); (case k3 => k_asm); (case k4 => k_asm); (case k5 => k_asm); (case k6 => k_is); (case k7 => k_is); (case k8 => ktr_room); (case k9 => exact binds_K (by k_in) rfl (by k_is) rfl rfl rfl); (case c5 => decide); (case kB => exact locs rfl); (case c2 => exact rfl); (case c3 => exact rfl); (case c4 => exact rfl); k_whole; intro g' L' h' FG' F' N' B' X' T'; (try dsimp only); (try k_fold))
  repeat' (first | (k_unfold; (try dsimp only)) | ((fail_if_success (with_reducible show wpAny _ _ (exec (Stmt.For _ _ _ _ _) _) _ _ _)); (fail_if_success (with_reducible show wpAny _ _ (exec (Stmt.While _ _ _ _) _) _ _ _)); (fail_if_success (with_reducible show wpAny _ _ (pyIter _) _ _ _)); walk1) | (leave1; walk_say "STEP leave1"; try dsimp only) | fail "no step")
  refine ret _ _ _ _ _ _ _ _ (by assumption) (by assumption) ⟨x3, _, _, _, _, _, List.mem_cons_of_mem _ List.mem_cons_self, List.mem_cons_of_mem _ (List.mem_cons_of_mem _ List.mem_cons_self), by k_dflt k_get, by k_dflt k_get, by k_dflt k_get⟩ l1 l3 ?_
  show @LT.lt Nat _ _ _
  omega
end Mine
end PC9

section PB0
namespace Mine
theorem fresh_B0 : True := by
  w_top off
  first | walk1 | exact True.intro
theorem fillB0 (w : World) : Mine.hd.heap_1 w.params = Mine.hd.heap_1 w.params ∧ PySem.Challenge.rw_ix0003_01.row.prog = PySem.Challenge.rw_ix0003_01.row.prog := by
  k_fill
  exact ⟨rfl, rfl⟩

def fnBody : Option Stmt → List Stmt
  | some (.FunctionDef (body := b) ..) => b
  | _ => []
def fnScope : Option Stmt → Scope → Scope
  | some (.FunctionDef (scope := b) ..), _ => b
  | _, d => d
def forBody : Option Stmt → List Stmt
  | some (.For (body := b) ..) => b
  | _ => []
def ifBody : Option Stmt → List Stmt
  | some (.If (body := b) ..) => b
  | _ => []
def ifElse : Option Stmt → List Stmt
  | some (.If (orelse := b) ..) => b
  | _ => []
def nth : List Stmt → Nat → Option Stmt
  | [], _ => none
  | a :: _, 0 => some a
  | _ :: r, n + 1 => nth r n
def lawStmts : List Stmt := fnBody (nth PySem.Challenge.pw_ix0003_01.main.body 17)
def lawScope : Scope := fnScope (nth PySem.Challenge.pw_ix0003_01.main.body 17) PySem.Challenge.pw_ix0003_01.main.scope
def turnStmts : List Stmt := forBody (nth lawStmts 7)
def brSent : List Stmt := ifBody (nth turnStmts 3)
def else1 : List Stmt := ifElse (nth turnStmts 3)
def brAcked : List Stmt := ifBody (nth else1 0)
def else2 : List Stmt := ifElse (nth else1 0)
def brLost : List Stmt := ifBody (nth else2 0)
def else3 : List Stmt := ifElse (nth else2 0)
def brPersist : List Stmt := ifBody (nth else3 0)
def else4 : List Stmt := ifElse (nth else3 0)
def brRtt : List Stmt := ifBody (nth else4 0)

theorem sub_cons {α : Type} {a : α} {l l' : List α} (h1 : a ∈ l) (h2 : ∀ p ∈ l', p ∈ l) : ∀ p ∈ a :: l', p ∈ l := fun p hp => (List.mem_cons.mp hp).elim (fun e => e ▸ h1) (h2 p)
theorem newsSub {h₀ : Heap} {L : Addr} {h : Heap} {l l' : List (Addr × Obj)} (N : News h₀ L h l) (hs : ∀ p ∈ l', p ∈ l) : News h₀ L h l' := fun p hp => N p (hs p hp)
theorem law_store {M : Model} {A : Around} {E : Value → Shared → Prop} {s : Shared} {h₀ : Heap} {L a : Addr} {m : Str → Option Value} {cn : Str} {cs : Scope} {ccd : Value} {x : Str} {v : Value} {Q : Unit → Shared → Prop} {news : List (Addr × Obj)} {g : Obj → List (Addr × Obj)} {c : Addr} {o : Obj} {v₀ : Option Value}
    (F : Fr h₀ L s.heap m) (N : News h₀ L s.heap news) (U : UpdF c o news g) (hd : o.data = .cell v₀)
    (h : ∀ h' o', Fr h₀ L h' m → News h₀ L h' (g o') → o'.data = .cell (some v) → Q () { s with heap := h' })
    (hk : cs.kind = .function := by rfl) (hx : (envX cn cs L a ccd [(x, c)]).kindOf x = some .cell := by rfl) : wpAny M A (storeName (envX cn cs L a ccd [(x, c)]) x v) Q E s :=
  storeX_C F N (by simp) U hd h hk hx

structure Sg where
  now : Int
  trip : Int
  number : Int
  v : Wd
  c : Ctl
  q : Mon
  T : List Int
  ring : List Int
  out : List Pk
def refsOf (out : List Pk) : List Value := out.map (fun p => Value.ref p.at_)
inductive Core (w : World) (unit : Int) (pc wd tl cx cd mx md sl nl : Addr) (nvs : List Value) (nk : Nat) (σ : Sg) (m : Str → Option Value) (nx : List (Addr × Obj)) : Prop
  | mk {ol : Addr} {po wo : Obj} {v0 : Option Value} {kvs : List (Str × Value)} {ts xs : List Value} {nt n nm k no : Nat} {es em : List DictEntry} {R : List (Addr × Obj)}
    (hnx : nx = (pc, po) :: (ol, listOf (refsOf σ.out).toArray no) :: (wd, wo) :: (tl, listOf ts.toArray nt) :: (cx, instObj 129 cd) :: (cd, dictOf es n) :: (mx, instObj 64 md) :: (md, dictOf em nm) :: (sl, listOf xs.toArray k) :: R)
    (nU : ∃ t, m "unit" = some (.int unit t)) (nC : m "control" = some (.ref cx)) (nW : m "world" = some (.ref wd)) (nO : m "out" = some (.ref ol)) (nN : ∃ t, m "now" = some (.int σ.now t)) (nT : ∃ t, m "trip" = some (.int σ.trip t)) (nM : ∃ t, m "number" = some (.int σ.number t)) (nB : m "numbers" = some (.ref nl))
    (D : WorldD PySem.Challenge.rw_ix0003_01.row.prog w wo σ.v kvs) (C : CtlD es σ.c) (M : MonD em σ.q) (hts : IntsAre ts σ.T) (hxs : IntsAre xs σ.ring) (hpo : po.data = .cell v0) (P : ∀ p ∈ σ.out, PkIn R p)
    (hnl : (nl, listOf nvs.toArray nk) ∈ R) (nd : [pc, ol, wd, tl, cx, cd, mx, md, sl].Nodup) (hR : ∀ p ∈ R, p.1 ∉ [pc, ol, wd, tl, cx, cd, mx, md, sl]) : Core w unit pc wd tl cx cd mx md sl nl nvs nk σ m nx
theorem names_of {m : Str → Option Value} {l : List (Str × Value)} (h : l.all (fun p => decide (m p.1 = some p.2)) = true) : ∀ p ∈ l, m p.1 = some p.2 := fun p hp => of_decide_eq_true (List.all_eq_true.mp h p hp)
theorem pull2_4 {h₀ : Heap} {L : Addr} {h : Heap} {a0 a1 a2 a3 f0 f1 : Addr × Obj} {r : List (Addr × Obj)} (N : News h₀ L h (a0 :: a1 :: a2 :: a3 :: f0 :: f1 :: r)) : News h₀ L h (f0 :: f1 :: a0 :: a1 :: a2 :: a3 :: r) := newsSub N (by
      (repeat (refine sub_cons (by repeat (first | exact List.mem_cons_self | refine List.mem_cons_of_mem _ ?_)) ?_))
      intro q9 hq9
      repeat (first | exact hq9 | refine List.mem_cons_of_mem _ ?_))
theorem pull5_4 {h₀ : Heap} {L : Addr} {h : Heap} {a0 a1 a2 a3 f0 f1 f2 f3 f4 : Addr × Obj} {r : List (Addr × Obj)} (N : News h₀ L h (a0 :: a1 :: a2 :: a3 :: f0 :: f1 :: f2 :: f3 :: f4 :: r)) : News h₀ L h (f0 :: f1 :: f2 :: f3 :: f4 :: a0 :: a1 :: a2 :: a3 :: r) := newsSub N (by
      (repeat (refine sub_cons (by repeat (first | exact List.mem_cons_self | refine List.mem_cons_of_mem _ ?_)) ?_))
      intro q9 hq9
      repeat (first | exact hq9 | refine List.mem_cons_of_mem _ ?_))
theorem pull1_5 {h₀ : Heap} {L : Addr} {h : Heap} {a0 a1 a2 a3 a4 f0 : Addr × Obj} {r : List (Addr × Obj)} (N : News h₀ L h (a0 :: a1 :: a2 :: a3 :: a4 :: f0 :: r)) : News h₀ L h (f0 :: a0 :: a1 :: a2 :: a3 :: a4 :: r) := newsSub N (by
      (repeat (refine sub_cons (by repeat (first | exact List.mem_cons_self | refine List.mem_cons_of_mem _ ?_)) ?_))
      intro q9 hq9
      repeat (first | exact hq9 | refine List.mem_cons_of_mem _ ?_))
theorem pull2_5 {h₀ : Heap} {L : Addr} {h : Heap} {a0 a1 a2 a3 a4 f0 f1 : Addr × Obj} {r : List (Addr × Obj)} (N : News h₀ L h (a0 :: a1 :: a2 :: a3 :: a4 :: f0 :: f1 :: r)) : News h₀ L h (f0 :: f1 :: a0 :: a1 :: a2 :: a3 :: a4 :: r) := newsSub N (by
      (repeat (refine sub_cons (by repeat (first | exact List.mem_cons_self | refine List.mem_cons_of_mem _ ?_)) ?_))
      intro q9 hq9
      repeat (first | exact hq9 | refine List.mem_cons_of_mem _ ?_))
theorem pull2_7 {h₀ : Heap} {L : Addr} {h : Heap} {a0 a1 a2 a3 a4 a5 a6 f0 f1 : Addr × Obj} {r : List (Addr × Obj)} (N : News h₀ L h (a0 :: a1 :: a2 :: a3 :: a4 :: a5 :: a6 :: f0 :: f1 :: r)) : News h₀ L h (f0 :: f1 :: a0 :: a1 :: a2 :: a3 :: a4 :: a5 :: a6 :: r) := newsSub N (by
      (repeat (refine sub_cons (by repeat (first | exact List.mem_cons_self | refine List.mem_cons_of_mem _ ?_)) ?_))
      intro q9 hq9
      repeat (first | exact hq9 | refine List.mem_cons_of_mem _ ?_))
theorem pull2_8 {h₀ : Heap} {L : Addr} {h : Heap} {a0 a1 a2 a3 a4 a5 a6 a7 f0 f1 : Addr × Obj} {r : List (Addr × Obj)} (N : News h₀ L h (a0 :: a1 :: a2 :: a3 :: a4 :: a5 :: a6 :: a7 :: f0 :: f1 :: r)) : News h₀ L h (f0 :: f1 :: a0 :: a1 :: a2 :: a3 :: a4 :: a5 :: a6 :: a7 :: r) := newsSub N (by
      (repeat (refine sub_cons (by repeat (first | exact List.mem_cons_self | refine List.mem_cons_of_mem _ ?_)) ?_))
      intro q9 hq9
      repeat (first | exact hq9 | refine List.mem_cons_of_mem _ ?_))
theorem ctl_meth_m1 {prog : Program} {w : World} {A : Around} {E : Value → Shared → Prop} {s : Shared} {h₀ : Heap} {L cx cd : Addr} {m : Str → Option Value} {news : List (Addr × Obj)} {es : List DictEntry} {n : Nat} {c : Ctl} {pl : Sem Bool} {Q : Value × List Value → Shared → Prop}
    (F : Fr h₀ L s.heap m) (X : (Mine.hd.heap_1 w.params).In h₀) (N : News h₀ L s.heap news) (C : CtlD es c) (g1 : (cx, instObj 129 cd) ∈ news) (g2 : (cd, dictOf es n) ∈ news)
    (h : Q (.ref 91, [.ref cx]) s) : wpAny (model prog w) A (getMethod (.ref cx) "on_packet_acked" pl) Q E s :=
  method_inst F X (InstAt.of_news N g1 g2) (by k_is) (by k_is) (by k_is) C.m1 h
theorem ctl_meth_m2 {prog : Program} {w : World} {A : Around} {E : Value → Shared → Prop} {s : Shared} {h₀ : Heap} {L cx cd : Addr} {m : Str → Option Value} {news : List (Addr × Obj)} {es : List DictEntry} {n : Nat} {c : Ctl} {pl : Sem Bool} {Q : Value × List Value → Shared → Prop}
    (F : Fr h₀ L s.heap m) (X : (Mine.hd.heap_1 w.params).In h₀) (N : News h₀ L s.heap news) (C : CtlD es c) (g1 : (cx, instObj 129 cd) ∈ news) (g2 : (cd, dictOf es n) ∈ news)
    (h : Q (.ref 98, [.ref cx]) s) : wpAny (model prog w) A (getMethod (.ref cx) "on_packet_sent" pl) Q E s :=
  method_inst F X (InstAt.of_news N g1 g2) (by k_is) (by k_is) (by k_is) C.m2 h
theorem ctl_meth_m3 {prog : Program} {w : World} {A : Around} {E : Value → Shared → Prop} {s : Shared} {h₀ : Heap} {L cx cd : Addr} {m : Str → Option Value} {news : List (Addr × Obj)} {es : List DictEntry} {n : Nat} {c : Ctl} {pl : Sem Bool} {Q : Value × List Value → Shared → Prop}
    (F : Fr h₀ L s.heap m) (X : (Mine.hd.heap_1 w.params).In h₀) (N : News h₀ L s.heap news) (C : CtlD es c) (g1 : (cx, instObj 129 cd) ∈ news) (g2 : (cd, dictOf es n) ∈ news)
    (h : Q (.ref 105, [.ref cx]) s) : wpAny (model prog w) A (getMethod (.ref cx) "on_packets_expired" pl) Q E s :=
  method_inst F X (InstAt.of_news N g1 g2) (by k_is) (by k_is) (by k_is) C.m3 h
theorem ctl_meth_m4 {prog : Program} {w : World} {A : Around} {E : Value → Shared → Prop} {s : Shared} {h₀ : Heap} {L cx cd : Addr} {m : Str → Option Value} {news : List (Addr × Obj)} {es : List DictEntry} {n : Nat} {c : Ctl} {pl : Sem Bool} {Q : Value × List Value → Shared → Prop}
    (F : Fr h₀ L s.heap m) (X : (Mine.hd.heap_1 w.params).In h₀) (N : News h₀ L s.heap news) (C : CtlD es c) (g1 : (cx, instObj 129 cd) ∈ news) (g2 : (cd, dictOf es n) ∈ news)
    (h : Q (.ref 112, [.ref cx]) s) : wpAny (model prog w) A (getMethod (.ref cx) "on_packets_lost" pl) Q E s :=
  method_inst F X (InstAt.of_news N g1 g2) (by k_is) (by k_is) (by k_is) C.m4 h
theorem ctl_meth_m5 {prog : Program} {w : World} {A : Around} {E : Value → Shared → Prop} {s : Shared} {h₀ : Heap} {L cx cd : Addr} {m : Str → Option Value} {news : List (Addr × Obj)} {es : List DictEntry} {n : Nat} {c : Ctl} {pl : Sem Bool} {Q : Value × List Value → Shared → Prop}
    (F : Fr h₀ L s.heap m) (X : (Mine.hd.heap_1 w.params).In h₀) (N : News h₀ L s.heap news) (C : CtlD es c) (g1 : (cx, instObj 129 cd) ∈ news) (g2 : (cd, dictOf es n) ∈ news)
    (h : Q (.ref 119, [.ref cx]) s) : wpAny (model prog w) A (getMethod (.ref cx) "on_persistent_congestion" pl) Q E s :=
  method_inst F X (InstAt.of_news N g1 g2) (by k_is) (by k_is) (by k_is) C.m5 h
theorem ctl_meth_m6 {prog : Program} {w : World} {A : Around} {E : Value → Shared → Prop} {s : Shared} {h₀ : Heap} {L cx cd : Addr} {m : Str → Option Value} {news : List (Addr × Obj)} {es : List DictEntry} {n : Nat} {c : Ctl} {pl : Sem Bool} {Q : Value × List Value → Shared → Prop}
    (F : Fr h₀ L s.heap m) (X : (Mine.hd.heap_1 w.params).In h₀) (N : News h₀ L s.heap news) (C : CtlD es c) (g1 : (cx, instObj 129 cd) ∈ news) (g2 : (cd, dictOf es n) ∈ news)
    (h : Q (.ref 126, [.ref cx]) s) : wpAny (model prog w) A (getMethod (.ref cx) "on_rtt_measurement" pl) Q E s :=
  method_inst F X (InstAt.of_news N g1 g2) (by k_is) (by k_is) (by k_is) C.m6 h
end Mine
end PB0

section PL7
namespace Mine
theorem fresh_L7 : True := by
  w_top off
  first | walk1 | exact True.intro
theorem p_upto (vs : List Value) {y : Int} (h : 0 ≤ y) : slicePick vs.toArray none (some y) none = (vs.take y.toNat).toArray := by
  have e : sliceBounds none (some y) none vs.toArray.size = (((0 : Nat) : Int), ((min y.toNat vs.toArray.size : Nat) : Int), 1) := by
    simp only [sliceBounds, Option.getD_none, show (1 : Int) > 0 by decide, if_true, if_neg (show ¬ (y < 0) by omega)]
    congr 1
    congr 1
    omega
  rw [kmk_pick_nat _ e]
  show ((vs.drop 0).take (min y.toNat vs.toArray.size - 0)).toArray = _
  rw [List.drop_zero, Nat.sub_zero, List.size_toArray, kmk_take_min]
theorem p_from (vs : List Value) {x : Int} (h : 0 ≤ x) : slicePick vs.toArray (some x) none none = (vs.drop x.toNat).toArray := by
  have e : sliceBounds (some x) none none vs.toArray.size = (((min x.toNat vs.toArray.size : Nat) : Int), ((vs.toArray.size : Nat) : Int), 1) := by
    simp only [sliceBounds, Option.getD_none, show (1 : Int) > 0 by decide, if_true, if_neg (show ¬ (x < 0) by omega)]
    congr 1
    omega
  rw [kmk_pick_nat _ e]
  show ((vs.drop (min x.toNat vs.toArray.size)).take (vs.toArray.size - min x.toNat vs.toArray.size)).toArray = _
  rw [List.size_toArray, kmk_drop_min, List.take_of_length_le (by rw [List.length_drop]; omega)]
theorem p_run (vs : List Value) {x y : Int} (h : 0 ≤ x) (h2 : 0 ≤ y) : slicePick vs.toArray (some x) (some y) none = ((vs.drop x.toNat).take (min y.toNat vs.length - x.toNat)).toArray := by
  have e : sliceBounds (some x) (some y) none vs.toArray.size = (((min x.toNat vs.toArray.size : Nat) : Int), ((min y.toNat vs.toArray.size : Nat) : Int), 1) := by
    simp only [sliceBounds, Option.getD_none, show (1 : Int) > 0 by decide, if_true, if_neg (show ¬ (x < 0) by omega), if_neg (show ¬ (y < 0) by omega)]
    congr 1
    · omega
    · congr 1
      omega
  rw [kmk_pick_nat _ e]
  show ((vs.drop (min x.toNat vs.toArray.size)).take (min y.toNat vs.toArray.size - min x.toNat vs.toArray.size)).toArray = _
  rw [List.size_toArray, kmk_drop_min, show min y.toNat vs.length - min x.toNat vs.length = min y.toNat vs.length - x.toNat by omega]
def runOf (out : List Pk) (x y : Int) : List Pk := (out.drop x.toNat).take (min y.toNat out.length - x.toNat)
theorem refs_len' (out : List Pk) : (refsOf out).length = out.length := by simp [refsOf]
section
variable {prog : Program} {w : World} {A : Around} {E : Value → Shared → Prop} {s : Shared} {h₀ : Heap} {L l : Addr} {m : Str → Option Value} {news : List (Addr × Obj)} {k : Nat} {out : List Pk} {value slice : PySem.Expr} {x y : Int} {t t' : Tok} {Q : Value → Shared → Prop}
theorem r_run (F : Fr h₀ L s.heap m) (N : News h₀ L s.heap news) (hl : (l, listOf (refsOf out).toArray k) ∈ news) (h0 : 0 ≤ x) (h1 : 0 ≤ y) (hz : out.length ≤ 1000)
    (h : ∀ D h', Fr h₀ L h' m → News h₀ L h' ((D, listOf (refsOf (runOf out x y)).toArray 0) :: news) → (∀ p ∈ news, p.1 < D) → Q (.ref D) { s with heap := h' })
    (hs : subscripted slice false (.ref l) (.ref s.heap.objs.size) = operate [.ref s.heap.objs.size, .ref l] (getItem (.ref l) (.ref s.heap.objs.size))) (ht : ∀ r, letTemporaryGo value (.ref l) r = pure ()) :
    wpAny (model prog w) A (subscriptTail value slice (.ref l) (.ref s.heap.objs.size)) Q E { s with heap := s.heap.push { cls := .type "slice", data := .fields #[.int x t, .int y t', .none] } } := by
  refine kmk_slice F N ⟨_, (N _ hl).1, rfl, k, rfl⟩ (IsPart.int x t) (IsPart.int y t') (fun D h' F' N' hlt => ?_) hs ht (by rw [List.size_toArray, refs_len', sizeLine_eq]; omega)
  rw [p_run _ h0 h1] at N'
  refine h D h' F' ?_ hlt
  have e : ((refsOf out).drop x.toNat).take (min y.toNat (refsOf out).length - x.toNat) = refsOf (runOf out x y) := by simp [refsOf, runOf, List.map_take, List.map_drop]
  rw [← e]; exact N'
theorem r_upto (F : Fr h₀ L s.heap m) (N : News h₀ L s.heap news) (hl : (l, listOf (refsOf out).toArray k) ∈ news) (h1 : 0 ≤ y) (hz : out.length ≤ 1000)
    (h : ∀ D h', Fr h₀ L h' m → News h₀ L h' ((D, listOf (refsOf (out.take y.toNat)).toArray 0) :: news) → (∀ p ∈ news, p.1 < D) → Q (.ref D) { s with heap := h' })
    (hs : subscripted slice false (.ref l) (.ref s.heap.objs.size) = operate [.ref s.heap.objs.size, .ref l] (getItem (.ref l) (.ref s.heap.objs.size))) (ht : ∀ r, letTemporaryGo value (.ref l) r = pure ()) :
    wpAny (model prog w) A (subscriptTail value slice (.ref l) (.ref s.heap.objs.size)) Q E { s with heap := s.heap.push { cls := .type "slice", data := .fields #[.none, .int y t', .none] } } := by
  refine kmk_slice F N ⟨_, (N _ hl).1, rfl, k, rfl⟩ IsPart.none (IsPart.int y t') (fun D h' F' N' hlt => ?_) hs ht (by rw [List.size_toArray, refs_len', sizeLine_eq]; omega)
  rw [p_upto _ h1] at N'
  refine h D h' F' ?_ hlt
  have e : (refsOf out).take y.toNat = refsOf (out.take y.toNat) := by simp [refsOf, List.map_take]
  rw [← e]; exact N'
theorem r_from (F : Fr h₀ L s.heap m) (N : News h₀ L s.heap news) (hl : (l, listOf (refsOf out).toArray k) ∈ news) (h0 : 0 ≤ x) (hz : out.length ≤ 1000)
    (h : ∀ D h', Fr h₀ L h' m → News h₀ L h' ((D, listOf (refsOf (out.drop x.toNat)).toArray 0) :: news) → (∀ p ∈ news, p.1 < D) → Q (.ref D) { s with heap := h' })
    (hs : subscripted slice false (.ref l) (.ref s.heap.objs.size) = operate [.ref s.heap.objs.size, .ref l] (getItem (.ref l) (.ref s.heap.objs.size))) (ht : ∀ r, letTemporaryGo value (.ref l) r = pure ()) :
    wpAny (model prog w) A (subscriptTail value slice (.ref l) (.ref s.heap.objs.size)) Q E { s with heap := s.heap.push { cls := .type "slice", data := .fields #[.int x t, .none, .none] } } := by
  refine kmk_slice F N ⟨_, (N _ hl).1, rfl, k, rfl⟩ (IsPart.int x t) IsPart.none (fun D h' F' N' hlt => ?_) hs ht (by rw [List.size_toArray, refs_len', sizeLine_eq]; omega)
  rw [p_from _ h0] at N'
  refine h D h' F' ?_ hlt
  have e : (refsOf out).drop x.toNat = refsOf (out.drop x.toNat) := by simp [refsOf, List.map_drop]
  rw [← e]; exact N'
theorem r_cat {l2 : Addr} {k2 : Nat} {out2 : List Pk} (F : Fr h₀ L s.heap m) (N : News h₀ L s.heap news) (hl : (l, listOf (refsOf out).toArray k) ∈ news) (hl2 : (l2, listOf (refsOf out2).toArray k2) ∈ news) (hz : out.length ≤ 1000) (hz2 : out2.length ≤ 1000)
    (h : ∀ D h', Fr h₀ L h' m → News h₀ L h' ((D, listOf (refsOf (out ++ out2)).toArray 0) :: news) → (∀ p ∈ news, p.1 < D) → Q (.ref D) { s with heap := h' }) :
    wpAny (model prog w) A (binaryOp .Add (.ref l) (.ref l2)) Q E s := by
  refine add_lists F N ⟨_, (N _ hl).1, rfl, k, rfl⟩ ⟨_, (N _ hl2).1, rfl, k2, rfl⟩ (fun h' F' N' => ?_) (by rw [refs_len', refs_len', sizeLine_eq]; omega)
  refine h _ h' F' ?_ fun p hp => Heap.lt_size (N p hp).1
  have e : refsOf out ++ refsOf out2 = refsOf (out ++ out2) := by simp [refsOf]
  rw [← e]; exact N'
theorem r_last {p : Pk} (N : News h₀ L s.heap news) (hl : (l, listOf (refsOf out).toArray k) ∈ news) (hp : out.getLast? = some p) (hz : out.length ≤ 1000) (h : Q (.ref p.at_) s)
    (hs : subscripted slice false (.ref l) (.int (-1) t) = operate [.ref l, .int (-1) t] (getItem (.ref l) (.int (-1) t)) := by with_unfolding_all rfl) :
    wpAny (model prog w) A (subscriptTail value slice (.ref l) (.int (-1) t)) Q E s := by
  have hL : s.heap.IsList l (refsOf out).toArray := ⟨_, (N _ hl).1, rfl, k, rfl⟩
  have hne : 0 < out.length := by
    cases out with
    | nil => simp at hp
    | cons a r => simp
  have hx : (refsOf out).toArray[((-1 : Int) + ((refsOf out).toArray.size : Nat)).toNat]? = some (.ref p.at_) := by
    rw [List.size_toArray, refs_len', show ((-1 : Int) + (out.length : Nat)).toNat = out.length - 1 by omega]
    rw [List.getLast?_eq_getElem?] at hp
    simp [refsOf, hp]
  exact tail_any hL.typeIs slot_list_getitem.lookup (wpAny_getItem_list_neg hL (by decide) (by rw [List.size_toArray, refs_len']; omega) (by decide) hx h) hs
end
end Mine
end PL7

local macro_rules | `(tactic| k_all) => `(tactic| assumption)
local macro_rules | `(tactic| k_ne) => `(tactic| first | assumption | exact Ne.symm (by assumption) | (refine neN ?_; (try dsimp only); omega))
local macro_rules | `(tactic| walk_at "getMethod ref") => `(tactic| (k_here; with_reducible (first | refine Mine.ctl_meth_m1 ‹_› ‹_› ‹_› ‹_› (by walk_at "zz m") (by walk_at "zz m") ?_ | refine Mine.ctl_meth_m2 ‹_› ‹_› ‹_› ‹_› (by walk_at "zz m") (by walk_at "zz m") ?_ | refine Mine.ctl_meth_m3 ‹_› ‹_› ‹_› ‹_› (by walk_at "zz m") (by walk_at "zz m") ?_ | refine Mine.ctl_meth_m4 ‹_› ‹_› ‹_› ‹_› (by walk_at "zz m") (by walk_at "zz m") ?_ | refine Mine.ctl_meth_m5 ‹_› ‹_› ‹_› ‹_› (by walk_at "zz m") (by walk_at "zz m") ?_ | refine Mine.ctl_meth_m6 ‹_› ‹_› ‹_› ‹_› (by walk_at "zz m") (by walk_at "zz m") ?_)))

section PB1
namespace Mine
theorem fresh_B1 : True := by
  w_top off
  first | walk1 | exact True.intro
theorem fillB1 (w : World) : Mine.hd.heap_1 w.params = Mine.hd.heap_1 w.params ∧ PySem.Challenge.rw_ix0003_01.row.prog = PySem.Challenge.rw_ix0003_01.row.prog := by
  k_fill
  exact ⟨rfl, rfl⟩

local macro_rules | `(tactic| walk_at "call builtin:list.append") => `(tactic| (k_here; (refine' append_K ?F ?N ?U ?_ ?hz); (case F => k_asm); (case N => k_asm); (case U => k_upd); (case hz => (rw [List.size_toArray, sizeLine_eq]; simp only [refsOf, List.length_map]; omega)); intro _ F' N'))

theorem sub3 {a b c : Addr × Obj} {r : List (Addr × Obj)} : ∀ q ∈ [a, b, c], q ∈ a :: b :: c :: r := by
  intro q hq
  simp only [List.mem_cons, List.not_mem_nil, or_false] at hq ⊢
  rcases hq with e | e | e <;> simp [e]
theorem refs_push (out : List Pk) (p : Pk) : (refsOf out).toArray.push (Value.ref p.at_) = (refsOf (out ++ [p])).toArray := by simp [refsOf]
set_option maxHeartbeats 8000000 in
theorem br_sent {w : World} {p : Program} {loose : List Str} {mean : ExcName → Option Value} {mg mb : Str → Option Value} {a : Addr} {ccd : Value} {base h₀ : Heap} {L : Addr} {s : Shared} {Q : Flow → Shared → Prop} {E : Value → Shared → Prop}
    {unit kind more pick now trip number : Int} {tu t1 t2 t3 tn tt tm : Tok} {pc ol wd tl cx cd mx md sl nl I : Addr} {po io wo : Obj} {v0 : Option Value} {kvs : List (Str × Value)} {ts xs nvs : List Value} {nk : Nat} {T9 ring : List Int} {nt n nm k no : Nat} {es em : List DictEntry} {v : Wd} {c : Ctl} {q : Mon} {out : List Pk} {R : List (Addr × Obj)} {u : Str → Option Value}
    (B : Below callerA base [] h₀) (F : Fr h₀ L s.heap (kstB u [("unit", .int unit tu), ("control", .ref cx), ("world", .ref wd), ("out", .ref ol), ("now", .int now tn), ("trip", .int trip tt), ("number", .int number tm), ("numbers", .ref nl), ("kind", .int kind t1), ("more", .int more t2), ("pick", .int pick t3)])) (X : (Mine.hd.heap_1 w.params).In h₀) (T : Top p loose mean mg mb h₀)
    (N : News h₀ L s.heap ((pc, po) :: (ol, listOf (refsOf out).toArray no) :: (wd, wo) :: (tl, listOf ts.toArray nt) :: (cx, instObj 129 cd) :: (cd, dictOf es n) :: (mx, instObj 64 md) :: (md, dictOf em nm) :: (sl, listOf xs.toArray k) :: (I, io) :: R)) (D : WorldD PySem.Challenge.rw_ix0003_01.row.prog w wo v kvs) (C : CtlD es c) (M : MonD em q) (hts : IntsAre ts T9) (hxs : IntsAre xs ring) (hpo : po.data = .cell v0) (P : ∀ p ∈ out, PkIn R p)
    (hnl : (nl, listOf nvs.toArray nk) ∈ R) (nd : [pc, ol, wd, tl, cx, cd, mx, md, sl].Nodup) (hR : ∀ p ∈ R, p.1 ∉ [pc, ol, wd, tl, cx, cd, mx, md, sl])
    (n_pc_ol : pc ≠ ol) (n_pc_wd : pc ≠ wd) (n_pc_tl : pc ≠ tl) (n_pc_cx : pc ≠ cx) (n_pc_cd : pc ≠ cd) (n_pc_mx : pc ≠ mx) (n_pc_md : pc ≠ md) (n_pc_sl : pc ≠ sl) (n_pc_I : pc ≠ I) (n_ol_wd : ol ≠ wd) (n_ol_tl : ol ≠ tl) (n_ol_cx : ol ≠ cx) (n_ol_cd : ol ≠ cd) (n_ol_mx : ol ≠ mx) (n_ol_md : ol ≠ md) (n_ol_sl : ol ≠ sl) (n_ol_I : ol ≠ I) (n_wd_tl : wd ≠ tl) (n_wd_cx : wd ≠ cx) (n_wd_cd : wd ≠ cd) (n_wd_mx : wd ≠ mx) (n_wd_md : wd ≠ md) (n_wd_sl : wd ≠ sl) (n_wd_I : wd ≠ I) (n_tl_cx : tl ≠ cx) (n_tl_cd : tl ≠ cd) (n_tl_mx : tl ≠ mx) (n_tl_md : tl ≠ md) (n_tl_sl : tl ≠ sl) (n_tl_I : tl ≠ I) (n_cx_cd : cx ≠ cd) (n_cx_mx : cx ≠ mx) (n_cx_md : cx ≠ md) (n_cx_sl : cx ≠ sl) (n_cx_I : cx ≠ I) (n_cd_mx : cd ≠ mx) (n_cd_md : cd ≠ md) (n_cd_sl : cd ≠ sl) (n_cd_I : cd ≠ I) (n_mx_md : mx ≠ md) (n_mx_sl : mx ≠ sl) (n_mx_I : mx ≠ I) (n_md_sl : md ≠ sl) (n_md_I : md ≠ I) (n_sl_I : sl ≠ I) (r_pc : ∀ p ∈ R, p.1 ≠ pc) (r_ol : ∀ p ∈ R, p.1 ≠ ol) (r_wd : ∀ p ∈ R, p.1 ≠ wd) (r_tl : ∀ p ∈ R, p.1 ≠ tl) (r_cx : ∀ p ∈ R, p.1 ≠ cx) (r_cd : ∀ p ∈ R, p.1 ≠ cd) (r_mx : ∀ p ∈ R, p.1 ≠ mx) (r_md : ∀ p ∈ R, p.1 ≠ md) (r_sl : ∀ p ∈ R, p.1 ≠ sl) (r_I : ∀ p ∈ R, p.1 ≠ I) (ho : out.length ≤ 1000) (hun : 1 ≤ unit) (hun2 : unit ≤ 1280)
    (ret : ∀ h' tk m' nx' pk', pk'.num = number → pk'.time = now → pk'.len = 1 + (more * 97).fmod (12 * unit) → Fr h₀ L h' m' → News h₀ L h' ((I, io) :: nx') → (∀ p ∈ nx', p.1 ≠ I) → Core w unit pc wd tl cx cd mx md sl nl nvs nk ⟨now, trip, number + 1, v, { c with fly := c.fly + pk'.len }, q, T9, ring, out ++ [pk']⟩ m' nx' → Q .next { s with heap := h', toks := tk }) :
    wpAny (model PySem.Challenge.rw_ix0003_01.row.prog w) (callerA.deeper (envX "law" lawScope L a ccd [("packet", pc)])) (execs brSent (envX "law" lawScope L a ccd [("packet", pc)])) Q E s := by
  dsimp only [lawScope, brSent, brAcked, brLost, brPersist, brRtt, else1, else2, else3, else4, turnStmts, lawStmts, PySem.Challenge.pw_ix0003_01, nth, fnBody, fnScope, forBody, ifBody, ifElse]
  repeat' (first | (k_unfold; (try dsimp only)) | ((fail_if_success (with_reducible show wpAny _ _ (exec (Stmt.For _ _ _ _ _) _) _ _ _)); (fail_if_success (with_reducible show wpAny _ _ (exec (Stmt.While _ _ _ _) _) _ _ _)); (fail_if_success (with_reducible show wpAny _ _ (pyIter _) _ _ _)); (fail_if_success (with_reducible show wpAny _ _ (call (Value.ref 91) _ _) _ _ _)); (fail_if_success (with_reducible show wpAny _ _ (call (Value.ref 98) _ _) _ _ _)); (fail_if_success (with_reducible show wpAny _ _ (call (Value.ref 105) _ _) _ _ _)); (fail_if_success (with_reducible show wpAny _ _ (call (Value.ref 112) _ _) _ _ _)); (fail_if_success (with_reducible show wpAny _ _ (call (Value.ref 119) _ _) _ _ _)); (fail_if_success (with_reducible show wpAny _ _ (call (Value.ref 126) _ _) _ _ _)); (fail_if_success (with_reducible show wpAny _ _ (call (Value.ref 195) _ _) _ _ _)); (fail_if_success (with_reducible show wpAny _ _ (call (Value.ref 202) _ _) _ _ _)); (fail_if_success (with_reducible show wpAny _ _ (call (Value.ref 177) _ _) _ _ _)); walk1) | (leave1; walk_say "STEP leave1"; try dsimp only) | fail "no step")
  k_dflt (refine' c_mkpk ?kB ?kF ?kX ?kT ?kk ?kN ?kd ?ku ?_; (case kB => k_asm); (case kF => k_asm); (case kX => k_asm); (case kT => k_asm); (case kk => exact rfl); (case kN => k_asm); (case kd => ktr_room); (case ku => exact Nat.le_of_ble_eq_true rfl))
  intro h1 tk1 x1 x2 x3 o1 o2 o3 F1 N1 P1 l1 l2 l3
  k_lt l1
  k_lt2 l2
  k_lt2 l3
  repeat' (first | (k_unfold; (try dsimp only)) | ((fail_if_success (with_reducible show wpAny _ _ (exec (Stmt.For _ _ _ _ _) _) _ _ _)); (fail_if_success (with_reducible show wpAny _ _ (exec (Stmt.While _ _ _ _) _) _ _ _)); (fail_if_success (with_reducible show wpAny _ _ (pyIter _) _ _ _)); (fail_if_success (with_reducible show wpAny _ _ (call (Value.ref 91) _ _) _ _ _)); (fail_if_success (with_reducible show wpAny _ _ (call (Value.ref 98) _ _) _ _ _)); (fail_if_success (with_reducible show wpAny _ _ (call (Value.ref 105) _ _) _ _ _)); (fail_if_success (with_reducible show wpAny _ _ (call (Value.ref 112) _ _) _ _ _)); (fail_if_success (with_reducible show wpAny _ _ (call (Value.ref 119) _ _) _ _ _)); (fail_if_success (with_reducible show wpAny _ _ (call (Value.ref 126) _ _) _ _ _)); (fail_if_success (with_reducible show wpAny _ _ (call (Value.ref 195) _ _) _ _ _)); (fail_if_success (with_reducible show wpAny _ _ (call (Value.ref 202) _ _) _ _ _)); (fail_if_success (with_reducible show wpAny _ _ (call (Value.ref 177) _ _) _ _ _)); walk1) | (leave1; walk_say "STEP leave1"; try dsimp only) | fail "no step")
  (rename News _ _ _ _ => lN)
  have e : (refsOf out).toArray.push (Value.ref x2) = (refsOf (out ++ [⟨x2, number, now, 1 + (more * 97).fmod (12 * unit)⟩])).toArray := refs_push out ⟨x2, number, now, 1 + (more * 97).fmod (12 * unit)⟩
  rw [e] at lN
  k_dflt (refine' c_sent (pk := ⟨x2, number, now, 1 + (more * 97).fmod (12 * unit)⟩) ?kB ?kF ?kX ?kT ?kk (pull2_7 lN) ?kD ?k1 ?k2 ?kd ?ku ?kP ?_; (case kB => k_asm); (case kF => k_asm); (case kX => k_asm); (case kT => k_asm); (case kk => exact rfl); (case kD => k_asm); (case k1 => k_asm); (case k2 => exact (by repeat (first | assumption | refine off_cons (by first | assumption | exact Ne.symm (by assumption) | (refine neN ?_; omega)) ?_))); (case kd => ktr_room); (case ku => exact Nat.le_of_ble_eq_true rfl); (case kP => exact PkIn.mono P1 sub3))
  intro h2 tk2 es2 n2 c2 ec F2 N2 D2
  subst ec
  repeat' (first | (k_unfold; (try dsimp only)) | ((fail_if_success (with_reducible show wpAny _ _ (exec (Stmt.For _ _ _ _ _) _) _ _ _)); (fail_if_success (with_reducible show wpAny _ _ (exec (Stmt.While _ _ _ _) _) _ _ _)); (fail_if_success (with_reducible show wpAny _ _ (pyIter _) _ _ _)); (fail_if_success (with_reducible show wpAny _ _ (call (Value.ref 91) _ _) _ _ _)); (fail_if_success (with_reducible show wpAny _ _ (call (Value.ref 98) _ _) _ _ _)); (fail_if_success (with_reducible show wpAny _ _ (call (Value.ref 105) _ _) _ _ _)); (fail_if_success (with_reducible show wpAny _ _ (call (Value.ref 112) _ _) _ _ _)); (fail_if_success (with_reducible show wpAny _ _ (call (Value.ref 119) _ _) _ _ _)); (fail_if_success (with_reducible show wpAny _ _ (call (Value.ref 126) _ _) _ _ _)); (fail_if_success (with_reducible show wpAny _ _ (call (Value.ref 195) _ _) _ _ _)); (fail_if_success (with_reducible show wpAny _ _ (call (Value.ref 202) _ _) _ _ _)); (fail_if_success (with_reducible show wpAny _ _ (call (Value.ref 177) _ _) _ _ _)); walk1) | (leave1; walk_say "STEP leave1"; try dsimp only) | fail "no step")
  refine' ret _ _ _ _ ⟨x2, number, now, 1 + (more * 97).fmod (12 * unit)⟩ rfl rfl rfl F2 (newsSub N2 ?sub) ?off (Core.mk (R := (x1, o1) :: (x2, o2) :: (x3, o3) :: R) rfl ⟨_, rfl⟩ rfl rfl rfl ⟨_, rfl⟩ ⟨_, rfl⟩ ⟨_, rfl⟩ rfl D D2 M hts hxs (by assumption) ?hP (List.mem_cons_of_mem _ (List.mem_cons_of_mem _ (List.mem_cons_of_mem _ hnl))) nd ?hR)
  case sub => exact (by
      (repeat (refine sub_cons (by repeat (first | exact List.mem_cons_self | refine List.mem_cons_of_mem _ ?_)) ?_))
      intro q9 hq9
      repeat (first | exact hq9 | refine List.mem_cons_of_mem _ ?_))
  case off => exact (by repeat (first | assumption | refine off_cons (by first | assumption | exact Ne.symm (by assumption) | (refine neN ?_; omega)) ?_))
  case hP =>
    intro p9 hp9
    rcases List.mem_append.mp hp9 with hp9 | hp9
    · exact PkIn.mono (P p9 hp9) (by intro q9 hq9; repeat (first | exact hq9 | refine List.mem_cons_of_mem _ ?_))
    · rw [List.mem_singleton.mp hp9]
      exact PkIn.mono P1 sub3
  case hR => exact (by
      intro p9 hp9
      repeat (rcases List.mem_cons.mp hp9 with rfl | hp9; (· (simp only [List.mem_cons, List.not_mem_nil, or_false, not_or]; refine ⟨?_, ?_, ?_, ?_, ?_, ?_, ?_, ?_, ?_⟩ <;> first | assumption | exact Ne.symm (by assumption) | (refine neN ?_; omega))))
      first | exact hR p9 hp9 | assumption)
end Mine
end PB1

section PB2
namespace Mine
theorem fresh_B2 : True := by
  w_top off
  first | walk1 | exact True.intro
theorem fillB2 (w : World) : Mine.hd.heap_1 w.params = Mine.hd.heap_1 w.params ∧ PySem.Challenge.rw_ix0003_01.row.prog = PySem.Challenge.rw_ix0003_01.row.prog := by
  k_fill
  exact ⟨rfl, rfl⟩

set_option maxHeartbeats 8000000 in
theorem br_persist {w : World} {p : Program} {loose : List Str} {mean : ExcName → Option Value} {mg mb : Str → Option Value} {a : Addr} {ccd : Value} {base h₀ : Heap} {L : Addr} {s : Shared} {Q : Flow → Shared → Prop} {E : Value → Shared → Prop}
    {unit kind more pick now trip number : Int} {tu t1 t2 t3 tn tt tm : Tok} {pc ol wd tl cx cd mx md sl nl I : Addr} {po io wo : Obj} {v0 : Option Value} {kvs : List (Str × Value)} {ts xs nvs : List Value} {nk : Nat} {T9 ring : List Int} {nt n nm k no : Nat} {es em : List DictEntry} {v : Wd} {c : Ctl} {q : Mon} {out : List Pk} {R : List (Addr × Obj)} {u : Str → Option Value}
    (B : Below callerA base [] h₀) (F : Fr h₀ L s.heap (kstB u [("unit", .int unit tu), ("control", .ref cx), ("world", .ref wd), ("out", .ref ol), ("now", .int now tn), ("trip", .int trip tt), ("number", .int number tm), ("numbers", .ref nl), ("kind", .int kind t1), ("more", .int more t2), ("pick", .int pick t3)])) (X : (Mine.hd.heap_1 w.params).In h₀) (T : Top p loose mean mg mb h₀)
    (N : News h₀ L s.heap ((pc, po) :: (ol, listOf (refsOf out).toArray no) :: (wd, wo) :: (tl, listOf ts.toArray nt) :: (cx, instObj 129 cd) :: (cd, dictOf es n) :: (mx, instObj 64 md) :: (md, dictOf em nm) :: (sl, listOf xs.toArray k) :: (I, io) :: R)) (D : WorldD PySem.Challenge.rw_ix0003_01.row.prog w wo v kvs) (C : CtlD es c) (M : MonD em q) (hts : IntsAre ts T9) (hxs : IntsAre xs ring) (hpo : po.data = .cell v0) (P : ∀ p ∈ out, PkIn R p)
    (hnl : (nl, listOf nvs.toArray nk) ∈ R) (nd : [pc, ol, wd, tl, cx, cd, mx, md, sl].Nodup) (hR : ∀ p ∈ R, p.1 ∉ [pc, ol, wd, tl, cx, cd, mx, md, sl])
    (n_pc_ol : pc ≠ ol) (n_pc_wd : pc ≠ wd) (n_pc_tl : pc ≠ tl) (n_pc_cx : pc ≠ cx) (n_pc_cd : pc ≠ cd) (n_pc_mx : pc ≠ mx) (n_pc_md : pc ≠ md) (n_pc_sl : pc ≠ sl) (n_pc_I : pc ≠ I) (n_ol_wd : ol ≠ wd) (n_ol_tl : ol ≠ tl) (n_ol_cx : ol ≠ cx) (n_ol_cd : ol ≠ cd) (n_ol_mx : ol ≠ mx) (n_ol_md : ol ≠ md) (n_ol_sl : ol ≠ sl) (n_ol_I : ol ≠ I) (n_wd_tl : wd ≠ tl) (n_wd_cx : wd ≠ cx) (n_wd_cd : wd ≠ cd) (n_wd_mx : wd ≠ mx) (n_wd_md : wd ≠ md) (n_wd_sl : wd ≠ sl) (n_wd_I : wd ≠ I) (n_tl_cx : tl ≠ cx) (n_tl_cd : tl ≠ cd) (n_tl_mx : tl ≠ mx) (n_tl_md : tl ≠ md) (n_tl_sl : tl ≠ sl) (n_tl_I : tl ≠ I) (n_cx_cd : cx ≠ cd) (n_cx_mx : cx ≠ mx) (n_cx_md : cx ≠ md) (n_cx_sl : cx ≠ sl) (n_cx_I : cx ≠ I) (n_cd_mx : cd ≠ mx) (n_cd_md : cd ≠ md) (n_cd_sl : cd ≠ sl) (n_cd_I : cd ≠ I) (n_mx_md : mx ≠ md) (n_mx_sl : mx ≠ sl) (n_mx_I : mx ≠ I) (n_md_sl : md ≠ sl) (n_md_I : md ≠ I) (n_sl_I : sl ≠ I) (r_pc : ∀ p ∈ R, p.1 ≠ pc) (r_ol : ∀ p ∈ R, p.1 ≠ ol) (r_wd : ∀ p ∈ R, p.1 ≠ wd) (r_tl : ∀ p ∈ R, p.1 ≠ tl) (r_cx : ∀ p ∈ R, p.1 ≠ cx) (r_cd : ∀ p ∈ R, p.1 ≠ cd) (r_mx : ∀ p ∈ R, p.1 ≠ mx) (r_md : ∀ p ∈ R, p.1 ≠ md) (r_sl : ∀ p ∈ R, p.1 ≠ sl) (r_I : ∀ p ∈ R, p.1 ≠ I)
    (ret : ∀ h' tk m' nx' , Fr h₀ L h' m' → News h₀ L h' ((I, io) :: nx') → (∀ p ∈ nx', p.1 ≠ I) → Core w unit pc wd tl cx cd mx md sl nl nvs nk ⟨now, trip, number, { v with win := 2 * unit, rcv := 0 }, { c with win := 2 * c.unit, rcv := 0 }, q, T9, ring, out⟩ m' nx' → Q .next { s with heap := h', toks := tk }) :
    wpAny (model PySem.Challenge.rw_ix0003_01.row.prog w) (callerA.deeper (envX "law" lawScope L a ccd [("packet", pc)])) (execs brPersist (envX "law" lawScope L a ccd [("packet", pc)])) Q E s := by
  dsimp only [lawScope, brSent, brAcked, brLost, brPersist, brRtt, else1, else2, else3, else4, turnStmts, lawStmts, PySem.Challenge.pw_ix0003_01, nth, fnBody, fnScope, forBody, ifBody, ifElse]
  repeat' (first | (k_unfold; (try dsimp only)) | ((fail_if_success (with_reducible show wpAny _ _ (exec (Stmt.For _ _ _ _ _) _) _ _ _)); (fail_if_success (with_reducible show wpAny _ _ (exec (Stmt.While _ _ _ _) _) _ _ _)); (fail_if_success (with_reducible show wpAny _ _ (pyIter _) _ _ _)); (fail_if_success (with_reducible show wpAny _ _ (call (Value.ref 91) _ _) _ _ _)); (fail_if_success (with_reducible show wpAny _ _ (call (Value.ref 98) _ _) _ _ _)); (fail_if_success (with_reducible show wpAny _ _ (call (Value.ref 105) _ _) _ _ _)); (fail_if_success (with_reducible show wpAny _ _ (call (Value.ref 112) _ _) _ _ _)); (fail_if_success (with_reducible show wpAny _ _ (call (Value.ref 119) _ _) _ _ _)); (fail_if_success (with_reducible show wpAny _ _ (call (Value.ref 126) _ _) _ _ _)); (fail_if_success (with_reducible show wpAny _ _ (call (Value.ref 195) _ _) _ _ _)); (fail_if_success (with_reducible show wpAny _ _ (call (Value.ref 202) _ _) _ _ _)); (fail_if_success (with_reducible show wpAny _ _ (call (Value.ref 177) _ _) _ _ _)); walk1) | (leave1; walk_say "STEP leave1"; try dsimp only) | fail "no step")
  (rename News _ _ _ _ => lN)
  k_dflt (refine' c_persist ?kB ?kF ?kX ?kT ?kk (pull2_4 lN) ?kD ?k1 ?k2 ?kd ?ku ?_; (case kB => k_asm); (case kF => k_asm); (case kX => k_asm); (case kT => k_asm); (case kk => exact rfl); (case kD => k_asm); (case k1 => k_asm); (case k2 => exact (by repeat (first | assumption | refine off_cons (by first | assumption | exact Ne.symm (by assumption) | (refine neN ?_; omega)) ?_))); (case kd => ktr_room); (case ku => exact Nat.le_of_ble_eq_true rfl))
  intro h2 tk2 es2 n2 c2 ec F2 N2 D2
  subst ec

  repeat' (first | (k_unfold; (try dsimp only)) | ((fail_if_success (with_reducible show wpAny _ _ (exec (Stmt.For _ _ _ _ _) _) _ _ _)); (fail_if_success (with_reducible show wpAny _ _ (exec (Stmt.While _ _ _ _) _) _ _ _)); (fail_if_success (with_reducible show wpAny _ _ (pyIter _) _ _ _)); (fail_if_success (with_reducible show wpAny _ _ (call (Value.ref 91) _ _) _ _ _)); (fail_if_success (with_reducible show wpAny _ _ (call (Value.ref 98) _ _) _ _ _)); (fail_if_success (with_reducible show wpAny _ _ (call (Value.ref 105) _ _) _ _ _)); (fail_if_success (with_reducible show wpAny _ _ (call (Value.ref 112) _ _) _ _ _)); (fail_if_success (with_reducible show wpAny _ _ (call (Value.ref 119) _ _) _ _ _)); (fail_if_success (with_reducible show wpAny _ _ (call (Value.ref 126) _ _) _ _ _)); (fail_if_success (with_reducible show wpAny _ _ (call (Value.ref 195) _ _) _ _ _)); (fail_if_success (with_reducible show wpAny _ _ (call (Value.ref 202) _ _) _ _ _)); (fail_if_success (with_reducible show wpAny _ _ (call (Value.ref 177) _ _) _ _ _)); walk1) | (leave1; walk_say "STEP leave1"; try dsimp only) | fail "no step")
  (rename News _ _ _ _ => lN3)
  (rename WorldD _ _ _ _ _ => lD3)
  (rename Fr _ _ _ _ => lF3)
  refine' ret _ _ _ _ lF3 (newsSub lN3 ?sub) ?off (Core.mk (R := R) rfl ⟨_, rfl⟩ rfl rfl rfl ⟨_, rfl⟩ ⟨_, rfl⟩ ⟨_, rfl⟩ rfl lD3 D2 M hts hxs hpo P hnl nd hR)
  case sub => exact (by
      (repeat (refine sub_cons (by repeat (first | exact List.mem_cons_self | refine List.mem_cons_of_mem _ ?_)) ?_))
      intro q9 hq9
      repeat (first | exact hq9 | refine List.mem_cons_of_mem _ ?_))
  case off => exact (by repeat (first | assumption | refine off_cons (by first | assumption | exact Ne.symm (by assumption) | (refine neN ?_; omega)) ?_))
end Mine
end PB2

section PB3
namespace Mine
theorem fresh_B3 : True := by
  w_top off
  first | walk1 | exact True.intro
theorem fillB3 (w : World) : Mine.hd.heap_1 w.params = Mine.hd.heap_1 w.params ∧ PySem.Challenge.rw_ix0003_01.row.prog = PySem.Challenge.rw_ix0003_01.row.prog := by
  k_fill
  exact ⟨rfl, rfl⟩

set_option maxHeartbeats 8000000 in
theorem br_rtt {w : World} {p : Program} {loose : List Str} {mean : ExcName → Option Value} {mg mb : Str → Option Value} {a : Addr} {ccd : Value} {base h₀ : Heap} {L : Addr} {s : Shared} {Q : Flow → Shared → Prop} {E : Value → Shared → Prop}
    {unit kind more pick now trip number : Int} {tu t1 t2 t3 tn tt tm : Tok} {pc ol wd tl cx cd mx md sl nl I : Addr} {po io wo : Obj} {v0 : Option Value} {kvs : List (Str × Value)} {ts xs nvs : List Value} {nk : Nat} {T9 ring : List Int} {nt n nm k no : Nat} {es em : List DictEntry} {v : Wd} {c : Ctl} {q : Mon} {out : List Pk} {R : List (Addr × Obj)} {u : Str → Option Value}
    (B : Below callerA base [] h₀) (F : Fr h₀ L s.heap (kstB u [("unit", .int unit tu), ("control", .ref cx), ("world", .ref wd), ("out", .ref ol), ("now", .int now tn), ("trip", .int trip tt), ("number", .int number tm), ("numbers", .ref nl), ("kind", .int kind t1), ("more", .int more t2), ("pick", .int pick t3)])) (X : (Mine.hd.heap_1 w.params).In h₀) (T : Top p loose mean mg mb h₀)
    (N : News h₀ L s.heap ((pc, po) :: (ol, listOf (refsOf out).toArray no) :: (wd, wo) :: (tl, listOf ts.toArray nt) :: (cx, instObj 129 cd) :: (cd, dictOf es n) :: (mx, instObj 64 md) :: (md, dictOf em nm) :: (sl, listOf xs.toArray k) :: (I, io) :: R)) (D : WorldD PySem.Challenge.rw_ix0003_01.row.prog w wo v kvs) (C : CtlD es c) (M : MonD em q) (hts : IntsAre ts T9) (hxs : IntsAre xs ring) (hpo : po.data = .cell v0) (P : ∀ p ∈ out, PkIn R p)
    (hnl : (nl, listOf nvs.toArray nk) ∈ R) (nd : [pc, ol, wd, tl, cx, cd, mx, md, sl].Nodup) (hR : ∀ p ∈ R, p.1 ∉ [pc, ol, wd, tl, cx, cd, mx, md, sl])
    (n_pc_ol : pc ≠ ol) (n_pc_wd : pc ≠ wd) (n_pc_tl : pc ≠ tl) (n_pc_cx : pc ≠ cx) (n_pc_cd : pc ≠ cd) (n_pc_mx : pc ≠ mx) (n_pc_md : pc ≠ md) (n_pc_sl : pc ≠ sl) (n_pc_I : pc ≠ I) (n_ol_wd : ol ≠ wd) (n_ol_tl : ol ≠ tl) (n_ol_cx : ol ≠ cx) (n_ol_cd : ol ≠ cd) (n_ol_mx : ol ≠ mx) (n_ol_md : ol ≠ md) (n_ol_sl : ol ≠ sl) (n_ol_I : ol ≠ I) (n_wd_tl : wd ≠ tl) (n_wd_cx : wd ≠ cx) (n_wd_cd : wd ≠ cd) (n_wd_mx : wd ≠ mx) (n_wd_md : wd ≠ md) (n_wd_sl : wd ≠ sl) (n_wd_I : wd ≠ I) (n_tl_cx : tl ≠ cx) (n_tl_cd : tl ≠ cd) (n_tl_mx : tl ≠ mx) (n_tl_md : tl ≠ md) (n_tl_sl : tl ≠ sl) (n_tl_I : tl ≠ I) (n_cx_cd : cx ≠ cd) (n_cx_mx : cx ≠ mx) (n_cx_md : cx ≠ md) (n_cx_sl : cx ≠ sl) (n_cx_I : cx ≠ I) (n_cd_mx : cd ≠ mx) (n_cd_md : cd ≠ md) (n_cd_sl : cd ≠ sl) (n_cd_I : cd ≠ I) (n_mx_md : mx ≠ md) (n_mx_sl : mx ≠ sl) (n_mx_I : mx ≠ I) (n_md_sl : md ≠ sl) (n_md_I : md ≠ I) (n_sl_I : sl ≠ I) (r_pc : ∀ p ∈ R, p.1 ≠ pc) (r_ol : ∀ p ∈ R, p.1 ≠ ol) (r_wd : ∀ p ∈ R, p.1 ≠ wd) (r_tl : ∀ p ∈ R, p.1 ≠ tl) (r_cx : ∀ p ∈ R, p.1 ≠ cx) (r_cd : ∀ p ∈ R, p.1 ≠ cd) (r_mx : ∀ p ∈ R, p.1 ≠ mx) (r_md : ∀ p ∈ R, p.1 ≠ md) (r_sl : ∀ p ∈ R, p.1 ≠ sl) (r_I : ∀ p ∈ R, p.1 ≠ I) (hmeas : q.stime ≤ now) (hmeas2 : v.meas ≤ now) (hl : ring.length = 5) (hi : 0 ≤ q.idx) (hi5 : q.idx < 5) (hsl : q.sl = sl) (htl : v.tl = tl) (hmx : c.mx = mx) (hT : T9.length ≤ 1000)
    (ret : ∀ h' tk m' nx'  trip' v' c' q' T' ring', (c', q', ring') = rttMeas c q ring (now + 1001) trip' → ((v.thr = none ∧ ∃ v1 b, (v1, b) = v.grow T9 (now + 1001) trip' ∧ v' = (if b = true then { v1 with thr := some v1.win } else v1) ∧ T' = T9 ++ [trip']) ∨ (v.thr ≠ none ∧ v' = v ∧ T' = T9)) → Fr h₀ L h' m' → News h₀ L h' ((I, io) :: nx') → (∀ p ∈ nx', p.1 ≠ I) → Core w unit pc wd tl cx cd mx md sl nl nvs nk ⟨now + 1001, trip', number, v', c', q', T', ring', out⟩ m' nx' → Q .next { s with heap := h', toks := tk }) :
    wpAny (model PySem.Challenge.rw_ix0003_01.row.prog w) (callerA.deeper (envX "law" lawScope L a ccd [("packet", pc)])) (execs brRtt (envX "law" lawScope L a ccd [("packet", pc)])) Q E s := by
  dsimp only [lawScope, brSent, brAcked, brLost, brPersist, brRtt, else1, else2, else3, else4, turnStmts, lawStmts, PySem.Challenge.pw_ix0003_01, nth, fnBody, fnScope, forBody, ifBody, ifElse]
  repeat' (first | (k_unfold; (try dsimp only)) | ((fail_if_success (with_reducible show wpAny _ _ (exec (Stmt.For _ _ _ _ _) _) _ _ _)); (fail_if_success (with_reducible show wpAny _ _ (exec (Stmt.While _ _ _ _) _) _ _ _)); (fail_if_success (with_reducible show wpAny _ _ (pyIter _) _ _ _)); (fail_if_success (with_reducible show wpAny _ _ (call (Value.ref 91) _ _) _ _ _)); (fail_if_success (with_reducible show wpAny _ _ (call (Value.ref 98) _ _) _ _ _)); (fail_if_success (with_reducible show wpAny _ _ (call (Value.ref 105) _ _) _ _ _)); (fail_if_success (with_reducible show wpAny _ _ (call (Value.ref 112) _ _) _ _ _)); (fail_if_success (with_reducible show wpAny _ _ (call (Value.ref 119) _ _) _ _ _)); (fail_if_success (with_reducible show wpAny _ _ (call (Value.ref 126) _ _) _ _ _)); (fail_if_success (with_reducible show wpAny _ _ (call (Value.ref 195) _ _) _ _ _)); (fail_if_success (with_reducible show wpAny _ _ (call (Value.ref 202) _ _) _ _ _)); (fail_if_success (with_reducible show wpAny _ _ (call (Value.ref 177) _ _) _ _ _)); walk1) | (leave1; walk_say "STEP leave1"; try dsimp only) | fail "no step")
  (rename News _ _ _ _ => lN)
  k_dflt (refine' c_rtt ?kB ?kF ?kX ?kT ?kk ?kN ?kM ?kx ?kl ?ki ?ki5 ?ks ?k1 ?k2 ?k3 ?k4 ?k5 ?k6 ?k7 ?k8 ?k9 ?k10 ?k11 ?k12 ?k13 ?kd ?ku ?kw ?kC ?km ?_; (case kB => k_asm); (case kF => k_asm); (case kX => k_asm); (case kT => k_asm); (case kk => exact rfl); (case kN => exact pull5_4 (news_tail lN)); (case kM => k_asm); (case kx => k_asm); (case kl => k_asm); (case ki => k_asm); (case ki5 => k_asm); (case ks => k_asm); (case k1 => k_asm); (case k2 => exact (by repeat (first | assumption | refine off_cons (by first | assumption | exact Ne.symm (by assumption) | (refine neN ?_; omega)) ?_))); (case k3 => exact Ne.symm (by assumption)); (case k4 => k_asm); (case k5 => k_asm); (case k6 => exact (by repeat (first | assumption | refine off_cons (by first | assumption | exact Ne.symm (by assumption) | (refine neN ?_; omega)) ?_))); (case k7 => k_asm); (case k8 => exact (by repeat (first | assumption | refine off_cons (by first | assumption | exact Ne.symm (by assumption) | (refine neN ?_; omega)) ?_))); (case k9 => first | assumption | exact Ne.symm (by assumption)); (case k10 => first | assumption | exact Ne.symm (by assumption)); (case k11 => first | assumption | exact Ne.symm (by assumption)); (case k12 => first | assumption | exact Ne.symm (by assumption)); (case k13 => first | assumption | exact Ne.symm (by assumption)); (case kw => omega); (case kC => k_asm); (case km => k_asm); (case kd => ktr_room); (case ku => exact Nat.le_of_ble_eq_true rfl))
  intro h2 tk2 es2 n2 em2 nm2 xs2 c2 q2 ns2 e2 F2 N2 D2 M2 I2
  obtain ⟨win, thr, rcv, rest, meas, tl0, floor, times⟩ := v
  dsimp only at htl hmeas2
  subst htl
  rcases thr with _ | th
  · repeat' (first | (k_unfold; (try dsimp only)) | ((fail_if_success (with_reducible show wpAny _ _ (exec (Stmt.For _ _ _ _ _) _) _ _ _)); (fail_if_success (with_reducible show wpAny _ _ (exec (Stmt.While _ _ _ _) _) _ _ _)); (fail_if_success (with_reducible show wpAny _ _ (pyIter _) _ _ _)); (fail_if_success (with_reducible show wpAny _ _ (call (Value.ref 91) _ _) _ _ _)); (fail_if_success (with_reducible show wpAny _ _ (call (Value.ref 98) _ _) _ _ _)); (fail_if_success (with_reducible show wpAny _ _ (call (Value.ref 105) _ _) _ _ _)); (fail_if_success (with_reducible show wpAny _ _ (call (Value.ref 112) _ _) _ _ _)); (fail_if_success (with_reducible show wpAny _ _ (call (Value.ref 119) _ _) _ _ _)); (fail_if_success (with_reducible show wpAny _ _ (call (Value.ref 126) _ _) _ _ _)); (fail_if_success (with_reducible show wpAny _ _ (call (Value.ref 195) _ _) _ _ _)); (fail_if_success (with_reducible show wpAny _ _ (call (Value.ref 202) _ _) _ _ _)); (fail_if_success (with_reducible show wpAny _ _ (call (Value.ref 177) _ _) _ _ _)); walk1) | (leave1; walk_say "STEP leave1"; try dsimp only) | fail "no step")
    (rename News _ _ _ _ => lN3)
    k_dflt (refine' c_grow ?kB ?kF ?kX ?kT ?kk (pull2_7 lN3) ?kD ?k1 ?kd ?ku ?kt ?kx ?kl ?k2 ?k3 ?kw ?_; (case kB => k_asm); (case kF => k_asm); (case kX => k_asm); (case kT => k_asm); (case kk => exact rfl); (case kD => k_asm); (case k1 => exact (by repeat (first | assumption | refine off_cons (by first | assumption | exact Ne.symm (by assumption) | (refine neN ?_; omega)) ?_))); (case kt => exact rfl); (case kx => k_asm); (case kl => k_asm); (case k2 => first | assumption | exact Ne.symm (by assumption)); (case k3 => exact (by repeat (first | assumption | refine off_cons (by first | assumption | exact Ne.symm (by assumption) | (refine neN ?_; omega)) ?_))); (case kw => (dsimp only; omega)); (case kd => ktr_room); (case ku => exact Nat.le_of_ble_eq_true rfl))
    intro h4 tk4 wo4 kvs4 v4 ts4 nt4 b4 e4 F4 N4 D4 I4
    cases b4
    all_goals (
      repeat' (first | (k_unfold; (try dsimp only)) | ((fail_if_success (with_reducible show wpAny _ _ (exec (Stmt.For _ _ _ _ _) _) _ _ _)); (fail_if_success (with_reducible show wpAny _ _ (exec (Stmt.While _ _ _ _) _) _ _ _)); (fail_if_success (with_reducible show wpAny _ _ (pyIter _) _ _ _)); (fail_if_success (with_reducible show wpAny _ _ (call (Value.ref 91) _ _) _ _ _)); (fail_if_success (with_reducible show wpAny _ _ (call (Value.ref 98) _ _) _ _ _)); (fail_if_success (with_reducible show wpAny _ _ (call (Value.ref 105) _ _) _ _ _)); (fail_if_success (with_reducible show wpAny _ _ (call (Value.ref 112) _ _) _ _ _)); (fail_if_success (with_reducible show wpAny _ _ (call (Value.ref 119) _ _) _ _ _)); (fail_if_success (with_reducible show wpAny _ _ (call (Value.ref 126) _ _) _ _ _)); (fail_if_success (with_reducible show wpAny _ _ (call (Value.ref 195) _ _) _ _ _)); (fail_if_success (with_reducible show wpAny _ _ (call (Value.ref 202) _ _) _ _ _)); (fail_if_success (with_reducible show wpAny _ _ (call (Value.ref 177) _ _) _ _ _)); walk1) | (leave1; walk_say "STEP leave1"; try dsimp only) | fail "no step")
      (rename News _ _ _ _ => lN9)
      (rename WorldD _ _ _ _ _ => lD9)
      (rename Fr _ _ _ _ => lF9)
      refine' ret _ _ _ _ _ _ c2 q2 _ _ e2 ?hgo lF9 (newsSub lN9 ?sub) ?off (Core.mk (R := R) rfl ⟨_, rfl⟩ rfl rfl rfl ⟨_, rfl⟩ ⟨_, rfl⟩ ⟨_, rfl⟩ rfl lD9 D2 M2 ?hts I2 hpo P hnl nd hR)
      case sub => exact (by
        (repeat (refine sub_cons (by repeat (first | exact List.mem_cons_self | refine List.mem_cons_of_mem _ ?_)) ?_))
        intro q9 hq9
        repeat (first | exact hq9 | refine List.mem_cons_of_mem _ ?_))
      case off => exact (by repeat (first | assumption | refine off_cons (by first | assumption | exact Ne.symm (by assumption) | (refine neN ?_; omega)) ?_))
      case hts => exact I4
      case hgo => first | exact .inr ⟨by simp, rfl, rfl⟩ | exact .inl ⟨rfl, _, _, e4, rfl, rfl⟩)
  · repeat' (first | (k_unfold; (try dsimp only)) | ((fail_if_success (with_reducible show wpAny _ _ (exec (Stmt.For _ _ _ _ _) _) _ _ _)); (fail_if_success (with_reducible show wpAny _ _ (exec (Stmt.While _ _ _ _) _) _ _ _)); (fail_if_success (with_reducible show wpAny _ _ (pyIter _) _ _ _)); (fail_if_success (with_reducible show wpAny _ _ (call (Value.ref 91) _ _) _ _ _)); (fail_if_success (with_reducible show wpAny _ _ (call (Value.ref 98) _ _) _ _ _)); (fail_if_success (with_reducible show wpAny _ _ (call (Value.ref 105) _ _) _ _ _)); (fail_if_success (with_reducible show wpAny _ _ (call (Value.ref 112) _ _) _ _ _)); (fail_if_success (with_reducible show wpAny _ _ (call (Value.ref 119) _ _) _ _ _)); (fail_if_success (with_reducible show wpAny _ _ (call (Value.ref 126) _ _) _ _ _)); (fail_if_success (with_reducible show wpAny _ _ (call (Value.ref 195) _ _) _ _ _)); (fail_if_success (with_reducible show wpAny _ _ (call (Value.ref 202) _ _) _ _ _)); (fail_if_success (with_reducible show wpAny _ _ (call (Value.ref 177) _ _) _ _ _)); walk1) | (leave1; walk_say "STEP leave1"; try dsimp only) | fail "no step")
    (rename News _ _ _ _ => lN9)
    (rename WorldD _ _ _ _ _ => lD9)
    (rename Fr _ _ _ _ => lF9)
    refine' ret _ _ _ _ _ _ c2 q2 _ _ e2 ?hgo lF9 (newsSub lN9 ?sub) ?off (Core.mk (R := R) rfl ⟨_, rfl⟩ rfl rfl rfl ⟨_, rfl⟩ ⟨_, rfl⟩ ⟨_, rfl⟩ rfl lD9 D2 M2 ?hts I2 hpo P hnl nd hR)
    case sub => exact (by
      (repeat (refine sub_cons (by repeat (first | exact List.mem_cons_self | refine List.mem_cons_of_mem _ ?_)) ?_))
      intro q9 hq9
      repeat (first | exact hq9 | refine List.mem_cons_of_mem _ ?_))
    case off => exact (by repeat (first | assumption | refine off_cons (by first | assumption | exact Ne.symm (by assumption) | (refine neN ?_; omega)) ?_))
    case hts => first | exact hts | assumption
    case hgo => first | exact .inr ⟨by simp, rfl, rfl⟩ | exact .inl ⟨rfl, _, _, by assumption, rfl, rfl⟩
end Mine
end PB3

section PB4
namespace Mine
theorem fresh_B4 : True := by
  w_top off
  first | walk1 | exact True.intro
theorem fillB4 (w : World) : Mine.hd.heap_1 w.params = Mine.hd.heap_1 w.params ∧ PySem.Challenge.rw_ix0003_01.row.prog = PySem.Challenge.rw_ix0003_01.row.prog := by
  k_fill
  exact ⟨rfl, rfl⟩
local macro_rules | `(tactic| walk_at "call builtin:len") => `(tactic| (k_here; with_reducible (show wpAny _ _ (call (Value.builtin "len") [Value.ref _]) _ _ _); (refine t_len ‹_› (by walk_at "zz m") (by first | assumption | omega) ?_)))

theorem refs_at {out : List Pk} {i : Nat} {v : Value} (h : (refsOf out)[i]? = some v) : ∃ p, out[i]? = some p ∧ v = Value.ref p.at_ := by
  unfold refsOf at h
  rw [List.getElem?_map] at h
  cases e : out[i]? with
  | none => rw [e] at h; cases h
  | some q => rw [e] at h; exact ⟨q, rfl, (Option.some.inj h).symm⟩
theorem off1_mem {D : Addr} : ∀ {l : List (Addr × Obj)}, LCg.Off1 D l → ∀ p ∈ l, p.1 ≠ D
  | [], _, _, h => nomatch h
  | _ :: _, x, p, h => by
    rcases List.mem_cons.mp h with rfl | h
    · exact x.1
    · exact off1_mem x.2 p h
theorem refs_len (out : List Pk) : (refsOf out).length = out.length := by simp [refsOf]
theorem fmod_in {a : Int} {n : Nat} (h : 0 < n) : 0 ≤ a.fmod (n : Int) ∧ a.fmod (n : Int) < (n : Int) := by
  rw [Int.fmod_eq_emod_of_nonneg _ (by omega)]
  exact ⟨Int.emod_nonneg _ (by omega), Int.emod_lt_of_pos _ (by omega)⟩

set_option maxHeartbeats 8000000 in
theorem br_acked {w : World} {p : Program} {loose : List Str} {mean : ExcName → Option Value} {mg mb : Str → Option Value} {a : Addr} {ccd : Value} {base h₀ : Heap} {L : Addr} {s : Shared} {Q : Flow → Shared → Prop} {E : Value → Shared → Prop}
    {unit kind more pick now trip number : Int} {tu t1 t2 t3 tn tt tm : Tok} {pc ol wd tl cx cd mx md sl nl I : Addr} {po io wo : Obj} {v0 : Option Value} {kvs : List (Str × Value)} {ts xs nvs : List Value} {nk : Nat} {T9 ring : List Int} {nt n nm k no : Nat} {es em : List DictEntry} {v : Wd} {c : Ctl} {q : Mon} {out : List Pk} {R : List (Addr × Obj)} {u : Str → Option Value}
    (B : Below callerA base [] h₀) (F : Fr h₀ L s.heap (kstB u [("unit", .int unit tu), ("control", .ref cx), ("world", .ref wd), ("out", .ref ol), ("now", .int now tn), ("trip", .int trip tt), ("number", .int number tm), ("numbers", .ref nl), ("kind", .int kind t1), ("more", .int more t2), ("pick", .int pick t3)])) (X : (Mine.hd.heap_1 w.params).In h₀) (T : Top p loose mean mg mb h₀)
    (N : News h₀ L s.heap ((pc, po) :: (ol, listOf (refsOf out).toArray no) :: (wd, wo) :: (tl, listOf ts.toArray nt) :: (cx, instObj 129 cd) :: (cd, dictOf es n) :: (mx, instObj 64 md) :: (md, dictOf em nm) :: (sl, listOf xs.toArray k) :: (I, io) :: R)) (D : WorldD PySem.Challenge.rw_ix0003_01.row.prog w wo v kvs) (C : CtlD es c) (M : MonD em q) (hts : IntsAre ts T9) (hxs : IntsAre xs ring) (hpo : po.data = .cell v0) (P : ∀ p ∈ out, PkIn R p)
    (hnl : (nl, listOf nvs.toArray nk) ∈ R) (nd : [pc, ol, wd, tl, cx, cd, mx, md, sl].Nodup) (hR : ∀ p ∈ R, p.1 ∉ [pc, ol, wd, tl, cx, cd, mx, md, sl])
    (n_pc_ol : pc ≠ ol) (n_pc_wd : pc ≠ wd) (n_pc_tl : pc ≠ tl) (n_pc_cx : pc ≠ cx) (n_pc_cd : pc ≠ cd) (n_pc_mx : pc ≠ mx) (n_pc_md : pc ≠ md) (n_pc_sl : pc ≠ sl) (n_pc_I : pc ≠ I) (n_ol_wd : ol ≠ wd) (n_ol_tl : ol ≠ tl) (n_ol_cx : ol ≠ cx) (n_ol_cd : ol ≠ cd) (n_ol_mx : ol ≠ mx) (n_ol_md : ol ≠ md) (n_ol_sl : ol ≠ sl) (n_ol_I : ol ≠ I) (n_wd_tl : wd ≠ tl) (n_wd_cx : wd ≠ cx) (n_wd_cd : wd ≠ cd) (n_wd_mx : wd ≠ mx) (n_wd_md : wd ≠ md) (n_wd_sl : wd ≠ sl) (n_wd_I : wd ≠ I) (n_tl_cx : tl ≠ cx) (n_tl_cd : tl ≠ cd) (n_tl_mx : tl ≠ mx) (n_tl_md : tl ≠ md) (n_tl_sl : tl ≠ sl) (n_tl_I : tl ≠ I) (n_cx_cd : cx ≠ cd) (n_cx_mx : cx ≠ mx) (n_cx_md : cx ≠ md) (n_cx_sl : cx ≠ sl) (n_cx_I : cx ≠ I) (n_cd_mx : cd ≠ mx) (n_cd_md : cd ≠ md) (n_cd_sl : cd ≠ sl) (n_cd_I : cd ≠ I) (n_mx_md : mx ≠ md) (n_mx_sl : mx ≠ sl) (n_mx_I : mx ≠ I) (n_md_sl : md ≠ sl) (n_md_I : md ≠ I) (n_sl_I : sl ≠ I) (r_pc : ∀ p ∈ R, p.1 ≠ pc) (r_ol : ∀ p ∈ R, p.1 ≠ ol) (r_wd : ∀ p ∈ R, p.1 ≠ wd) (r_tl : ∀ p ∈ R, p.1 ≠ tl) (r_cx : ∀ p ∈ R, p.1 ≠ cx) (r_cd : ∀ p ∈ R, p.1 ≠ cd) (r_mx : ∀ p ∈ R, p.1 ≠ mx) (r_md : ∀ p ∈ R, p.1 ≠ md) (r_sl : ∀ p ∈ R, p.1 ≠ sl) (r_I : ∀ p ∈ R, p.1 ≠ I) (ho : out.length ≤ 1000) (ho2 : 0 < out.length) (hw : 0 < c.win) (hw2 : c.win < 1073741824) (hs : 0 ≤ c.stash) (hs2 : c.stash < 1073741824) (hun : 0 < c.unit) (hun2 : c.unit ≤ 1280) (hvw : 0 < v.win) (hvr : 0 ≤ v.rest) (hlens : ∀ p ∈ out, 0 ≤ p.len ∧ p.len < 1073741824)
    (ret : ∀ h' tk m' nx'  pk (j : Nat), out[j]? = some pk → Fr h₀ L h' m' → News h₀ L h' ((I, io) :: nx') → (∀ p ∈ nx', p.1 ≠ I) → Core w unit pc wd tl cx cd mx md sl nl nvs nk ⟨now, trip, number, v.acked pk.time pk.len unit, c.acked pk.time pk.len, q, T9, ring, out.filter (fun o => decide (o.num ≠ pk.num))⟩ m' nx' → Q .next { s with heap := h', toks := tk }) :
    wpAny (model PySem.Challenge.rw_ix0003_01.row.prog w) (callerA.deeper (envX "law" lawScope L a ccd [("packet", pc)])) (execs brAcked (envX "law" lawScope L a ccd [("packet", pc)])) Q E s := by
  have hz1 : (refsOf out).length ≤ 1000 := by rw [refs_len]; exact ho
  have hz2 : 0 < (refsOf out).length := by rw [refs_len]; exact ho2
  obtain ⟨hf0, hf1⟩ := fmod_in (a := pick) hz2
  dsimp only [lawScope, brSent, brAcked, brLost, brPersist, brRtt, else1, else2, else3, else4, turnStmts, lawStmts, PySem.Challenge.pw_ix0003_01, nth, fnBody, fnScope, forBody, ifBody, ifElse]
  repeat' (first | (k_unfold; (try dsimp only)) | ((fail_if_success (with_reducible show wpAny _ _ (exec (Stmt.For _ _ _ _ _) _) _ _ _)); (fail_if_success (with_reducible show wpAny _ _ (exec (Stmt.While _ _ _ _) _) _ _ _)); (fail_if_success (with_reducible show wpAny _ _ (pyIter _) _ _ _)); (fail_if_success (with_reducible show wpAny _ _ (call (Value.ref 91) _ _) _ _ _)); (fail_if_success (with_reducible show wpAny _ _ (call (Value.ref 98) _ _) _ _ _)); (fail_if_success (with_reducible show wpAny _ _ (call (Value.ref 105) _ _) _ _ _)); (fail_if_success (with_reducible show wpAny _ _ (call (Value.ref 112) _ _) _ _ _)); (fail_if_success (with_reducible show wpAny _ _ (call (Value.ref 119) _ _) _ _ _)); (fail_if_success (with_reducible show wpAny _ _ (call (Value.ref 126) _ _) _ _ _)); (fail_if_success (with_reducible show wpAny _ _ (call (Value.ref 195) _ _) _ _ _)); (fail_if_success (with_reducible show wpAny _ _ (call (Value.ref 202) _ _) _ _ _)); (fail_if_success (with_reducible show wpAny _ _ (call (Value.ref 177) _ _) _ _ _)); (fail_if_success (with_reducible show wpAny _ _ (subscriptTail _ _ (Value.ref _) (Value.int _ _)) _ _ _)); (fail_if_success (with_reducible show wpAny _ _ (exec (Stmt.Assign _ (PySem.Expr.ListComp _ _ _ _) _) _) _ _ _)); (fail_if_success (with_reducible show wpAny _ _ (eval (PySem.Expr.ListComp _ _ _ _) _) _ _ _)); walk1) | (leave1; walk_say "STEP leave1"; try dsimp only) | fail "no step")
  (rename News _ _ _ _ => lN)
  k_dflt (refine t_item lN (by repeat (first | exact List.mem_cons_self | refine List.mem_cons_of_mem _ ?_)) hf0 hf1 hz1 ?_)
  intro v9 hv9
  obtain ⟨pk, hpk, rfl⟩ := refs_at hv9
  have Ppk := P pk (List.mem_of_getElem? hpk)
  repeat' (first | (k_unfold; (try dsimp only)) | ((fail_if_success (with_reducible show wpAny _ _ (exec (Stmt.For _ _ _ _ _) _) _ _ _)); (fail_if_success (with_reducible show wpAny _ _ (exec (Stmt.While _ _ _ _) _) _ _ _)); (fail_if_success (with_reducible show wpAny _ _ (pyIter _) _ _ _)); (fail_if_success (with_reducible show wpAny _ _ (call (Value.ref 91) _ _) _ _ _)); (fail_if_success (with_reducible show wpAny _ _ (call (Value.ref 98) _ _) _ _ _)); (fail_if_success (with_reducible show wpAny _ _ (call (Value.ref 105) _ _) _ _ _)); (fail_if_success (with_reducible show wpAny _ _ (call (Value.ref 112) _ _) _ _ _)); (fail_if_success (with_reducible show wpAny _ _ (call (Value.ref 119) _ _) _ _ _)); (fail_if_success (with_reducible show wpAny _ _ (call (Value.ref 126) _ _) _ _ _)); (fail_if_success (with_reducible show wpAny _ _ (call (Value.ref 195) _ _) _ _ _)); (fail_if_success (with_reducible show wpAny _ _ (call (Value.ref 202) _ _) _ _ _)); (fail_if_success (with_reducible show wpAny _ _ (call (Value.ref 177) _ _) _ _ _)); (fail_if_success (with_reducible show wpAny _ _ (subscriptTail _ _ (Value.ref _) (Value.int _ _)) _ _ _)); (fail_if_success (with_reducible show wpAny _ _ (exec (Stmt.Assign _ (PySem.Expr.ListComp _ _ _ _) _) _) _ _ _)); (fail_if_success (with_reducible show wpAny _ _ (eval (PySem.Expr.ListComp _ _ _ _) _) _ _ _)); walk1) | (leave1; walk_say "STEP leave1"; try dsimp only) | fail "no step")
  (rename (Obj.data _ = Data.cell (some (Value.ref pk.at_))) => hcell)
  (rename Fr _ _ _ _ => lF2)
  k_dflt (refine LCt.Assign_ListComp_T (F₀ := lF2) (by rfl) (by with_unfolding_all rfl) (by with_unfolding_all rfl) (by decide) (by rfl) (by decide) (by rfl) (by rfl) (by rfl) ?_)
  walk1
  (rename News _ _ _ _ => lN2)
  k_dflt (refine LCt.CompSrcT.ledger (by rfl) lF2 lN2 (List.mem_cons_of_mem _ List.mem_cons_self) (by rw [List.size_toArray, sizeLine_eq]; omega) ?_)
  intro g
  refine compT_all (fun i => refsOf ((out.take i).filter (fun o => decide (o.num ≠ pk.num)))) rfl (.inr ⟨_, List.mem_cons_of_mem _ List.mem_cons_self, rfl, _, rfl⟩) ?step ?fin
  case step =>
    intro i v I2 oI C oC D2 m₂ h2 tk2 E2 hi hv hC hx F2 N2 off2
    obtain ⟨po2, hpo2, rfl⟩ := refs_at (out := out) (by simpa using hv)
    have Po2 := P po2 (List.mem_of_getElem? hpo2)
    repeat' (first | (k_unfold; (try dsimp only)) | ((fail_if_success (with_reducible show wpAny _ _ (exec (Stmt.For _ _ _ _ _) _) _ _ _)); (fail_if_success (with_reducible show wpAny _ _ (exec (Stmt.While _ _ _ _) _) _ _ _)); (fail_if_success (with_reducible show wpAny _ _ (pyIter _) _ _ _)); (fail_if_success (with_reducible show wpAny _ _ (call (Value.ref 91) _ _) _ _ _)); (fail_if_success (with_reducible show wpAny _ _ (call (Value.ref 98) _ _) _ _ _)); (fail_if_success (with_reducible show wpAny _ _ (call (Value.ref 105) _ _) _ _ _)); (fail_if_success (with_reducible show wpAny _ _ (call (Value.ref 112) _ _) _ _ _)); (fail_if_success (with_reducible show wpAny _ _ (call (Value.ref 119) _ _) _ _ _)); (fail_if_success (with_reducible show wpAny _ _ (call (Value.ref 126) _ _) _ _ _)); (fail_if_success (with_reducible show wpAny _ _ (call (Value.ref 195) _ _) _ _ _)); (fail_if_success (with_reducible show wpAny _ _ (call (Value.ref 202) _ _) _ _ _)); (fail_if_success (with_reducible show wpAny _ _ (call (Value.ref 177) _ _) _ _ _)); walk1) | (leave1; walk_say "STEP leave1"; try dsimp only) | fail "no step")
    all_goals (
      refine LCg.CompEnd.intro (by assumption) (by assumption) _ (fun p9 hp9 => hp9) off2 rfl ?_
      by_cases e9 : po2.num = pk.num
      · first
          | (exfalso; omega)
          | simp [refsOf, take_snoc hpo2, e9]
      · first
          | (exfalso; omega)
          | simp [refsOf, take_snoc hpo2, e9])
  case fin =>
    unfold LCg.FinA
    intro D9 h9 tk9 F9 N9 o9

    rw [show out.take (refsOf out).toArray.size = out by simp [refsOf]] at N9
    repeat' (first | (k_unfold; (try dsimp only)) | ((fail_if_success (with_reducible show wpAny _ _ (exec (Stmt.For _ _ _ _ _) _) _ _ _)); (fail_if_success (with_reducible show wpAny _ _ (exec (Stmt.While _ _ _ _) _) _ _ _)); (fail_if_success (with_reducible show wpAny _ _ (pyIter _) _ _ _)); (fail_if_success (with_reducible show wpAny _ _ (call (Value.ref 91) _ _) _ _ _)); (fail_if_success (with_reducible show wpAny _ _ (call (Value.ref 98) _ _) _ _ _)); (fail_if_success (with_reducible show wpAny _ _ (call (Value.ref 105) _ _) _ _ _)); (fail_if_success (with_reducible show wpAny _ _ (call (Value.ref 112) _ _) _ _ _)); (fail_if_success (with_reducible show wpAny _ _ (call (Value.ref 119) _ _) _ _ _)); (fail_if_success (with_reducible show wpAny _ _ (call (Value.ref 126) _ _) _ _ _)); (fail_if_success (with_reducible show wpAny _ _ (call (Value.ref 195) _ _) _ _ _)); (fail_if_success (with_reducible show wpAny _ _ (call (Value.ref 202) _ _) _ _ _)); (fail_if_success (with_reducible show wpAny _ _ (call (Value.ref 177) _ _) _ _ _)); walk1) | (leave1; walk_say "STEP leave1"; try dsimp only) | fail "no step")
    have ho9 := off1_mem o9
    have d_pc : pc ≠ D9 := ho9 (pc, _) List.mem_cons_self
    have d_wd : wd ≠ D9 := ho9 (wd, wo) (by repeat (first | exact List.mem_cons_self | refine List.mem_cons_of_mem _ ?_))
    have d_tl : tl ≠ D9 := ho9 (tl, _) (by repeat (first | exact List.mem_cons_self | refine List.mem_cons_of_mem _ ?_))
    have d_cx : cx ≠ D9 := ho9 (cx, instObj 129 cd) (by repeat (first | exact List.mem_cons_self | refine List.mem_cons_of_mem _ ?_))
    have d_cd : cd ≠ D9 := ho9 (cd, dictOf es n) (by repeat (first | exact List.mem_cons_self | refine List.mem_cons_of_mem _ ?_))
    have d_mx : mx ≠ D9 := ho9 (mx, instObj 64 md) (by repeat (first | exact List.mem_cons_self | refine List.mem_cons_of_mem _ ?_))
    have d_md : md ≠ D9 := ho9 (md, dictOf em nm) (by repeat (first | exact List.mem_cons_self | refine List.mem_cons_of_mem _ ?_))
    have d_sl : sl ≠ D9 := ho9 (sl, _) (by repeat (first | exact List.mem_cons_self | refine List.mem_cons_of_mem _ ?_))
    have d_I : I ≠ D9 := ho9 (I, io) (by repeat (first | exact List.mem_cons_self | refine List.mem_cons_of_mem _ ?_))
    have r_D9 : ∀ p ∈ R, p.1 ≠ D9 := fun p9 hp9 => ho9 p9 (by repeat (first | exact hp9 | refine List.mem_cons_of_mem _ ?_))
    (rename News _ _ _ _ => lN3)
    k_dflt (refine' c_acked (pk := pk) ?kB ?kF ?kX ?kT ?kk (pull2_5 lN3) ?kD ?k1 ?k2 ?kd ?ku ?kP ?a1 ?a2 ?a3 ?a4 ?a5 ?a6 ?a7 ?a8 ?_; (case kB => k_asm); (case kF => k_asm); (case kX => k_asm); (case kT => k_asm); (case kk => exact rfl); (case kD => k_asm); (case k1 => k_asm); (case k2 => exact (by repeat (first | assumption | refine off_cons (by first | assumption | exact Ne.symm (by assumption) | (refine neN ?_; omega)) ?_))); (case kd => ktr_room); (case ku => exact Nat.le_of_ble_eq_true rfl); (case kP => exact PkIn.mono Ppk (by intro q9 hq9; repeat (first | exact hq9 | refine List.mem_cons_of_mem _ ?_))); (case a1 => k_asm); (case a2 => k_asm); (case a3 => k_asm); (case a4 => k_asm); (case a5 => exact (hlens pk (List.mem_of_getElem? hpk)).1); (case a6 => exact (hlens pk (List.mem_of_getElem? hpk)).2); (case a7 => k_asm); (case a8 => k_asm))
    intro h3 tk3 es3 n3 c3 ec F3 N3 D3
    repeat' (first | (k_unfold; (try dsimp only)) | ((fail_if_success (with_reducible show wpAny _ _ (exec (Stmt.For _ _ _ _ _) _) _ _ _)); (fail_if_success (with_reducible show wpAny _ _ (exec (Stmt.While _ _ _ _) _) _ _ _)); (fail_if_success (with_reducible show wpAny _ _ (pyIter _) _ _ _)); (fail_if_success (with_reducible show wpAny _ _ (call (Value.ref 91) _ _) _ _ _)); (fail_if_success (with_reducible show wpAny _ _ (call (Value.ref 98) _ _) _ _ _)); (fail_if_success (with_reducible show wpAny _ _ (call (Value.ref 105) _ _) _ _ _)); (fail_if_success (with_reducible show wpAny _ _ (call (Value.ref 112) _ _) _ _ _)); (fail_if_success (with_reducible show wpAny _ _ (call (Value.ref 119) _ _) _ _ _)); (fail_if_success (with_reducible show wpAny _ _ (call (Value.ref 126) _ _) _ _ _)); (fail_if_success (with_reducible show wpAny _ _ (call (Value.ref 195) _ _) _ _ _)); (fail_if_success (with_reducible show wpAny _ _ (call (Value.ref 202) _ _) _ _ _)); (fail_if_success (with_reducible show wpAny _ _ (call (Value.ref 177) _ _) _ _ _)); walk1) | (leave1; walk_say "STEP leave1"; try dsimp only) | fail "no step")
    (rename News _ _ _ _ => lN4)
    k_dflt (refine' c_wacked (pk := pk) ?kB ?kF ?kX ?kT ?kk (pull1_5 lN4) ?kD ?k2 ?kd ?ku ?kP ?a1 ?a2 ?a3 ?_; (case kB => k_asm); (case kF => k_asm); (case kX => k_asm); (case kT => k_asm); (case kk => exact rfl); (case kD => k_asm); (case k2 => exact (by repeat (first | assumption | refine off_cons (by first | assumption | exact Ne.symm (by assumption) | (refine neN ?_; omega)) ?_))); (case kd => ktr_room); (case ku => exact Nat.le_of_ble_eq_true rfl); (case kP => exact PkIn.mono Ppk (by intro q9 hq9; repeat (first | exact hq9 | refine List.mem_cons_of_mem _ ?_))); (case a1 => k_asm); (case a2 => k_asm); (case a3 => exact (hlens pk (List.mem_of_getElem? hpk)).1))
    intro h4 tk4 wo4 kvs4 v4 ev F4 N4 D4
    repeat' (first | (k_unfold; (try dsimp only)) | ((fail_if_success (with_reducible show wpAny _ _ (exec (Stmt.For _ _ _ _ _) _) _ _ _)); (fail_if_success (with_reducible show wpAny _ _ (exec (Stmt.While _ _ _ _) _) _ _ _)); (fail_if_success (with_reducible show wpAny _ _ (pyIter _) _ _ _)); (fail_if_success (with_reducible show wpAny _ _ (call (Value.ref 91) _ _) _ _ _)); (fail_if_success (with_reducible show wpAny _ _ (call (Value.ref 98) _ _) _ _ _)); (fail_if_success (with_reducible show wpAny _ _ (call (Value.ref 105) _ _) _ _ _)); (fail_if_success (with_reducible show wpAny _ _ (call (Value.ref 112) _ _) _ _ _)); (fail_if_success (with_reducible show wpAny _ _ (call (Value.ref 119) _ _) _ _ _)); (fail_if_success (with_reducible show wpAny _ _ (call (Value.ref 126) _ _) _ _ _)); (fail_if_success (with_reducible show wpAny _ _ (call (Value.ref 195) _ _) _ _ _)); (fail_if_success (with_reducible show wpAny _ _ (call (Value.ref 202) _ _) _ _ _)); (fail_if_success (with_reducible show wpAny _ _ (call (Value.ref 177) _ _) _ _ _)); walk1) | (leave1; walk_say "STEP leave1"; try dsimp only) | fail "no step")
    subst ec
    subst ev
    refine' ret _ _ _ _ pk _ hpk F4 (newsSub N4 ?sub) ?off (Core.mk (ol := D9) (no := _) (R := R) rfl ⟨_, rfl⟩ rfl rfl rfl ⟨_, rfl⟩ ⟨_, rfl⟩ ⟨_, rfl⟩ rfl D4 D3 M hts hxs hcell ?hP hnl ?nd ?hR)
    case sub => exact (by
      (repeat (refine sub_cons (by repeat (first | exact List.mem_cons_self | refine List.mem_cons_of_mem _ ?_)) ?_))
      intro q9 hq9
      repeat (first | exact hq9 | refine List.mem_cons_of_mem _ ?_))
    case off => exact (by repeat (first | assumption | refine off_cons (by first | assumption | exact Ne.symm (by assumption) | (refine neN ?_; omega)) ?_))
    case hP => exact fun p9 hp9 => P p9 (List.mem_filter.mp hp9).1
    case nd => exact (by
      simp only [List.nodup_cons, List.mem_cons, List.not_mem_nil, or_false, not_or, not_false_eq_true, and_true, List.nodup_nil]
      repeat' apply And.intro
      all_goals first | assumption | exact Ne.symm (by assumption))
    case hR => exact (by
      intro p9 hp9
      simp only [List.mem_cons, List.not_mem_nil, or_false, not_or]
      exact ⟨r_pc p9 hp9, r_D9 p9 hp9, r_wd p9 hp9, r_tl p9 hp9, r_cx p9 hp9, r_cd p9 hp9, r_mx p9 hp9, r_md p9 hp9, r_sl p9 hp9⟩)
end Mine
end PB4

section PB5
namespace Mine
theorem fresh_B5 : True := by
  w_top off
  first | walk1 | exact True.intro
theorem fillB5 (w : World) : Mine.hd.heap_1 w.params = Mine.hd.heap_1 w.params ∧ PySem.Challenge.rw_ix0003_01.row.prog = PySem.Challenge.rw_ix0003_01.row.prog := by
  k_fill
  exact ⟨rfl, rfl⟩

local macro_rules | `(tactic| walk_at "call builtin:len") => `(tactic| (k_here; with_reducible (show wpAny _ _ (call (Value.builtin "len") [Value.ref _]) _ _ _); (refine t_len ‹_› (by walk_at "zz m") ?hz ?_); (case hz => first | assumption | (simp only [refs_len, runOf, List.length_take, List.length_drop]; omega) | (simp only [runOf, List.length_take, List.length_drop]; omega))))
local macro_rules | `(tactic| walk_at "subscriptTail Name Slice ref ref") => `(tactic| (k_here; (with_reducible show wpAny _ _ (subscriptTail _ (PySem.Expr.Slice (some _) (some _) none _) (Value.ref _) (Value.ref _)) _ _ _); (refine r_run ‹_› ‹_› (by walk_at "zz m") ?a ?b ‹_› ?_ ?hs ?ht); (case a => omega); (case b => omega); (case hs => with_unfolding_all rfl); (case ht => (intro _; with_unfolding_all rfl)); intro D' h' F' N' l1; (try k_lt l1)))
local macro_rules | `(tactic| walk_at "subscriptTail Name Slice ref ref") => `(tactic| (k_here; (with_reducible show wpAny _ _ (subscriptTail _ (PySem.Expr.Slice none (some _) none _) (Value.ref _) (Value.ref _)) _ _ _); (refine r_upto ‹_› ‹_› (by walk_at "zz m") ?b ‹_› ?_ ?hs ?ht); (case b => omega); (case hs => with_unfolding_all rfl); (case ht => (intro _; with_unfolding_all rfl)); intro D' h' F' N' l1; (try k_lt l1)))
local macro_rules | `(tactic| walk_at "subscriptTail Name Slice ref ref") => `(tactic| (k_here; (with_reducible show wpAny _ _ (subscriptTail _ (PySem.Expr.Slice (some _) none none _) (Value.ref _) (Value.ref _)) _ _ _); (refine r_from ‹_› ‹_› (by walk_at "zz m") ?a ‹_› ?_ ?hs ?ht); (case a => omega); (case hs => with_unfolding_all rfl); (case ht => (intro _; with_unfolding_all rfl)); intro D' h' F' N' l1; (try k_lt l1)))
local macro_rules | `(tactic| walk_at "binaryOp Add ref ref") => `(tactic| (k_here; (refine r_cat ‹_› ‹_› (by walk_at "zz m") (by walk_at "zz m") ?hz ?hy ?_); (case hz => (simp only [refs_len, runOf, List.length_take, List.length_drop]; omega)); (case hy => (simp only [refs_len, runOf, List.length_take, List.length_drop]; omega)); intro D' h' F' N' l1; (try k_lt l1)))
local macro_rules | `(tactic| walk_at "subscriptTail") => `(tactic| (k_here; with_reducible (show wpAny _ _ (subscriptTail _ _ (Value.ref _) (Value.int _ _)) _ _ _); (refine r_last ‹_› (by walk_at "zz m") ‹_› (by first | assumption | (simp only [refs_len, runOf, List.length_take, List.length_drop]; omega) | (simp only [runOf, List.length_take, List.length_drop]; omega)) ?_)))

theorem run_mem {out : List Pk} {x y : Int} {p : Pk} (h : p ∈ runOf out x y) : p ∈ out := List.mem_of_mem_drop (List.mem_of_mem_take h)
theorem run_len {out : List Pk} {x y : Int} : (runOf out x y).length = min (min y.toNat out.length - x.toNat) (out.length - x.toNat) := by simp [runOf]
theorem fmod3 (a : Int) : 0 ≤ a.fmod 3 ∧ a.fmod 3 < 3 := by
  rw [Int.fmod_eq_emod_of_nonneg _ (by omega)]
  omega
def Wd.lost (v : Wd) (now time unit : Int) : Wd :=
  if time > v.rcv then { v with rcv := now, win := halved v.win unit, thr := some (halved v.win unit) } else v

set_option maxHeartbeats 8000000 in
theorem br_lost {w : World} {p : Program} {loose : List Str} {mean : ExcName → Option Value} {mg mb : Str → Option Value} {a : Addr} {ccd : Value} {base h₀ : Heap} {L : Addr} {s : Shared} {Q : Flow → Shared → Prop} {E : Value → Shared → Prop}
    {unit kind more pick now trip number : Int} {tu t1 t2 t3 tn tt tm : Tok} {pc ol wd tl cx cd mx md sl nl I : Addr} {po io wo : Obj} {v0 : Option Value} {kvs : List (Str × Value)} {ts xs nvs : List Value} {nk : Nat} {T9 ring : List Int} {nt n nm k no : Nat} {es em : List DictEntry} {v : Wd} {c : Ctl} {q : Mon} {out : List Pk} {R : List (Addr × Obj)} {u : Str → Option Value}
    (B : Below callerA base [] h₀) (F : Fr h₀ L s.heap (kstB u [("unit", .int unit tu), ("control", .ref cx), ("world", .ref wd), ("out", .ref ol), ("now", .int now tn), ("trip", .int trip tt), ("number", .int number tm), ("numbers", .ref nl), ("kind", .int kind t1), ("more", .int more t2), ("pick", .int pick t3)])) (X : (Mine.hd.heap_1 w.params).In h₀) (T : Top p loose mean mg mb h₀)
    (N : News h₀ L s.heap ((pc, po) :: (ol, listOf (refsOf out).toArray no) :: (wd, wo) :: (tl, listOf ts.toArray nt) :: (cx, instObj 129 cd) :: (cd, dictOf es n) :: (mx, instObj 64 md) :: (md, dictOf em nm) :: (sl, listOf xs.toArray k) :: (I, io) :: R)) (D : WorldD PySem.Challenge.rw_ix0003_01.row.prog w wo v kvs) (C : CtlD es c) (M : MonD em q) (hts : IntsAre ts T9) (hxs : IntsAre xs ring) (hpo : po.data = .cell v0) (P : ∀ p ∈ out, PkIn R p)
    (hnl : (nl, listOf nvs.toArray nk) ∈ R) (nd : [pc, ol, wd, tl, cx, cd, mx, md, sl].Nodup) (hR : ∀ p ∈ R, p.1 ∉ [pc, ol, wd, tl, cx, cd, mx, md, sl])
    (n_pc_ol : pc ≠ ol) (n_pc_wd : pc ≠ wd) (n_pc_tl : pc ≠ tl) (n_pc_cx : pc ≠ cx) (n_pc_cd : pc ≠ cd) (n_pc_mx : pc ≠ mx) (n_pc_md : pc ≠ md) (n_pc_sl : pc ≠ sl) (n_pc_I : pc ≠ I) (n_ol_wd : ol ≠ wd) (n_ol_tl : ol ≠ tl) (n_ol_cx : ol ≠ cx) (n_ol_cd : ol ≠ cd) (n_ol_mx : ol ≠ mx) (n_ol_md : ol ≠ md) (n_ol_sl : ol ≠ sl) (n_ol_I : ol ≠ I) (n_wd_tl : wd ≠ tl) (n_wd_cx : wd ≠ cx) (n_wd_cd : wd ≠ cd) (n_wd_mx : wd ≠ mx) (n_wd_md : wd ≠ md) (n_wd_sl : wd ≠ sl) (n_wd_I : wd ≠ I) (n_tl_cx : tl ≠ cx) (n_tl_cd : tl ≠ cd) (n_tl_mx : tl ≠ mx) (n_tl_md : tl ≠ md) (n_tl_sl : tl ≠ sl) (n_tl_I : tl ≠ I) (n_cx_cd : cx ≠ cd) (n_cx_mx : cx ≠ mx) (n_cx_md : cx ≠ md) (n_cx_sl : cx ≠ sl) (n_cx_I : cx ≠ I) (n_cd_mx : cd ≠ mx) (n_cd_md : cd ≠ md) (n_cd_sl : cd ≠ sl) (n_cd_I : cd ≠ I) (n_mx_md : mx ≠ md) (n_mx_sl : mx ≠ sl) (n_mx_I : mx ≠ I) (n_md_sl : md ≠ sl) (n_md_I : md ≠ I) (n_sl_I : sl ≠ I) (r_pc : ∀ p ∈ R, p.1 ≠ pc) (r_ol : ∀ p ∈ R, p.1 ≠ ol) (r_wd : ∀ p ∈ R, p.1 ≠ wd) (r_tl : ∀ p ∈ R, p.1 ≠ tl) (r_cx : ∀ p ∈ R, p.1 ≠ cx) (r_cd : ∀ p ∈ R, p.1 ≠ cd) (r_mx : ∀ p ∈ R, p.1 ≠ mx) (r_md : ∀ p ∈ R, p.1 ≠ md) (r_sl : ∀ p ∈ R, p.1 ≠ sl) (r_I : ∀ p ∈ R, p.1 ≠ I) (ho : out.length ≤ 1000) (ho2 : 0 < out.length)
    (ret : ∀ h' tk m' nx'  gone out' v' c', gone = (runOf out (pick.fmod ((refsOf out).length : Int)) (pick.fmod ((refsOf out).length : Int) + 1 + more.fmod 3)) → out' = (out.take (pick.fmod ((refsOf out).length : Int)).toNat ++ out.drop (pick.fmod ((refsOf out).length : Int) + ((refsOf (runOf out (pick.fmod ((refsOf out).length : Int)) (pick.fmod ((refsOf out).length : Int) + 1 + more.fmod 3))).length : Int)).toNat) → ((v' = v ∧ c' = { c with fly := c.fly - lensOf gone }) ∨ (v' = v.lost now (lastTime gone) unit ∧ c' = c.lost now gone)) → Fr h₀ L h' m' → News h₀ L h' ((I, io) :: nx') → (∀ p ∈ nx', p.1 ≠ I) → Core w unit pc wd tl cx cd mx md sl nl nvs nk ⟨now, trip, number, v', c', q, T9, ring, out'⟩ m' nx' → Q .next { s with heap := h', toks := tk }) :
    wpAny (model PySem.Challenge.rw_ix0003_01.row.prog w) (callerA.deeper (envX "law" lawScope L a ccd [("packet", pc)])) (execs brLost (envX "law" lawScope L a ccd [("packet", pc)])) Q E s := by
  have hz1 : (refsOf out).length ≤ 1000 := by rw [refs_len]; exact ho
  have hz2 : 0 < (refsOf out).length := by rw [refs_len]; exact ho2
  obtain ⟨hf0, hf1⟩ := fmod_in (a := pick) hz2
  obtain ⟨hm0, hm1⟩ := fmod3 more
  have hgl : 0 < (runOf out (pick.fmod ((refsOf out).length : Int)) (pick.fmod ((refsOf out).length : Int) + 1 + more.fmod 3)).length := by
    rw [run_len]
    rw [refs_len] at hf0 hf1 ⊢
    omega
  obtain ⟨pl, hpl⟩ : ∃ pl, (runOf out (pick.fmod ((refsOf out).length : Int)) (pick.fmod ((refsOf out).length : Int) + 1 + more.fmod 3)).getLast? = some pl := by
    cases e : (runOf out (pick.fmod ((refsOf out).length : Int)) (pick.fmod ((refsOf out).length : Int) + 1 + more.fmod 3)).getLast? with
    | none => rw [List.getLast?_eq_none_iff] at e; rw [e] at hgl; simp at hgl
    | some pl => exact ⟨pl, rfl⟩
  have hlt : lastTime (runOf out (pick.fmod ((refsOf out).length : Int)) (pick.fmod ((refsOf out).length : Int) + 1 + more.fmod 3)) = pl.time := by unfold lastTime; rw [hpl]; rfl
  have Ppl := P pl (run_mem (List.mem_of_getLast? hpl))
  dsimp only [lawScope, brSent, brAcked, brLost, brPersist, brRtt, else1, else2, else3, else4, turnStmts, lawStmts, PySem.Challenge.pw_ix0003_01, nth, fnBody, fnScope, forBody, ifBody, ifElse]
  repeat' (first | (k_unfold; (try dsimp only)) | ((fail_if_success (with_reducible show wpAny _ _ (exec (Stmt.For _ _ _ _ _) _) _ _ _)); (fail_if_success (with_reducible show wpAny _ _ (exec (Stmt.While _ _ _ _) _) _ _ _)); (fail_if_success (with_reducible show wpAny _ _ (pyIter _) _ _ _)); (fail_if_success (with_reducible show wpAny _ _ (call (Value.ref 91) _ _) _ _ _)); (fail_if_success (with_reducible show wpAny _ _ (call (Value.ref 98) _ _) _ _ _)); (fail_if_success (with_reducible show wpAny _ _ (call (Value.ref 105) _ _) _ _ _)); (fail_if_success (with_reducible show wpAny _ _ (call (Value.ref 112) _ _) _ _ _)); (fail_if_success (with_reducible show wpAny _ _ (call (Value.ref 119) _ _) _ _ _)); (fail_if_success (with_reducible show wpAny _ _ (call (Value.ref 126) _ _) _ _ _)); (fail_if_success (with_reducible show wpAny _ _ (call (Value.ref 195) _ _) _ _ _)); (fail_if_success (with_reducible show wpAny _ _ (call (Value.ref 202) _ _) _ _ _)); (fail_if_success (with_reducible show wpAny _ _ (call (Value.ref 177) _ _) _ _ _)); (fail_if_success (with_reducible show wpAny _ _ (binaryOp _ (Value.ref _) (Value.ref _)) _ _ _)); walk1) | (leave1; walk_say "STEP leave1"; try dsimp only) | fail "no step")
  (rename News _ _ _ _ => lN9)
  k_dflt (refine r_cat (by assumption) lN9 (by repeat (first | exact List.mem_cons_self | refine List.mem_cons_of_mem _ ?_)) (by repeat (first | exact List.mem_cons_self | refine List.mem_cons_of_mem _ ?_)) (by simp only [List.length_take]; omega) (by simp only [List.length_drop]; omega) ?_)
  intro D9 h9 F9 N9 l9
  have ho9 := fun (p : Addr × Obj) hp => Nat.ne_of_lt (l9 p hp)
  have d_pc : pc ≠ D9 := ho9 (pc, po) (by repeat (first | exact List.mem_cons_self | refine List.mem_cons_of_mem _ ?_))
  have d_wd : wd ≠ D9 := ho9 (wd, wo) (by repeat (first | exact List.mem_cons_self | refine List.mem_cons_of_mem _ ?_))
  have d_tl : tl ≠ D9 := ho9 (tl, _) (by repeat (first | exact List.mem_cons_self | refine List.mem_cons_of_mem _ ?_))
  have d_cx : cx ≠ D9 := ho9 (cx, instObj 129 cd) (by repeat (first | exact List.mem_cons_self | refine List.mem_cons_of_mem _ ?_))
  have d_cd : cd ≠ D9 := ho9 (cd, dictOf es n) (by repeat (first | exact List.mem_cons_self | refine List.mem_cons_of_mem _ ?_))
  have d_mx : mx ≠ D9 := ho9 (mx, instObj 64 md) (by repeat (first | exact List.mem_cons_self | refine List.mem_cons_of_mem _ ?_))
  have d_md : md ≠ D9 := ho9 (md, dictOf em nm) (by repeat (first | exact List.mem_cons_self | refine List.mem_cons_of_mem _ ?_))
  have d_sl : sl ≠ D9 := ho9 (sl, _) (by repeat (first | exact List.mem_cons_self | refine List.mem_cons_of_mem _ ?_))
  have d_I : I ≠ D9 := ho9 (I, io) (by repeat (first | exact List.mem_cons_self | refine List.mem_cons_of_mem _ ?_))
  have r_D9 : ∀ p ∈ R, p.1 ≠ D9 := fun p9 hp9 => ho9 p9 (by repeat (first | exact hp9 | refine List.mem_cons_of_mem _ ?_))
  clear ho9
  k_lt l9
  repeat' (first | (k_unfold; (try dsimp only)) | ((fail_if_success (with_reducible show wpAny _ _ (exec (Stmt.For _ _ _ _ _) _) _ _ _)); (fail_if_success (with_reducible show wpAny _ _ (exec (Stmt.While _ _ _ _) _) _ _ _)); (fail_if_success (with_reducible show wpAny _ _ (pyIter _) _ _ _)); (fail_if_success (with_reducible show wpAny _ _ (call (Value.ref 91) _ _) _ _ _)); (fail_if_success (with_reducible show wpAny _ _ (call (Value.ref 98) _ _) _ _ _)); (fail_if_success (with_reducible show wpAny _ _ (call (Value.ref 105) _ _) _ _ _)); (fail_if_success (with_reducible show wpAny _ _ (call (Value.ref 112) _ _) _ _ _)); (fail_if_success (with_reducible show wpAny _ _ (call (Value.ref 119) _ _) _ _ _)); (fail_if_success (with_reducible show wpAny _ _ (call (Value.ref 126) _ _) _ _ _)); (fail_if_success (with_reducible show wpAny _ _ (call (Value.ref 195) _ _) _ _ _)); (fail_if_success (with_reducible show wpAny _ _ (call (Value.ref 202) _ _) _ _ _)); (fail_if_success (with_reducible show wpAny _ _ (call (Value.ref 177) _ _) _ _ _)); (fail_if_success (with_reducible show wpAny _ _ (binaryOp _ (Value.ref _) (Value.ref _)) _ _ _)); walk1) | (leave1; walk_say "STEP leave1"; try dsimp only) | fail "no step")
  all_goals (first
    | (((rename News _ _ _ _ => lN); k_dflt (refine' c_expired (pks := (runOf out (pick.fmod ((refsOf out).length : Int)) (pick.fmod ((refsOf out).length : Int) + 1 + more.fmod 3))) ?kB ?kF ?kX ?kT ?kk (pull2_8 lN) ?kD ?k1 ?k2 ?kd ?ku ?kG ?kP ?_; (case kB => k_asm); (case kF => k_asm); (case kX => k_asm); (case kT => k_asm); (case kk => exact rfl); (case kD => k_asm); (case k1 => k_asm); (case k2 => exact (by repeat (first | assumption | refine off_cons (by first | assumption | exact Ne.symm (by assumption) | (refine neN ?_; omega)) ?_))); (case kd => ktr_room); (case ku => exact Nat.le_of_ble_eq_true rfl); (case kG => exact (by repeat (first | exact List.mem_cons_self | refine List.mem_cons_of_mem _ ?_))); (case kP => exact fun p9 hp9 => PkIn.mono (P p9 (run_mem hp9)) (by intro q9 hq9; repeat (first | exact hq9 | refine List.mem_cons_of_mem _ ?_)))))
       intro h3 tk3 es3 n3 c3 ec F3 N3 D3
       subst ec
       repeat' (first | (k_unfold; (try dsimp only)) | ((fail_if_success (with_reducible show wpAny _ _ (exec (Stmt.For _ _ _ _ _) _) _ _ _)); (fail_if_success (with_reducible show wpAny _ _ (exec (Stmt.While _ _ _ _) _) _ _ _)); (fail_if_success (with_reducible show wpAny _ _ (pyIter _) _ _ _)); (fail_if_success (with_reducible show wpAny _ _ (call (Value.ref 91) _ _) _ _ _)); (fail_if_success (with_reducible show wpAny _ _ (call (Value.ref 98) _ _) _ _ _)); (fail_if_success (with_reducible show wpAny _ _ (call (Value.ref 105) _ _) _ _ _)); (fail_if_success (with_reducible show wpAny _ _ (call (Value.ref 112) _ _) _ _ _)); (fail_if_success (with_reducible show wpAny _ _ (call (Value.ref 119) _ _) _ _ _)); (fail_if_success (with_reducible show wpAny _ _ (call (Value.ref 126) _ _) _ _ _)); (fail_if_success (with_reducible show wpAny _ _ (call (Value.ref 195) _ _) _ _ _)); (fail_if_success (with_reducible show wpAny _ _ (call (Value.ref 202) _ _) _ _ _)); (fail_if_success (with_reducible show wpAny _ _ (call (Value.ref 177) _ _) _ _ _)); walk1) | (leave1; walk_say "STEP leave1"; try dsimp only) | fail "no step")
       (rename News _ _ _ _ => lN4); (rename WorldD _ _ _ _ _ => lD4); (rename Fr _ _ _ _ => lF4)
       refine' ret _ _ _ _ _ _ _ _ rfl rfl ?hgo lF4 (newsSub lN4 ?sub) ?off (Core.mk (ol := D9) (no := _) (R := R) rfl ⟨_, rfl⟩ rfl rfl rfl ⟨_, rfl⟩ ⟨_, rfl⟩ ⟨_, rfl⟩ rfl lD4 D3 M hts hxs hpo ?hP hnl ?nd ?hR)
       case sub => exact (by
       (repeat (refine sub_cons (by repeat (first | exact List.mem_cons_self | refine List.mem_cons_of_mem _ ?_)) ?_))
       intro q9 hq9
       repeat (first | exact hq9 | refine List.mem_cons_of_mem _ ?_))
       case off => exact (by repeat (first | assumption | refine off_cons (by first | assumption | exact Ne.symm (by assumption) | (refine neN ?_; omega)) ?_))
       case hP =>
         intro p9 hp9
         rcases List.mem_append.mp hp9 with hp9 | hp9
         · exact P p9 (List.mem_of_mem_take hp9)
         · exact P p9 (List.mem_of_mem_drop hp9)
       case nd => exact (by
       simp only [List.nodup_cons, List.mem_cons, List.not_mem_nil, or_false, not_or, not_false_eq_true, and_true, List.nodup_nil]
       repeat' apply And.intro
       all_goals first | assumption | exact Ne.symm (by assumption))
       case hR => exact (by
       intro p9 hp9
       simp only [List.mem_cons, List.not_mem_nil, or_false, not_or]
       exact ⟨r_pc p9 hp9, r_D9 p9 hp9, r_wd p9 hp9, r_tl p9 hp9, r_cx p9 hp9, r_cd p9 hp9, r_mx p9 hp9, r_md p9 hp9, r_sl p9 hp9⟩)
       case hgo => exact .inl ⟨rfl, rfl⟩)
    | (((rename News _ _ _ _ => lN); k_dflt (refine' c_lost (pks := (runOf out (pick.fmod ((refsOf out).length : Int)) (pick.fmod ((refsOf out).length : Int) + 1 + more.fmod 3))) ?kB ?kF ?kX ?kT ?kk (pull2_8 lN) ?kD ?k1 ?k2 ?kd ?ku ?kG ?kP ?_; (case kB => k_asm); (case kF => k_asm); (case kX => k_asm); (case kT => k_asm); (case kk => exact rfl); (case kD => k_asm); (case k1 => k_asm); (case k2 => exact (by repeat (first | assumption | refine off_cons (by first | assumption | exact Ne.symm (by assumption) | (refine neN ?_; omega)) ?_))); (case kd => ktr_room); (case ku => exact Nat.le_of_ble_eq_true rfl); (case kG => exact (by repeat (first | exact List.mem_cons_self | refine List.mem_cons_of_mem _ ?_))); (case kP => exact fun p9 hp9 => PkIn.mono (P p9 (run_mem hp9)) (by intro q9 hq9; repeat (first | exact hq9 | refine List.mem_cons_of_mem _ ?_)))))
       intro h3 tk3 es3 n3 c3 ec F3 N3 D3
       repeat' (first | (k_unfold; (try dsimp only)) | ((fail_if_success (with_reducible show wpAny _ _ (exec (Stmt.For _ _ _ _ _) _) _ _ _)); (fail_if_success (with_reducible show wpAny _ _ (exec (Stmt.While _ _ _ _) _) _ _ _)); (fail_if_success (with_reducible show wpAny _ _ (pyIter _) _ _ _)); (fail_if_success (with_reducible show wpAny _ _ (call (Value.ref 91) _ _) _ _ _)); (fail_if_success (with_reducible show wpAny _ _ (call (Value.ref 98) _ _) _ _ _)); (fail_if_success (with_reducible show wpAny _ _ (call (Value.ref 105) _ _) _ _ _)); (fail_if_success (with_reducible show wpAny _ _ (call (Value.ref 112) _ _) _ _ _)); (fail_if_success (with_reducible show wpAny _ _ (call (Value.ref 119) _ _) _ _ _)); (fail_if_success (with_reducible show wpAny _ _ (call (Value.ref 126) _ _) _ _ _)); (fail_if_success (with_reducible show wpAny _ _ (call (Value.ref 195) _ _) _ _ _)); (fail_if_success (with_reducible show wpAny _ _ (call (Value.ref 202) _ _) _ _ _)); (fail_if_success (with_reducible show wpAny _ _ (call (Value.ref 177) _ _) _ _ _)); walk1) | (leave1; walk_say "STEP leave1"; try dsimp only) | fail "no step")
       all_goals (
         (rename News _ _ _ _ => lN4); (rename WorldD _ _ _ _ _ => lD4); (rename Fr _ _ _ _ => lF4)
         refine' ret _ _ _ _ _ _ _ _ rfl rfl ?hgo lF4 (newsSub lN4 ?sub) ?off (Core.mk (ol := D9) (no := _) (R := R) rfl ⟨_, rfl⟩ rfl rfl rfl ⟨_, rfl⟩ ⟨_, rfl⟩ ⟨_, rfl⟩ rfl lD4 D3 M hts hxs hpo ?hP hnl ?nd ?hR)
         case sub => exact (by
         (repeat (refine sub_cons (by repeat (first | exact List.mem_cons_self | refine List.mem_cons_of_mem _ ?_)) ?_))
         intro q9 hq9
         repeat (first | exact hq9 | refine List.mem_cons_of_mem _ ?_))
         case off => exact (by repeat (first | assumption | refine off_cons (by first | assumption | exact Ne.symm (by assumption) | (refine neN ?_; omega)) ?_))
         case hP =>
           intro p9 hp9
           rcases List.mem_append.mp hp9 with hp9 | hp9
           · exact P p9 (List.mem_of_mem_take hp9)
           · exact P p9 (List.mem_of_mem_drop hp9)
         case nd => exact (by
         simp only [List.nodup_cons, List.mem_cons, List.not_mem_nil, or_false, not_or, not_false_eq_true, and_true, List.nodup_nil]
         repeat' apply And.intro
         all_goals first | assumption | exact Ne.symm (by assumption))
         case hR => exact (by
         intro p9 hp9
         simp only [List.mem_cons, List.not_mem_nil, or_false, not_or]
         exact ⟨r_pc p9 hp9, r_D9 p9 hp9, r_wd p9 hp9, r_tl p9 hp9, r_cx p9 hp9, r_cd p9 hp9, r_mx p9 hp9, r_md p9 hp9, r_sl p9 hp9⟩)
         case hgo =>
           refine .inr ⟨?_, ec⟩
           rw [hlt]
           unfold Wd.lost halved
           first | exact (if_pos (by omega)).symm | exact (if_neg (by omega)).symm)))
end Mine
end PB5

section PP1
namespace Mine
theorem fresh_P1 : True := by
  w_top off
  first | walk1 | exact True.intro
structure Ring (T ring : List Int) (idx : Int) (ready : Bool) : Prop where
  len : ring.length = 5
  i0 : 0 ≤ idx
  i5 : idx < 5
  ix : idx.toNat = T.length % 5
  rd : ready = decide (5 ≤ T.length)
  el : ∀ j, j < T.length → T.length ≤ j + 5 → ring[j % 5]? = T[j]?

theorem span_same {A B : List Int} (hA : 0 < A.length) (hB : 0 < B.length) (h : ∀ x, x ∈ A ↔ x ∈ B) : spanOf A = spanOf B := by
  obtain ⟨a1, a2, a3, a4⟩ := span_spec hA
  obtain ⟨b1, b2, b3, b4⟩ := span_spec hB
  refine Prod.ext ?_ ?_
  · exact Int.le_antisymm (a2 _ ((h _).2 b1)) (b2 _ ((h _).1 a1))
  · exact Int.le_antisymm (b4 _ ((h _).1 a3)) (a4 _ ((h _).2 b3))

theorem Ring.push {T ring : List Int} {idx : Int} {ready : Bool} (R : Ring T ring idx ready) (r : Int) :
    ∀ j, j < (T ++ [r]).length → (T ++ [r]).length ≤ j + 5 → (ring.set idx.toNat r)[j % 5]? = (T ++ [r])[j]? := by
  intro j h1 h2
  simp only [List.length_append, List.length_cons, List.length_nil] at h1 h2
  by_cases e : j = T.length
  · subst e
    rw [R.ix, List.getElem?_append_right (Nat.le_refl _), Nat.sub_self]
    have := R.len
    rw [List.getElem?_set_self (by omega)]
    rfl
  · have hj : j < T.length := by omega
    rw [List.getElem?_append_left hj, List.getElem?_set_ne (by rw [R.ix]; omega)]
    exact R.el j hj (by omega)

theorem Ring.last {T ring : List Int} {idx : Int} {ready : Bool} (R : Ring T ring idx ready) (r : Int) (h : 5 ≤ T.length + 1) :
    spanOf (ring.set idx.toNat r) = spanOf (List.drop (((T.length + 1 : Nat) : Int) - 5).toNat (T ++ [r])) := by
  have hl := R.len
  have hp := R.push r
  simp only [List.length_append, List.length_cons, List.length_nil] at hp
  refine span_same (by rw [List.length_set]; omega) (by rw [List.length_drop, List.length_append]; simp only [List.length_cons, List.length_nil]; omega) fun x => ?_
  have e5 : (((T.length + 1 : Nat) : Int) - 5).toNat = T.length + 1 - 5 := by omega
  rw [e5]
  constructor
  · intro hx
    obtain ⟨k, hk, hx⟩ := List.mem_iff_getElem.mp hx
    rw [List.length_set] at hk
    -- the index j among the last five with j % 5 = k
    obtain ⟨j, hj1, hj2, hj3⟩ : ∃ j, j < T.length + 1 ∧ T.length + 1 ≤ j + 5 ∧ j % 5 = k := by
      have : (T.length + 1 - 5 + (k + 5 - (T.length + 1 - 5) % 5) % 5) % 5 = k := by omega
      exact ⟨T.length + 1 - 5 + (k + 5 - (T.length + 1 - 5) % 5) % 5, by omega, by omega, this⟩
    have e := hp j hj1 hj2
    rw [hj3, List.getElem?_eq_getElem (by rw [List.length_set]; omega), hx] at e
    refine List.mem_iff_getElem?.mpr ⟨j - (T.length + 1 - 5), ?_⟩
    rw [List.getElem?_drop, show T.length + 1 - 5 + (j - (T.length + 1 - 5)) = j by omega]
    exact e.symm
  · intro hx
    obtain ⟨k, hk⟩ := List.mem_iff_getElem?.mp hx
    rw [List.getElem?_drop] at hk
    have hlt : T.length + 1 - 5 + k < T.length + 1 := by
      have := (List.getElem?_eq_some_iff.mp hk).1
      simpa using this
    have e := hp (T.length + 1 - 5 + k) hlt (by omega)
    rw [hk] at e
    exact List.mem_iff_getElem?.mpr ⟨_, e⟩

theorem Ring.next {T ring : List Int} {idx : Int} {ready : Bool} (R : Ring T ring idx ready) (r : Int) :
    Ring (T ++ [r]) (ring.set idx.toNat r) (if idx + 1 ≥ 5 then 0 else idx + 1) (decide (5 ≤ T.length + 1)) := by
  have hi := R.ix
  have h0 := R.i0
  have h5 := R.i5
  constructor
  · rw [List.length_set]; exact R.len
  · split <;> omega
  · split <;> omega
  · rw [List.length_append]
    simp only [List.length_cons, List.length_nil]
    split <;> omega
  · rw [List.length_append]; rfl
  · exact R.push r

theorem Mon.add_ring {q : Mon} {T ring : List Int} (R : Ring T ring q.idx q.ready) (r : Int) :
    (q.add ring r).idx = (if q.idx + 1 ≥ 5 then 0 else q.idx + 1) ∧ (q.add ring r).ready = decide (5 ≤ T.length + 1) ∧ (q.add ring r).inc = q.inc ∧ (q.add ring r).sl = q.sl := by
  have hi := R.ix
  have h0 := R.i0
  have h5 := R.i5
  have hr := R.rd
  unfold Mon.add
  dsimp only
  by_cases h1 : q.idx + 1 ≥ 5
  · rw [if_pos h1, if_pos h1]
    exact ⟨rfl, by rw [eq_comm, decide_eq_true_eq]; omega, rfl, rfl⟩
  · rw [if_neg h1, if_neg h1]
    cases h2 : q.ready with
    | true =>
      rw [h2, eq_comm, decide_eq_true_eq] at hr
      rw [if_pos rfl]
      exact ⟨rfl, by dsimp only; rw [eq_comm, decide_eq_true_eq]; omega, rfl, rfl⟩
    | false =>
      rw [h2, eq_comm, decide_eq_false_iff_not] at hr
      rw [if_neg (by decide)]
      exact ⟨rfl, by dsimp only; rw [eq_comm, decide_eq_false_iff_not]; omega, rfl, rfl⟩

/-- the monitor and the law's reckoning answer alike -/
theorem rise_grow {q : Mon} {v : Wd} {T ring : List Int} (R : Ring T ring q.idx q.ready) (h1 : q.inc = v.times) (h2 : q.fmin = v.floor) (now r : Int) :
    (q.rise ring now r).2 = (v.grow T now r).2 ∧ (q.rise ring now r).1.inc = (v.grow T now r).1.times ∧ (q.rise ring now r).1.fmin = (v.grow T now r).1.floor ∧
    (q.rise ring now r).1.stime = now ∧ (v.grow T now r).1.meas = now ∧ (q.rise ring now r).1.sl = q.sl ∧
    (q.rise ring now r).1.idx = (if q.idx + 1 ≥ 5 then 0 else q.idx + 1) ∧ (q.rise ring now r).1.ready = decide (5 ≤ T.length + 1) ∧
    (v.grow T now r).1.win = v.win ∧ (v.grow T now r).1.thr = v.thr ∧ (v.grow T now r).1.rcv = v.rcv ∧ (v.grow T now r).1.rest = v.rest ∧ (v.grow T now r).1.tl = v.tl := by
  obtain ⟨a1, a2, a3, a4⟩ := Mon.add_ring R r
  have a5 : (q.add ring r).fmin = q.fmin := by
    unfold Mon.add
    dsimp only
    split
    · rfl
    · split <;> rfl
  unfold Mon.rise Wd.grow
  dsimp only
  by_cases h5 : 5 ≤ T.length + 1
  · have hr : (q.add ring r).ready = true := by rw [a2]; simpa using h5
    rw [if_pos hr, if_neg (show ¬ (((T.length + 1 : Nat) : Int) < 5) by omega), R.last r h5, h2]
    generalize spanOf (List.drop (((T.length + 1 : Nat) : Int) - 5).toNat (T ++ [r])) = sp
    have ef : (v.floor.elim sp.2 fun f => if f > sp.2 then sp.2 else f) = (v.floor.elim sp.2 fun f => if sp.2 < f then sp.2 else f) := rfl
    rw [ef]
    generalize (v.floor.elim sp.2 fun f => if sp.2 < f then sp.2 else f) = f
    by_cases c1 : (sp.1 - f) * 4 ≥ f
    · rw [if_pos c1, if_pos (show 4 * (sp.1 - f) ≥ f by omega)]
      refine ⟨?_, ?_, rfl, rfl, rfl, a4, a1, a2, rfl, rfl, rfl, rfl, rfl⟩
      · simp only [h1]
      · simp only [h1]
    · rw [if_neg c1, if_neg (show ¬ 4 * (sp.1 - f) ≥ f by omega)]
      by_cases c2 : sp.1 - f > 0
      · rw [if_pos c2, if_pos c2]
        exact ⟨rfl, rfl, rfl, rfl, rfl, a4, a1, a2, rfl, rfl, rfl, rfl, rfl⟩
      · rw [if_neg c2, if_neg c2]
        exact ⟨rfl, a3.trans h1, rfl, rfl, rfl, a4, a1, a2, rfl, rfl, rfl, rfl, rfl⟩
  · have hr : ¬ (q.add ring r).ready = true := by rw [a2]; simpa using h5
    rw [if_neg hr, if_pos (show (((T.length + 1 : Nat) : Int) < 5) by omega)]
    exact ⟨rfl, a3.trans h1, a5.trans h2, rfl, rfl, a4, a1, a2, rfl, rfl, rfl, rfl, rfl⟩

structure Pure (unit : Int) (mx sl tl : Addr) (i : Nat) (σ : Sg) : Prop where
  hc : σ.c = ⟨unit, σ.v.rcv, σ.v.rest, mx, σ.v.win, lensOf σ.out, σ.v.thr⟩
  q1 : σ.q.inc = σ.v.times
  q2 : σ.q.fmin = σ.v.floor
  q3 : σ.q.stime = σ.v.meas
  q4 : σ.q.sl = sl
  htl : σ.v.tl = tl
  hmeas : σ.v.meas ≤ σ.now
  ring : Ring σ.T σ.ring σ.q.idx σ.q.ready
  hT : σ.T.length ≤ i
  u1 : 1 ≤ unit
  u2 : unit ≤ 1280
  hw : 2 * unit ≤ σ.v.win
  hr : 0 ≤ σ.v.rest
  hb : σ.v.win + σ.v.rest ≤ 12800 + 15360 * (i : Int)
  hlen : ∀ p ∈ σ.out, 1 ≤ p.len ∧ p.len ≤ 15360
  hout : σ.out.length ≤ i
  hnum : (σ.out.map (·.num)).Nodup
  hlt : ∀ p ∈ σ.out, p.num < σ.number

theorem Ctl.acked_wd {unit : Int} {mx : Addr} {v : Wd} {fly time len : Int} (hw : 0 < v.win) :
    Ctl.acked ⟨unit, v.rcv, v.rest, mx, v.win, fly, v.thr⟩ time len = ⟨unit, (v.acked time len unit).rcv, (v.acked time len unit).rest, mx, (v.acked time len unit).win, fly - len, (v.acked time len unit).thr⟩ := by
  unfold Ctl.acked Wd.acked
  dsimp only
  by_cases h1 : time ≤ v.rcv
  · simp only [if_pos h1, if_neg (show ¬ time > v.rcv by omega)]
  · simp only [if_neg h1, if_pos (show time > v.rcv by omega)]
    by_cases h2 : v.thr.all (fun x => decide (v.win < x)) = true
    · simp only [if_pos h2]
    · simp only [if_neg h2]
      by_cases h3 : (v.rest + len).fdiv v.win = 0
      · simp only [if_pos h3, h3]
        simp
      · simp only [if_neg h3]

theorem acked_keeps {v : Wd} {time len unit : Int} (hu : 1 ≤ unit) (hw : 2 * unit ≤ v.win) (hr : 0 ≤ v.rest) (hl : 0 ≤ len) :
    2 * unit ≤ (v.acked time len unit).win ∧ 0 ≤ (v.acked time len unit).rest ∧ (v.acked time len unit).win + (v.acked time len unit).rest ≤ v.win + v.rest + len ∧
    (v.acked time len unit).times = v.times ∧ (v.acked time len unit).floor = v.floor ∧ (v.acked time len unit).meas = v.meas ∧ (v.acked time len unit).tl = v.tl := by
  unfold Wd.acked
  split
  · split
    · dsimp only
      refine ⟨by omega, by omega, by omega, rfl, rfl, rfl, rfl⟩
    · dsimp only
      have hW : 0 < v.win := by omega
      have e1 : (v.rest + len).fdiv v.win = (v.rest + len) / v.win := Int.fdiv_eq_ediv_of_nonneg _ (by omega)
      rw [e1]
      have e2 := Int.emod_add_mul_ediv (v.rest + len) v.win
      have e3 := Int.emod_nonneg (v.rest + len) (show v.win ≠ 0 by omega)
      have e4 : 0 ≤ (v.rest + len) / v.win := Int.ediv_nonneg (by omega) (by omega)
      generalize hk : (v.rest + len) / v.win = k at *
      have e5 : k * unit ≤ k * v.win := Int.mul_le_mul_of_nonneg_left (by omega) e4
      have e6 : 0 ≤ k * unit := Int.mul_nonneg e4 (by omega)
      have e7 : v.win * k = k * v.win := Int.mul_comm _ _
      refine ⟨by omega, by omega, by omega, rfl, rfl, rfl, rfl⟩
  · exact ⟨hw, hr, by omega, rfl, rfl, rfl, rfl⟩
end Mine
end PP1

section PP2
namespace Mine
theorem fresh_P2 : True := by
  w_top off
  first | walk1 | exact True.intro
theorem lensOf_nil : lensOf [] = 0 := rfl
theorem lensOf_cons (p : Pk) (ps : List Pk) : lensOf (p :: ps) = p.len + lensOf ps := by simp [lensOf]
theorem lensOf_append (a b : List Pk) : lensOf (a ++ b) = lensOf a + lensOf b := by
  induction a with
  | nil => rw [List.nil_append, lensOf_nil, Int.zero_add]
  | cons p a ih => rw [List.cons_append, lensOf_cons, lensOf_cons, ih, Int.add_assoc]
theorem filter_all {out : List Pk} {n : Int} (h : ∀ p ∈ out, p.num ≠ n) : out.filter (fun o => decide (o.num ≠ n)) = out :=
  List.filter_eq_self.2 fun p hp => decide_eq_true (h p hp)
theorem lens_filter {out : List Pk} {pk : Pk} (hn : (out.map (·.num)).Nodup) (h : pk ∈ out) :
    lensOf (out.filter (fun o => decide (o.num ≠ pk.num))) = lensOf out - pk.len := by
  induction out with
  | nil => cases h
  | cons p out ih =>
    rw [List.map_cons, List.nodup_cons] at hn
    rcases List.mem_cons.mp h with rfl | h
    · rw [List.filter_cons_of_neg (by simp), filter_all (fun q hq e => hn.1 (List.mem_map.2 ⟨q, hq, e⟩)), lensOf_cons]
      omega
    · have hne : p.num ≠ pk.num := fun e => hn.1 (List.mem_map.2 ⟨pk, h, e.symm⟩)
      rw [List.filter_cons_of_pos (by simpa using hne), lensOf_cons, lensOf_cons, ih hn.2 h]
      omega
theorem run_split (out : List Pk) (x y : Nat) : out.take x ++ ((out.drop x).take y ++ out.drop (x + y)) = out := by
  rw [← List.drop_drop, List.take_append_drop, List.take_append_drop]

section
variable {unit : Int} {mx sl tl : Addr} {i : Nat} {now trip number : Int} {v : Wd} {c : Ctl} {q : Mon} {T ring : List Int} {out : List Pk}
theorem Pure.idle (H : Pure unit mx sl tl i ⟨now, trip, number, v, c, q, T, ring, out⟩) : Pure unit mx sl tl (i + 1) ⟨now, trip, number, v, c, q, T, ring, out⟩ := by
  obtain ⟨hc, q1, q2, q3, q4, htl, hmeas, hring, hT, u1, u2, hw, hr, hb, hlen, hout, hnum, hlt⟩ := H
  dsimp only at *
  exact ⟨hc, q1, q2, q3, q4, htl, hmeas, hring, by dsimp only; omega, u1, u2, hw, hr, by dsimp only; omega, hlen, by dsimp only; omega, hnum, hlt⟩
theorem Pure.tick (H : Pure unit mx sl tl i ⟨now, trip, number, v, c, q, T, ring, out⟩) {d : Int} (hd : 0 ≤ d) : Pure unit mx sl tl i ⟨now + d, trip, number, v, c, q, T, ring, out⟩ := by
  obtain ⟨hc, q1, q2, q3, q4, htl, hmeas, hring, hT, u1, u2, hw, hr, hb, hlen, hout, hnum, hlt⟩ := H
  dsimp only at *
  exact ⟨hc, q1, q2, q3, q4, htl, by dsimp only; omega, hring, hT, u1, u2, hw, hr, hb, hlen, hout, hnum, hlt⟩
theorem Pure.sent (H : Pure unit mx sl tl i ⟨now, trip, number, v, c, q, T, ring, out⟩) {pk : Pk} (h1 : 1 ≤ pk.len) (h2 : pk.len ≤ 15360) (h3 : pk.num = number) :
    Pure unit mx sl tl (i + 1) ⟨now, trip, number + 1, v, { c with fly := c.fly + pk.len }, q, T, ring, out ++ [pk]⟩ := by
  obtain ⟨hc, q1, q2, q3, q4, htl, hmeas, hring, hT, u1, u2, hw, hr, hb, hlen, hout, hnum, hlt⟩ := H
  dsimp only at *
  subst hc
  refine ⟨?_, q1, q2, q3, q4, htl, hmeas, hring, by dsimp only; omega, u1, u2, hw, hr, by dsimp only; omega, ?_, ?_, ?_, ?_⟩
  · dsimp only
    rw [lensOf_snoc]
  · intro p hp
    rcases List.mem_append.mp hp with hp | hp
    · exact hlen p hp
    · rw [List.mem_singleton] at hp
      subst hp
      exact ⟨h1, h2⟩
  · dsimp only
    rw [List.length_append]
    simp only [List.length_cons, List.length_nil]
    omega
  · dsimp only
    rw [List.map_append, List.nodup_append]
    refine ⟨hnum, by simp, ?_⟩
    intro a ha b hb e
    obtain ⟨p, hp, rfl⟩ := List.mem_map.mp ha
    simp only [List.map_cons, List.map_nil, List.mem_singleton] at hb
    have := hlt p hp
    omega
  · intro p hp
    dsimp only
    rcases List.mem_append.mp hp with hp | hp
    · have := hlt p hp
      omega
    · rw [List.mem_singleton] at hp
      subst hp
      omega
theorem Pure.acked (H : Pure unit mx sl tl i ⟨now, trip, number, v, c, q, T, ring, out⟩) {pk : Pk} (hp : pk ∈ out) :
    Pure unit mx sl tl (i + 1) ⟨now, trip, number, v.acked pk.time pk.len unit, c.acked pk.time pk.len, q, T, ring, out.filter (fun o => decide (o.num ≠ pk.num))⟩ := by
  obtain ⟨hc, q1, q2, q3, q4, htl, hmeas, hring, hT, u1, u2, hw, hr, hb, hlen, hout, hnum, hlt⟩ := H
  dsimp only at *
  subst hc
  have hl := hlen pk hp
  obtain ⟨a1, a2, a3, a4, a5, a6, a7⟩ := acked_keeps (time := pk.time) u1 hw hr (show 0 ≤ pk.len by omega)
  have hs : (out.filter (fun o => decide (o.num ≠ pk.num))).Sublist out := List.filter_sublist
  refine ⟨?_, ?_, ?_, ?_, q4, ?_, ?_, hring, by dsimp only; omega, u1, u2, a1, a2, ?_, fun p hp => hlen p (hs.subset hp), ?_, ?_, fun p hp => hlt p (hs.subset hp)⟩
  · rw [Ctl.acked_wd (by omega)]
    dsimp only
    rw [lens_filter hnum hp]
  · dsimp only; rw [a4]; exact q1
  · dsimp only; rw [a5]; exact q2
  · dsimp only; rw [a6]; exact q3
  · dsimp only; rw [a7]; exact htl
  · dsimp only; rw [a6]; exact hmeas
  · dsimp only; omega
  · exact Nat.le_succ_of_le (Nat.le_trans hs.length_le hout)
  · exact (hs.map _).nodup hnum
theorem halved_lo (win unit : Int) : 2 * unit ≤ halved win unit := by
  unfold halved
  split <;> omega
theorem halved_hi {win unit : Int} (h : 2 * unit ≤ win) (h0 : 0 ≤ win) : halved win unit ≤ win := by
  unfold halved
  have : win.fdiv 2 ≤ win := by
    rw [Int.fdiv_eq_ediv_of_nonneg _ (by omega)]
    omega
  split <;> omega
theorem Pure.lost (H : Pure unit mx sl tl i ⟨now, trip, number, v, c, q, T, ring, out⟩) {x y : Int} {gone out' : List Pk} {v' : Wd} {c' : Ctl}
    (hg : gone = runOf out x y) (ho : out' = out.take x.toNat ++ out.drop (x + ((refsOf (runOf out x y)).length : Int)).toNat) (h0 : 0 ≤ x)
    (h : (v' = v ∧ c' = { c with fly := c.fly - lensOf gone }) ∨ (v' = v.lost now (lastTime gone) unit ∧ c' = c.lost now gone)) :
    Pure unit mx sl tl (i + 1) ⟨now, trip, number, v', c', q, T, ring, out'⟩ := by
  obtain ⟨hc, q1, q2, q3, q4, htl, hmeas, hring, hT, u1, u2, hw, hr, hb, hlen, hout, hnum, hlt⟩ := H
  dsimp only at *
  subst hc
  have hsp : out.take x.toNat ++ (gone ++ out.drop (x + ((refsOf (runOf out x y)).length : Int)).toNat) = out := by
    have e : (x + ((refsOf (runOf out x y)).length : Int)).toNat = x.toNat + (min (min y.toNat out.length - x.toNat) (out.length - x.toNat)) := by
      rw [refs_len', run_len]
      omega
    rw [e, hg]
    have e2 : min (min y.toNat out.length - x.toNat) (out.length - x.toNat) = min y.toNat out.length - x.toNat := by omega
    rw [e2]
    exact run_split out _ _
  have hs : out'.Sublist out := by
    rw [ho]
    conv => rhs; rw [← hsp]
    exact List.Sublist.append (List.Sublist.refl _) (List.sublist_append_right _ _)
  have hf : lensOf out - lensOf gone = lensOf out' := by
    have e := congrArg lensOf hsp
    rw [lensOf_append, lensOf_append] at e
    rw [ho, lensOf_append]
    omega
  have b1 := fun p hp => hlen p (hs.subset hp)
  have b2 := Nat.le_succ_of_le (Nat.le_trans hs.length_le hout)
  have b3 := (hs.map (·.num)).nodup hnum
  have b4 := fun p hp => hlt p (hs.subset hp)
  rcases h with ⟨rfl, rfl⟩ | ⟨rfl, rfl⟩
  · refine ⟨?_, q1, q2, q3, q4, htl, hmeas, hring, by dsimp only; omega, u1, u2, hw, hr, by dsimp only; omega, b1, b2, b3, b4⟩
    dsimp only
    rw [hf]
  · unfold Wd.lost Ctl.lost
    dsimp only
    by_cases g : lastTime gone > v.rcv
    · rw [if_pos g, if_pos g]
      have c1 := halved_lo v.win unit
      have c2 := halved_hi hw (by omega)
      refine ⟨?_, q1, q2, q3, q4, htl, hmeas, hring, by dsimp only; omega, u1, u2, c1, hr, by dsimp only; omega, b1, b2, b3, b4⟩
      dsimp only
      rw [hf]
    · rw [if_neg g, if_neg g]
      refine ⟨?_, q1, q2, q3, q4, htl, hmeas, hring, by dsimp only; omega, u1, u2, hw, hr, by dsimp only; omega, b1, b2, b3, b4⟩
      dsimp only
      rw [hf]
theorem Pure.persist (H : Pure unit mx sl tl i ⟨now, trip, number, v, c, q, T, ring, out⟩) :
    Pure unit mx sl tl (i + 1) ⟨now, trip, number, { v with win := 2 * unit, rcv := 0 }, { c with win := 2 * c.unit, rcv := 0 }, q, T, ring, out⟩ := by
  obtain ⟨hc, q1, q2, q3, q4, htl, hmeas, hring, hT, u1, u2, hw, hr, hb, hlen, hout, hnum, hlt⟩ := H
  dsimp only at *
  subst hc
  exact ⟨rfl, q1, q2, q3, q4, htl, hmeas, hring, by dsimp only; omega, u1, u2, by dsimp only; omega, hr, by dsimp only; omega, hlen, by dsimp only; omega, hnum, hlt⟩
theorem Pure.rtt (H : Pure unit mx sl tl i ⟨now, trip, number, v, c, q, T, ring, out⟩) {trip' : Int} {v' : Wd} {c' : Ctl} {q' : Mon} {T' ring' : List Int}
    (h : (c', q', ring') = rttMeas c q ring (now + 1001) trip')
    (h2 : (v.thr = none ∧ ∃ v1 b, (v1, b) = v.grow T (now + 1001) trip' ∧ v' = (if b = true then { v1 with thr := some v1.win } else v1) ∧ T' = T ++ [trip']) ∨ (v.thr ≠ none ∧ v' = v ∧ T' = T)) :
    Pure unit mx sl tl (i + 1) ⟨now + 1001, trip', number, v', c', q', T', ring', out⟩ := by
  obtain ⟨hc, q1, q2, q3, q4, htl, hmeas, hring, hT, u1, u2, hw, hr, hb, hlen, hout, hnum, hlt⟩ := H
  dsimp only at *
  subst hc
  unfold rttMeas at h
  dsimp only at h
  rcases h2 with ⟨hn, v1, b, hg, hv, hT'⟩ | ⟨hn, hv, hT'⟩
  · rw [if_pos hn] at h
    obtain ⟨r1, r2, r3, r4, r5, r6, r7, r8, r9, r10, r11, r12, r13⟩ := rise_grow hring q1 q2 (now + 1001) trip'
    rw [← hg] at r1 r2 r3 r5 r9 r10 r11 r12 r13
    dsimp only at r1 r2 r3 r5 r9 r10 r11 r12 r13
    have hR := hring.next trip'
    simp only [Prod.mk.injEq] at h
    obtain ⟨hc, hq, hrg⟩ := h
    subst hT'
    have hR' : Ring (T ++ [trip']) ring' q'.idx q'.ready := by
      rw [hq, hrg, r7, r8]
      exact hR
    rw [r1] at hc
    have hl1 : (T ++ [trip']).length ≤ i + 1 := by
      rw [List.length_append]
      simp only [List.length_cons, List.length_nil]
      omega
    have hq1 : q'.inc = v1.times := by rw [hq]; exact r2
    have hq2 : q'.fmin = v1.floor := by rw [hq]; exact r3
    have hq3 : q'.stime = v1.meas := by rw [hq, r4, r5]
    have hq4 : q'.sl = sl := by rw [hq, r6]; exact q4
    cases b with
    | true =>
      rw [if_pos rfl] at hv hc
      subst hv
      refine ⟨?_, hq1, hq2, hq3, hq4, r13.trans htl, by dsimp only; omega, hR', hl1, u1, u2, by dsimp only; omega, by dsimp only; omega, by dsimp only; omega, hlen, by dsimp only; omega, hnum, hlt⟩
      dsimp only
      rw [hc, r9, r11, r12]
    | false =>
      rw [if_neg (by decide)] at hv hc
      subst hv
      refine ⟨?_, hq1, hq2, hq3, hq4, r13.trans htl, by dsimp only; omega, hR', hl1, u1, u2, by dsimp only; omega, by dsimp only; omega, by dsimp only; omega, hlen, by dsimp only; omega, hnum, hlt⟩
      dsimp only
      rw [hc, r9, r10, r11, r12]
  · rw [if_neg hn] at h
    simp only [Prod.mk.injEq] at h
    obtain ⟨hc, hq, hrg⟩ := h
    subst hv hT' hc hq hrg
    exact ⟨rfl, q1, q2, q3, q4, htl, by dsimp only; omega, hring, by dsimp only; omega, u1, u2, hw, hr, by dsimp only; omega, hlen, by dsimp only; omega, hnum, hlt⟩
end
end Mine
end PP2

section PT4
namespace Mine
theorem fresh_T4 : True := by
  w_top off
  first | walk1 | exact True.intro
theorem fillT4 (w : World) : Mine.hd.heap_1 w.params = Mine.hd.heap_1 w.params ∧ PySem.Challenge.rw_ix0003_01.row.prog = PySem.Challenge.rw_ix0003_01.row.prog := by
  k_fill
  exact ⟨rfl, rfl⟩

def NamesAre (m : Str → Option Value) : List (Str × Value) → Prop
  | [] => True
  | p :: r => m p.1 = some p.2 ∧ NamesAre m r
theorem NamesAre.all {m : Str → Option Value} : ∀ {ps : List (Str × Value)}, NamesAre m ps → ∀ p ∈ ps, m p.1 = some p.2
  | [], _, _, hp => nomatch hp
  | _ :: _, h, p, hp => by
    rcases List.mem_cons.mp hp with rfl | hp
    · exact h.1
    · exact h.2.all p hp
theorem pin2 {h₀ : Heap} {L : Addr} {h : Heap} {m : Str → Option Value} {ps : List (Str × Value)} (F : Fr h₀ L h m) (H : NamesAre m ps) : Fr h₀ L h (kstB m ps) := pin_fr ps H.all F
theorem t_iitem {prog : Program} {w : World} {A : Around} {E : Value → Shared → Prop} {s : Shared} {h₀ : Heap} {L l : Addr} {news : List (Addr × Obj)} {k : Nat} {vs : List Value} {ks : List Int} {value slice : PySem.Expr} {i : Int} {u : Tok} {Q : Value → Shared → Prop} (N : News h₀ L s.heap news) (hl : (l, listOf vs.toArray k) ∈ news) (hv : IntsAre vs ks) (h0 : 0 ≤ i) (h1 : i < (vs.length : Int)) (hz : vs.length ≤ 1000)
    (h : ∀ x t, Q (.int x t) s)
    (hs : subscripted slice false (.ref l) (.int i u) = operate [.ref l, .int i u] (getItem (.ref l) (.int i u)) := by with_unfolding_all rfl) :
    wpAny (model prog w) A (subscriptTail value slice (.ref l) (.int i u)) Q E s := by
  refine t_item N hl h0 h1 hz (fun v hv' => ?_) hs
  obtain ⟨x, t, _, rfl⟩ := ints_at hv hv'
  exact h x t
theorem steps_nonneg (n : Nat) : (0 : Int) ≤ [0, 1, 500, 999, 1000, 1001, 4000, 60000].getD n 0 := by
  rcases n with _ | _ | _ | _ | _ | _ | _ | _ | n <;> simp
def oneOf : Option Stmt → Stmt
  | some s => s
  | none => .Pass default
def st0 : Stmt := oneOf (nth turnStmts 0)
def st1 : Stmt := oneOf (nth turnStmts 1)
def st2 : Stmt := oneOf (nth turnStmts 2)
def st3 : Stmt := oneOf (nth turnStmts 3)
def st4 : Stmt := oneOf (nth turnStmts 4)
def st5 : Stmt := oneOf (nth turnStmts 5)
theorem turn_eq : turnStmts = [st0, st1, st2, st3, st4, st5] := by rfl
local macro_rules | `(tactic| walk_at "subscriptTail") => `(tactic| (k_here; with_reducible (show wpAny _ _ (subscriptTail _ _ (Value.ref _) (Value.int _ _)) _ _ _); (refine t_iitem ‹_› ‹_› ‹_› (by first | assumption | omega) (by first | assumption | omega) ‹_› ?_); intro x9 t9))
local macro_rules | `(tactic| walk_at "call builtin:len") => `(tactic| (k_here; with_reducible (show wpAny _ _ (call (Value.builtin "len") [Value.ref _]) _ _ _); (refine t_len ‹_› ‹_› (by first | assumption | omega) ?_)))

set_option maxHeartbeats 8000000 in
theorem tn_kind {w : World} {p : Program} {loose : List Str} {mean : ExcName → Option Value} {mg mb : Str → Option Value} {a : Addr} {ccd : Value} {base h₀ : Heap} {L : Addr} {s : Shared} {Q : Flow → Shared → Prop} {E : Value → Shared → Prop}
    {unit now trip number at_ : Int} {tu tn tt tm ta : Tok} {pc ol wd cx nl : Addr} {nvs : List Value} {nk : Nat} {ks : List Int} {news : List (Addr × Obj)} {u : Str → Option Value}
    (B : Below callerA base [] h₀) (X : (Mine.hd.heap_1 w.params).In h₀) (T : Top p loose mean mg mb h₀) (F : Fr h₀ L s.heap (fun y => if y = "at" then some (.int at_ ta) else kstB u [("unit", .int unit tu), ("control", .ref cx), ("world", .ref wd), ("out", .ref ol), ("now", .int now tn), ("trip", .int trip tt), ("number", .int number tm), ("numbers", .ref nl)] y)) (N : News h₀ L s.heap news) (hl : (nl, listOf nvs.toArray nk) ∈ news) (hv : IntsAre nvs ks) (h0 : 0 ≤ at_) (h1 : at_ < (nvs.length : Int)) (hz : nvs.length ≤ 1000)
    (ret : ∀ h' tk m' kind more t1 t2, Fr h₀ L h' (kstB m' [("unit", .int unit tu), ("control", .ref cx), ("world", .ref wd), ("out", .ref ol), ("now", .int now tn), ("trip", .int trip tt), ("number", .int number tm), ("numbers", .ref nl), ("at", .int at_ ta), ("kind", .int kind t1), ("more", .int more t2)]) → News h₀ L h' news → Q .next { s with heap := h', toks := tk }) :
    wpAny (model PySem.Challenge.rw_ix0003_01.row.prog w) (callerA.deeper (envX "law" lawScope L a ccd [("packet", pc)])) (exec st0 (envX "law" lawScope L a ccd [("packet", pc)])) Q E s := by
  dsimp only [lawScope, brSent, brAcked, brLost, brPersist, brRtt, else1, else2, else3, else4, turnStmts, lawStmts, PySem.Challenge.pw_ix0003_01, nth, fnBody, fnScope, forBody, ifBody, ifElse, st0, st1, st2, st3, st4, st5, oneOf]
  repeat' (first | (k_unfold; (try dsimp only)) | ((fail_if_success (with_reducible show wpAny _ _ (exec (Stmt.For _ _ _ _ _) _) _ _ _)); (fail_if_success (with_reducible show wpAny _ _ (exec (Stmt.While _ _ _ _) _) _ _ _)); (fail_if_success (with_reducible show wpAny _ _ (pyIter _) _ _ _)); (fail_if_success (with_reducible show wpAny _ _ (call (Value.ref 91) _ _) _ _ _)); (fail_if_success (with_reducible show wpAny _ _ (call (Value.ref 98) _ _) _ _ _)); (fail_if_success (with_reducible show wpAny _ _ (call (Value.ref 105) _ _) _ _ _)); (fail_if_success (with_reducible show wpAny _ _ (call (Value.ref 112) _ _) _ _ _)); (fail_if_success (with_reducible show wpAny _ _ (call (Value.ref 119) _ _) _ _ _)); (fail_if_success (with_reducible show wpAny _ _ (call (Value.ref 126) _ _) _ _ _)); (fail_if_success (with_reducible show wpAny _ _ (call (Value.ref 195) _ _) _ _ _)); (fail_if_success (with_reducible show wpAny _ _ (call (Value.ref 202) _ _) _ _ _)); (fail_if_success (with_reducible show wpAny _ _ (call (Value.ref 177) _ _) _ _ _)); walk1) | (leave1; walk_say "STEP leave1"; try dsimp only) | fail "no step")
  (rename Fr _ _ _ _ => lF)
  (rename News _ _ _ _ => lN)
  exact ret _ _ _ _ _ _ _ (pin2 lF ⟨rfl, rfl, rfl, rfl, rfl, rfl, rfl, rfl, rfl, rfl, rfl, trivial⟩) (newsSub lN (by
      (repeat (refine sub_cons (by repeat (first | exact List.mem_cons_self | refine List.mem_cons_of_mem _ ?_)) ?_))
      intro q9 hq9
      repeat (first | exact hq9 | refine List.mem_cons_of_mem _ ?_)))
set_option maxHeartbeats 8000000 in
theorem tn_where {w : World} {p : Program} {loose : List Str} {mean : ExcName → Option Value} {mg mb : Str → Option Value} {a : Addr} {ccd : Value} {base h₀ : Heap} {L : Addr} {s : Shared} {Q : Flow → Shared → Prop} {E : Value → Shared → Prop}
    {unit now trip number at_ : Int} {tu tn tt tm ta : Tok} {pc ol wd cx nl : Addr} {nvs : List Value} {nk : Nat} {ks : List Int} {news : List (Addr × Obj)} {u : Str → Option Value} {kind more : Int} {t1 t2 : Tok}
    (B : Below callerA base [] h₀) (X : (Mine.hd.heap_1 w.params).In h₀) (T : Top p loose mean mg mb h₀) (F : Fr h₀ L s.heap (kstB u [("unit", .int unit tu), ("control", .ref cx), ("world", .ref wd), ("out", .ref ol), ("now", .int now tn), ("trip", .int trip tt), ("number", .int number tm), ("numbers", .ref nl), ("at", .int at_ ta), ("kind", .int kind t1), ("more", .int more t2)])) (N : News h₀ L s.heap news) (hl : (nl, listOf nvs.toArray nk) ∈ news) (hv : IntsAre nvs ks) (h0 : 0 ≤ at_) (h1 : at_ < (nvs.length : Int)) (hz : nvs.length ≤ 1000)
    (ret : ∀ h' tk m' y t3, Fr h₀ L h' (kstB m' [("unit", .int unit tu), ("control", .ref cx), ("world", .ref wd), ("out", .ref ol), ("now", .int now tn), ("trip", .int trip tt), ("number", .int number tm), ("numbers", .ref nl), ("kind", .int kind t1), ("more", .int more t2), ("where", .int y t3)]) → News h₀ L h' news → Q .next { s with heap := h', toks := tk }) :
    wpAny (model PySem.Challenge.rw_ix0003_01.row.prog w) (callerA.deeper (envX "law" lawScope L a ccd [("packet", pc)])) (exec st1 (envX "law" lawScope L a ccd [("packet", pc)])) Q E s := by
  dsimp only [lawScope, brSent, brAcked, brLost, brPersist, brRtt, else1, else2, else3, else4, turnStmts, lawStmts, PySem.Challenge.pw_ix0003_01, nth, fnBody, fnScope, forBody, ifBody, ifElse, st0, st1, st2, st3, st4, st5, oneOf]
  repeat' (first | (k_unfold; (try dsimp only)) | ((fail_if_success (with_reducible show wpAny _ _ (exec (Stmt.For _ _ _ _ _) _) _ _ _)); (fail_if_success (with_reducible show wpAny _ _ (exec (Stmt.While _ _ _ _) _) _ _ _)); (fail_if_success (with_reducible show wpAny _ _ (pyIter _) _ _ _)); (fail_if_success (with_reducible show wpAny _ _ (call (Value.ref 91) _ _) _ _ _)); (fail_if_success (with_reducible show wpAny _ _ (call (Value.ref 98) _ _) _ _ _)); (fail_if_success (with_reducible show wpAny _ _ (call (Value.ref 105) _ _) _ _ _)); (fail_if_success (with_reducible show wpAny _ _ (call (Value.ref 112) _ _) _ _ _)); (fail_if_success (with_reducible show wpAny _ _ (call (Value.ref 119) _ _) _ _ _)); (fail_if_success (with_reducible show wpAny _ _ (call (Value.ref 126) _ _) _ _ _)); (fail_if_success (with_reducible show wpAny _ _ (call (Value.ref 195) _ _) _ _ _)); (fail_if_success (with_reducible show wpAny _ _ (call (Value.ref 202) _ _) _ _ _)); (fail_if_success (with_reducible show wpAny _ _ (call (Value.ref 177) _ _) _ _ _)); walk1) | (leave1; walk_say "STEP leave1"; try dsimp only) | fail "no step")
  all_goals (
    (rename Fr _ _ _ _ => lF)
    (rename News _ _ _ _ => lN)
    exact ret _ _ _ _ _ (pin2 lF ⟨rfl, rfl, rfl, rfl, rfl, rfl, rfl, rfl, rfl, rfl, rfl, trivial⟩) (newsSub lN (by
      (repeat (refine sub_cons (by repeat (first | exact List.mem_cons_self | refine List.mem_cons_of_mem _ ?_)) ?_))
      intro q9 hq9
      repeat (first | exact hq9 | refine List.mem_cons_of_mem _ ?_))))
set_option maxHeartbeats 8000000 in
theorem tn_step {w : World} {p : Program} {loose : List Str} {mean : ExcName → Option Value} {mg mb : Str → Option Value} {a : Addr} {ccd : Value} {base h₀ : Heap} {L : Addr} {s : Shared} {Q : Flow → Shared → Prop} {E : Value → Shared → Prop}
    {unit now trip number at_ : Int} {tu tn tt tm ta : Tok} {pc ol wd cx nl : Addr} {nvs : List Value} {nk : Nat} {ks : List Int} {news : List (Addr × Obj)} {u : Str → Option Value} {kind more y : Int} {t1 t2 t3 : Tok}
    (B : Below callerA base [] h₀) (X : (Mine.hd.heap_1 w.params).In h₀) (T : Top p loose mean mg mb h₀) (F : Fr h₀ L s.heap (kstB u [("unit", .int unit tu), ("control", .ref cx), ("world", .ref wd), ("out", .ref ol), ("now", .int now tn), ("trip", .int trip tt), ("number", .int number tm), ("numbers", .ref nl), ("kind", .int kind t1), ("more", .int more t2), ("where", .int y t3)])) (N : News h₀ L s.heap news)
    (ret : ∀ h' tk m' d pick t4 tn', 0 ≤ d → Fr h₀ L h' (kstB m' [("unit", .int unit tu), ("control", .ref cx), ("world", .ref wd), ("out", .ref ol), ("now", .int (now + d) tn'), ("trip", .int trip tt), ("number", .int number tm), ("numbers", .ref nl), ("kind", .int kind t1), ("more", .int more t2), ("pick", .int pick t4)]) → News h₀ L h' news → Q .next { s with heap := h', toks := tk }) :
    wpAny (model PySem.Challenge.rw_ix0003_01.row.prog w) (callerA.deeper (envX "law" lawScope L a ccd [("packet", pc)])) (exec st2 (envX "law" lawScope L a ccd [("packet", pc)])) Q E s := by
  dsimp only [lawScope, brSent, brAcked, brLost, brPersist, brRtt, else1, else2, else3, else4, turnStmts, lawStmts, PySem.Challenge.pw_ix0003_01, nth, fnBody, fnScope, forBody, ifBody, ifElse, st0, st1, st2, st3, st4, st5, oneOf]
  repeat' (first | (k_unfold; (try dsimp only)) | ((fail_if_success (with_reducible show wpAny _ _ (exec (Stmt.For _ _ _ _ _) _) _ _ _)); (fail_if_success (with_reducible show wpAny _ _ (exec (Stmt.While _ _ _ _) _) _ _ _)); (fail_if_success (with_reducible show wpAny _ _ (pyIter _) _ _ _)); (fail_if_success (with_reducible show wpAny _ _ (call (Value.ref 91) _ _) _ _ _)); (fail_if_success (with_reducible show wpAny _ _ (call (Value.ref 98) _ _) _ _ _)); (fail_if_success (with_reducible show wpAny _ _ (call (Value.ref 105) _ _) _ _ _)); (fail_if_success (with_reducible show wpAny _ _ (call (Value.ref 112) _ _) _ _ _)); (fail_if_success (with_reducible show wpAny _ _ (call (Value.ref 119) _ _) _ _ _)); (fail_if_success (with_reducible show wpAny _ _ (call (Value.ref 126) _ _) _ _ _)); (fail_if_success (with_reducible show wpAny _ _ (call (Value.ref 195) _ _) _ _ _)); (fail_if_success (with_reducible show wpAny _ _ (call (Value.ref 202) _ _) _ _ _)); (fail_if_success (with_reducible show wpAny _ _ (call (Value.ref 177) _ _) _ _ _)); walk1) | (leave1; walk_say "STEP leave1"; try dsimp only) | fail "no step")
  all_goals (
    (rename Fr _ _ _ _ => lF)
    (rename News _ _ _ _ => lN)
    exact ret _ _ _ _ _ _ _ (steps_nonneg _) (pin2 lF ⟨rfl, rfl, rfl, rfl, rfl, rfl, rfl, rfl, rfl, rfl, rfl, trivial⟩) (newsSub lN (by
      (repeat (refine sub_cons (by repeat (first | exact List.mem_cons_self | refine List.mem_cons_of_mem _ ?_)) ?_))
      intro q9 hq9
      repeat (first | exact hq9 | refine List.mem_cons_of_mem _ ?_))))
end Mine
end PT4

section PT5
namespace Mine
theorem fresh_T5 : True := by
  w_top off
  first | walk1 | exact True.intro
theorem fillT5 (w : World) : Mine.hd.heap_1 w.params = Mine.hd.heap_1 w.params ∧ PySem.Challenge.rw_ix0003_01.row.prog = PySem.Challenge.rw_ix0003_01.row.prog := by
  k_fill
  exact ⟨rfl, rfl⟩

def ifTest : Option Stmt → PySem.Expr
  | some (.If (test := b) ..) => b
  | _ => .Constant (.int 0) 0 default
def ifPos : Option Stmt → Pos
  | some (.If (pos := b) ..) => b
  | _ => default
theorem st3_eq : st3 = Stmt.If (ifTest (nth turnStmts 3)) brSent else1 (ifPos (nth turnStmts 3)) := by rfl
theorem else1_eq : else1 = [Stmt.If (ifTest (nth else1 0)) brAcked else2 (ifPos (nth else1 0))] := by rfl
theorem else2_eq : else2 = [Stmt.If (ifTest (nth else2 0)) brLost else3 (ifPos (nth else2 0))] := by rfl
theorem else3_eq : else3 = [Stmt.If (ifTest (nth else3 0)) brPersist else4 (ifPos (nth else3 0))] := by rfl
theorem else4_eq : else4 = [Stmt.If (ifTest (nth else4 0)) brRtt [] (ifPos (nth else4 0))] := by rfl
section
variable {prog : Program} {w : World} {A : Around} {E : Value → Shared → Prop} {s : Shared} {h₀ : Heap} {L l : Addr} {m : Str → Option Value} {news : List (Addr × Obj)} {k : Nat} {vs : List Value}
theorem execs_one {M : Model} {st : Stmt} {env : Env} {Q : Flow → Shared → Prop} (h : wpAny M A (exec st env) Q E s) : wpAny M A (execs [st] env) Q E s :=
  wpAny_execs_cons (wpAny_mono h (fun f s' hq => by
    cases f with
    | next => exact wpAny_execs_nil hq
    | brk => exact hq
    | cont => exact hq
    | ret v => exact hq) fun _ _ e => e)
theorem t_truthy_t {Q : Bool → Shared → Prop} (N : News h₀ L s.heap news) (hl : (l, listOf vs.toArray k) ∈ news) (hz : vs.length ≤ 1000) (hp : 0 < vs.length) (h : ∀ tk, Q true { s with toks := tk }) :
    wpAny (model prog w) A (truthy (.ref l)) Q E s := t_truthy N hl hz fun tk => by rw [decide_eq_true hp]; exact h tk
theorem t_truthy_f {Q : Bool → Shared → Prop} (N : News h₀ L s.heap news) (hl : (l, listOf vs.toArray k) ∈ news) (hp : vs.length = 0) (h : ∀ tk, Q false { s with toks := tk }) :
    wpAny (model prog w) A (truthy (.ref l)) Q E s := t_truthy N hl (by omega) fun tk => by rw [decide_eq_false (by omega)]; exact h tk
end

theorem sent_len {unit : Int} (h : 1 ≤ unit) (h2 : unit ≤ 1280) (x : Int) : 1 ≤ 1 + x.fmod (12 * unit) ∧ 1 + x.fmod (12 * unit) ≤ 15360 := by
  rw [Int.fmod_eq_emod_of_nonneg _ (by omega)]
  have h3 := Int.emod_nonneg x (show 12 * unit ≠ 0 by omega)
  have h4 := Int.emod_lt_of_pos x (show 0 < 12 * unit by omega)
  omega
local macro_rules | `(tactic| walk_at "truthy ref") => `(tactic| (k_here; first | (refine t_truthy_t ‹_› (by repeat (first | exact List.mem_cons_self | refine List.mem_cons_of_mem _ ?_)) ‹_› ‹_› ?_; intro _) | (refine t_truthy_f ‹_› (by repeat (first | exact List.mem_cons_self | refine List.mem_cons_of_mem _ ?_)) ‹_› ?_; intro _)))

set_option maxHeartbeats 8000000 in
theorem tn_else4 {w : World} {p : Program} {loose : List Str} {mean : ExcName → Option Value} {mg mb : Str → Option Value} {a : Addr} {ccd : Value} {base h₀ : Heap} {L : Addr} {s : Shared} {Q : Flow → Shared → Prop} {E : Value → Shared → Prop}
    {unit kind more pick now trip number : Int} {tu t1 t2 t3 tn tt tm : Tok} {pc ol wd tl cx cd mx md sl nl I : Addr} {po io wo : Obj} {v0 : Option Value} {kvs : List (Str × Value)} {ts xs nvs : List Value} {nk : Nat} {T9 ring : List Int} {nt n nm k no : Nat} {es em : List DictEntry} {v : Wd} {c : Ctl} {q : Mon} {out : List Pk} {R : List (Addr × Obj)} {u : Str → Option Value} {i : Nat}
    (B : Below callerA base [] h₀) (F : Fr h₀ L s.heap (kstB u [("unit", .int unit tu), ("control", .ref cx), ("world", .ref wd), ("out", .ref ol), ("now", .int now tn), ("trip", .int trip tt), ("number", .int number tm), ("numbers", .ref nl), ("kind", .int kind t1), ("more", .int more t2), ("pick", .int pick t3)])) (X : (Mine.hd.heap_1 w.params).In h₀) (T : Top p loose mean mg mb h₀)
    (N : News h₀ L s.heap ((pc, po) :: (ol, listOf (refsOf out).toArray no) :: (wd, wo) :: (tl, listOf ts.toArray nt) :: (cx, instObj 129 cd) :: (cd, dictOf es n) :: (mx, instObj 64 md) :: (md, dictOf em nm) :: (sl, listOf xs.toArray k) :: (I, io) :: R)) (D : WorldD PySem.Challenge.rw_ix0003_01.row.prog w wo v kvs) (C : CtlD es c) (M : MonD em q) (hts : IntsAre ts T9) (hxs : IntsAre xs ring) (hpo : po.data = .cell v0) (P : ∀ p ∈ out, PkIn R p)
    (hnl : (nl, listOf nvs.toArray nk) ∈ R) (nd : [pc, ol, wd, tl, cx, cd, mx, md, sl].Nodup) (hR : ∀ p ∈ R, p.1 ∉ [pc, ol, wd, tl, cx, cd, mx, md, sl])
    (n_pc_ol : pc ≠ ol) (n_pc_wd : pc ≠ wd) (n_pc_tl : pc ≠ tl) (n_pc_cx : pc ≠ cx) (n_pc_cd : pc ≠ cd) (n_pc_mx : pc ≠ mx) (n_pc_md : pc ≠ md) (n_pc_sl : pc ≠ sl) (n_pc_I : pc ≠ I) (n_ol_wd : ol ≠ wd) (n_ol_tl : ol ≠ tl) (n_ol_cx : ol ≠ cx) (n_ol_cd : ol ≠ cd) (n_ol_mx : ol ≠ mx) (n_ol_md : ol ≠ md) (n_ol_sl : ol ≠ sl) (n_ol_I : ol ≠ I) (n_wd_tl : wd ≠ tl) (n_wd_cx : wd ≠ cx) (n_wd_cd : wd ≠ cd) (n_wd_mx : wd ≠ mx) (n_wd_md : wd ≠ md) (n_wd_sl : wd ≠ sl) (n_wd_I : wd ≠ I) (n_tl_cx : tl ≠ cx) (n_tl_cd : tl ≠ cd) (n_tl_mx : tl ≠ mx) (n_tl_md : tl ≠ md) (n_tl_sl : tl ≠ sl) (n_tl_I : tl ≠ I) (n_cx_cd : cx ≠ cd) (n_cx_mx : cx ≠ mx) (n_cx_md : cx ≠ md) (n_cx_sl : cx ≠ sl) (n_cx_I : cx ≠ I) (n_cd_mx : cd ≠ mx) (n_cd_md : cd ≠ md) (n_cd_sl : cd ≠ sl) (n_cd_I : cd ≠ I) (n_mx_md : mx ≠ md) (n_mx_sl : mx ≠ sl) (n_mx_I : mx ≠ I) (n_md_sl : md ≠ sl) (n_md_I : md ≠ I) (n_sl_I : sl ≠ I) (r_pc : ∀ p ∈ R, p.1 ≠ pc) (r_ol : ∀ p ∈ R, p.1 ≠ ol) (r_wd : ∀ p ∈ R, p.1 ≠ wd) (r_tl : ∀ p ∈ R, p.1 ≠ tl) (r_cx : ∀ p ∈ R, p.1 ≠ cx) (r_cd : ∀ p ∈ R, p.1 ≠ cd) (r_mx : ∀ p ∈ R, p.1 ≠ mx) (r_md : ∀ p ∈ R, p.1 ≠ md) (r_sl : ∀ p ∈ R, p.1 ≠ sl) (r_I : ∀ p ∈ R, p.1 ≠ I) (H : Pure unit mx sl tl i ⟨now, trip, number, v, c, q, T9, ring, out⟩) (hi : i < 30)
    (ret : ∀ h' tk m' nx' σ', Fr h₀ L h' m' → News h₀ L h' ((I, io) :: nx') → (∀ p ∈ nx', p.1 ≠ I) → Core w unit pc wd tl cx cd mx md sl nl nvs nk σ' m' nx' → Pure unit mx sl tl (i + 1) σ' → Q .next { s with heap := h', toks := tk }) :
    wpAny (model PySem.Challenge.rw_ix0003_01.row.prog w) (callerA.deeper (envX "law" lawScope L a ccd [("packet", pc)])) (execs else4 (envX "law" lawScope L a ccd [("packet", pc)])) Q E s := by
  have hz1 : (refsOf out).length ≤ 1000 := by
    have := H.hout
    dsimp only at this
    rw [refs_len']; omega
  have hun := H.u1
  have hun2 := H.u2
  have ho : out.length ≤ 1000 := by rw [← refs_len']; exact hz1
  have zc := H.hc
  have zw := H.hw
  have zr := H.hr
  have zb := H.hb
  have zm := H.hmeas
  have zq := H.q3
  have zR := H.ring
  have zT := H.hT
  have zl := H.hlen
  have zs := H.q4
  have zt := H.htl
  dsimp only at zc zw zr zb zm zq zR zT zl zs zt
  rw [else4_eq]
  refine execs_one ?_
  dsimp only [ifTest, ifPos, lawScope, turnStmts, lawStmts, PySem.Challenge.pw_ix0003_01, nth, fnBody, fnScope, forBody, ifBody, ifElse, else1, else2, else3, else4]
  repeat' (first | (k_unfold; (try dsimp only)) | ((fail_if_success (with_reducible show wpAny _ _ (exec (Stmt.For _ _ _ _ _) _) _ _ _)); (fail_if_success (with_reducible show wpAny _ _ (exec (Stmt.While _ _ _ _) _) _ _ _)); (fail_if_success (with_reducible show wpAny _ _ (pyIter _) _ _ _)); (fail_if_success (with_reducible show wpAny _ _ (call (Value.ref 91) _ _) _ _ _)); (fail_if_success (with_reducible show wpAny _ _ (call (Value.ref 98) _ _) _ _ _)); (fail_if_success (with_reducible show wpAny _ _ (call (Value.ref 105) _ _) _ _ _)); (fail_if_success (with_reducible show wpAny _ _ (call (Value.ref 112) _ _) _ _ _)); (fail_if_success (with_reducible show wpAny _ _ (call (Value.ref 119) _ _) _ _ _)); (fail_if_success (with_reducible show wpAny _ _ (call (Value.ref 126) _ _) _ _ _)); (fail_if_success (with_reducible show wpAny _ _ (call (Value.ref 195) _ _) _ _ _)); (fail_if_success (with_reducible show wpAny _ _ (call (Value.ref 202) _ _) _ _ _)); (fail_if_success (with_reducible show wpAny _ _ (call (Value.ref 177) _ _) _ _ _)); (fail_if_success (with_reducible show wpAny _ _ (execs brSent _) _ _ _)); (fail_if_success (with_reducible show wpAny _ _ (execs brAcked _) _ _ _)); (fail_if_success (with_reducible show wpAny _ _ (execs brLost _) _ _ _)); (fail_if_success (with_reducible show wpAny _ _ (execs brPersist _) _ _ _)); (fail_if_success (with_reducible show wpAny _ _ (execs brRtt _) _ _ _)); (fail_if_success (with_reducible show wpAny _ _ (execs else1 _) _ _ _)); (fail_if_success (with_reducible show wpAny _ _ (execs else2 _) _ _ _)); (fail_if_success (with_reducible show wpAny _ _ (execs else3 _) _ _ _)); (fail_if_success (with_reducible show wpAny _ _ (execs else4 _) _ _ _)); walk1) | (leave1; walk_say "STEP leave1"; try dsimp only) | fail "no step")
  all_goals first
    | ((with_reducible show wpAny _ _ (execs brRtt _) _ _ _); exact br_rtt B F X T N D C M hts hxs hpo P hnl nd hR n_pc_ol n_pc_wd n_pc_tl n_pc_cx n_pc_cd n_pc_mx n_pc_md n_pc_sl n_pc_I n_ol_wd n_ol_tl n_ol_cx n_ol_cd n_ol_mx n_ol_md n_ol_sl n_ol_I n_wd_tl n_wd_cx n_wd_cd n_wd_mx n_wd_md n_wd_sl n_wd_I n_tl_cx n_tl_cd n_tl_mx n_tl_md n_tl_sl n_tl_I n_cx_cd n_cx_mx n_cx_md n_cx_sl n_cx_I n_cd_mx n_cd_md n_cd_sl n_cd_I n_mx_md n_mx_sl n_mx_I n_md_sl n_md_I n_sl_I r_pc r_ol r_wd r_tl r_cx r_cd r_mx r_md r_sl r_I (by rw [zq]; exact zm) zm zR.len zR.i0 zR.i5 zs zt (by rw [zc]) (by omega) (fun h' tk m' nx' trip' v' c' q' T' ring' e1 e2 F' N' o' C' => ret _ _ _ _ _ F' N' o' C' (H.rtt e1 e2)))
    | ((first | refine wpAny_execs_nil ?_ | skip); exact ret s.heap _ _ _ _ F (newsSub (l' := (I, io) :: (pc, po) :: (ol, listOf (refsOf out).toArray no) :: (wd, wo) :: (tl, listOf ts.toArray nt) :: (cx, instObj 129 cd) :: (cd, dictOf es n) :: (mx, instObj 64 md) :: (md, dictOf em nm) :: (sl, listOf xs.toArray k) :: R) N (by
        (repeat (refine sub_cons (by repeat (first | exact List.mem_cons_self | refine List.mem_cons_of_mem _ ?_)) ?_))
        intro q9 hq9
        repeat (first | exact hq9 | refine List.mem_cons_of_mem _ ?_))) (by repeat (first | assumption | refine off_cons (by first | assumption | exact Ne.symm (by assumption) | (refine neN ?_; omega)) ?_)) (Core.mk (R := R) rfl ⟨_, rfl⟩ rfl rfl rfl ⟨_, rfl⟩ ⟨_, rfl⟩ ⟨_, rfl⟩ rfl D C M hts hxs hpo P hnl nd hR) H.idle)

set_option maxHeartbeats 8000000 in
theorem tn_else3 {w : World} {p : Program} {loose : List Str} {mean : ExcName → Option Value} {mg mb : Str → Option Value} {a : Addr} {ccd : Value} {base h₀ : Heap} {L : Addr} {s : Shared} {Q : Flow → Shared → Prop} {E : Value → Shared → Prop}
    {unit kind more pick now trip number : Int} {tu t1 t2 t3 tn tt tm : Tok} {pc ol wd tl cx cd mx md sl nl I : Addr} {po io wo : Obj} {v0 : Option Value} {kvs : List (Str × Value)} {ts xs nvs : List Value} {nk : Nat} {T9 ring : List Int} {nt n nm k no : Nat} {es em : List DictEntry} {v : Wd} {c : Ctl} {q : Mon} {out : List Pk} {R : List (Addr × Obj)} {u : Str → Option Value} {i : Nat}
    (B : Below callerA base [] h₀) (F : Fr h₀ L s.heap (kstB u [("unit", .int unit tu), ("control", .ref cx), ("world", .ref wd), ("out", .ref ol), ("now", .int now tn), ("trip", .int trip tt), ("number", .int number tm), ("numbers", .ref nl), ("kind", .int kind t1), ("more", .int more t2), ("pick", .int pick t3)])) (X : (Mine.hd.heap_1 w.params).In h₀) (T : Top p loose mean mg mb h₀)
    (N : News h₀ L s.heap ((pc, po) :: (ol, listOf (refsOf out).toArray no) :: (wd, wo) :: (tl, listOf ts.toArray nt) :: (cx, instObj 129 cd) :: (cd, dictOf es n) :: (mx, instObj 64 md) :: (md, dictOf em nm) :: (sl, listOf xs.toArray k) :: (I, io) :: R)) (D : WorldD PySem.Challenge.rw_ix0003_01.row.prog w wo v kvs) (C : CtlD es c) (M : MonD em q) (hts : IntsAre ts T9) (hxs : IntsAre xs ring) (hpo : po.data = .cell v0) (P : ∀ p ∈ out, PkIn R p)
    (hnl : (nl, listOf nvs.toArray nk) ∈ R) (nd : [pc, ol, wd, tl, cx, cd, mx, md, sl].Nodup) (hR : ∀ p ∈ R, p.1 ∉ [pc, ol, wd, tl, cx, cd, mx, md, sl])
    (n_pc_ol : pc ≠ ol) (n_pc_wd : pc ≠ wd) (n_pc_tl : pc ≠ tl) (n_pc_cx : pc ≠ cx) (n_pc_cd : pc ≠ cd) (n_pc_mx : pc ≠ mx) (n_pc_md : pc ≠ md) (n_pc_sl : pc ≠ sl) (n_pc_I : pc ≠ I) (n_ol_wd : ol ≠ wd) (n_ol_tl : ol ≠ tl) (n_ol_cx : ol ≠ cx) (n_ol_cd : ol ≠ cd) (n_ol_mx : ol ≠ mx) (n_ol_md : ol ≠ md) (n_ol_sl : ol ≠ sl) (n_ol_I : ol ≠ I) (n_wd_tl : wd ≠ tl) (n_wd_cx : wd ≠ cx) (n_wd_cd : wd ≠ cd) (n_wd_mx : wd ≠ mx) (n_wd_md : wd ≠ md) (n_wd_sl : wd ≠ sl) (n_wd_I : wd ≠ I) (n_tl_cx : tl ≠ cx) (n_tl_cd : tl ≠ cd) (n_tl_mx : tl ≠ mx) (n_tl_md : tl ≠ md) (n_tl_sl : tl ≠ sl) (n_tl_I : tl ≠ I) (n_cx_cd : cx ≠ cd) (n_cx_mx : cx ≠ mx) (n_cx_md : cx ≠ md) (n_cx_sl : cx ≠ sl) (n_cx_I : cx ≠ I) (n_cd_mx : cd ≠ mx) (n_cd_md : cd ≠ md) (n_cd_sl : cd ≠ sl) (n_cd_I : cd ≠ I) (n_mx_md : mx ≠ md) (n_mx_sl : mx ≠ sl) (n_mx_I : mx ≠ I) (n_md_sl : md ≠ sl) (n_md_I : md ≠ I) (n_sl_I : sl ≠ I) (r_pc : ∀ p ∈ R, p.1 ≠ pc) (r_ol : ∀ p ∈ R, p.1 ≠ ol) (r_wd : ∀ p ∈ R, p.1 ≠ wd) (r_tl : ∀ p ∈ R, p.1 ≠ tl) (r_cx : ∀ p ∈ R, p.1 ≠ cx) (r_cd : ∀ p ∈ R, p.1 ≠ cd) (r_mx : ∀ p ∈ R, p.1 ≠ mx) (r_md : ∀ p ∈ R, p.1 ≠ md) (r_sl : ∀ p ∈ R, p.1 ≠ sl) (r_I : ∀ p ∈ R, p.1 ≠ I) (H : Pure unit mx sl tl i ⟨now, trip, number, v, c, q, T9, ring, out⟩) (hi : i < 30)
    (ret : ∀ h' tk m' nx' σ', Fr h₀ L h' m' → News h₀ L h' ((I, io) :: nx') → (∀ p ∈ nx', p.1 ≠ I) → Core w unit pc wd tl cx cd mx md sl nl nvs nk σ' m' nx' → Pure unit mx sl tl (i + 1) σ' → Q .next { s with heap := h', toks := tk }) :
    wpAny (model PySem.Challenge.rw_ix0003_01.row.prog w) (callerA.deeper (envX "law" lawScope L a ccd [("packet", pc)])) (execs else3 (envX "law" lawScope L a ccd [("packet", pc)])) Q E s := by
  have hz1 : (refsOf out).length ≤ 1000 := by
    have := H.hout
    dsimp only at this
    rw [refs_len']; omega
  have hun := H.u1
  have hun2 := H.u2
  have ho : out.length ≤ 1000 := by rw [← refs_len']; exact hz1
  have zc := H.hc
  have zw := H.hw
  have zr := H.hr
  have zb := H.hb
  have zm := H.hmeas
  have zq := H.q3
  have zR := H.ring
  have zT := H.hT
  have zl := H.hlen
  have zs := H.q4
  have zt := H.htl
  dsimp only at zc zw zr zb zm zq zR zT zl zs zt
  rw [else3_eq]
  refine execs_one ?_
  dsimp only [ifTest, ifPos, lawScope, turnStmts, lawStmts, PySem.Challenge.pw_ix0003_01, nth, fnBody, fnScope, forBody, ifBody, ifElse, else1, else2, else3]
  repeat' (first | (k_unfold; (try dsimp only)) | ((fail_if_success (with_reducible show wpAny _ _ (exec (Stmt.For _ _ _ _ _) _) _ _ _)); (fail_if_success (with_reducible show wpAny _ _ (exec (Stmt.While _ _ _ _) _) _ _ _)); (fail_if_success (with_reducible show wpAny _ _ (pyIter _) _ _ _)); (fail_if_success (with_reducible show wpAny _ _ (call (Value.ref 91) _ _) _ _ _)); (fail_if_success (with_reducible show wpAny _ _ (call (Value.ref 98) _ _) _ _ _)); (fail_if_success (with_reducible show wpAny _ _ (call (Value.ref 105) _ _) _ _ _)); (fail_if_success (with_reducible show wpAny _ _ (call (Value.ref 112) _ _) _ _ _)); (fail_if_success (with_reducible show wpAny _ _ (call (Value.ref 119) _ _) _ _ _)); (fail_if_success (with_reducible show wpAny _ _ (call (Value.ref 126) _ _) _ _ _)); (fail_if_success (with_reducible show wpAny _ _ (call (Value.ref 195) _ _) _ _ _)); (fail_if_success (with_reducible show wpAny _ _ (call (Value.ref 202) _ _) _ _ _)); (fail_if_success (with_reducible show wpAny _ _ (call (Value.ref 177) _ _) _ _ _)); (fail_if_success (with_reducible show wpAny _ _ (execs brSent _) _ _ _)); (fail_if_success (with_reducible show wpAny _ _ (execs brAcked _) _ _ _)); (fail_if_success (with_reducible show wpAny _ _ (execs brLost _) _ _ _)); (fail_if_success (with_reducible show wpAny _ _ (execs brPersist _) _ _ _)); (fail_if_success (with_reducible show wpAny _ _ (execs brRtt _) _ _ _)); (fail_if_success (with_reducible show wpAny _ _ (execs else1 _) _ _ _)); (fail_if_success (with_reducible show wpAny _ _ (execs else2 _) _ _ _)); (fail_if_success (with_reducible show wpAny _ _ (execs else3 _) _ _ _)); (fail_if_success (with_reducible show wpAny _ _ (execs else4 _) _ _ _)); walk1) | (leave1; walk_say "STEP leave1"; try dsimp only) | fail "no step")
  all_goals first
    | ((with_reducible show wpAny _ _ (execs brPersist _) _ _ _); exact br_persist B F X T N D C M hts hxs hpo P hnl nd hR n_pc_ol n_pc_wd n_pc_tl n_pc_cx n_pc_cd n_pc_mx n_pc_md n_pc_sl n_pc_I n_ol_wd n_ol_tl n_ol_cx n_ol_cd n_ol_mx n_ol_md n_ol_sl n_ol_I n_wd_tl n_wd_cx n_wd_cd n_wd_mx n_wd_md n_wd_sl n_wd_I n_tl_cx n_tl_cd n_tl_mx n_tl_md n_tl_sl n_tl_I n_cx_cd n_cx_mx n_cx_md n_cx_sl n_cx_I n_cd_mx n_cd_md n_cd_sl n_cd_I n_mx_md n_mx_sl n_mx_I n_md_sl n_md_I n_sl_I r_pc r_ol r_wd r_tl r_cx r_cd r_mx r_md r_sl r_I (fun h' tk m' nx' F' N' o' C' => ret _ _ _ _ _ F' N' o' C' H.persist))
    | ((with_reducible show wpAny _ _ (execs else4 _) _ _ _); exact tn_else4 B F X T N D C M hts hxs hpo P hnl nd hR n_pc_ol n_pc_wd n_pc_tl n_pc_cx n_pc_cd n_pc_mx n_pc_md n_pc_sl n_pc_I n_ol_wd n_ol_tl n_ol_cx n_ol_cd n_ol_mx n_ol_md n_ol_sl n_ol_I n_wd_tl n_wd_cx n_wd_cd n_wd_mx n_wd_md n_wd_sl n_wd_I n_tl_cx n_tl_cd n_tl_mx n_tl_md n_tl_sl n_tl_I n_cx_cd n_cx_mx n_cx_md n_cx_sl n_cx_I n_cd_mx n_cd_md n_cd_sl n_cd_I n_mx_md n_mx_sl n_mx_I n_md_sl n_md_I n_sl_I r_pc r_ol r_wd r_tl r_cx r_cd r_mx r_md r_sl r_I H hi ret)

set_option maxHeartbeats 8000000 in
theorem tn_else2 {w : World} {p : Program} {loose : List Str} {mean : ExcName → Option Value} {mg mb : Str → Option Value} {a : Addr} {ccd : Value} {base h₀ : Heap} {L : Addr} {s : Shared} {Q : Flow → Shared → Prop} {E : Value → Shared → Prop}
    {unit kind more pick now trip number : Int} {tu t1 t2 t3 tn tt tm : Tok} {pc ol wd tl cx cd mx md sl nl I : Addr} {po io wo : Obj} {v0 : Option Value} {kvs : List (Str × Value)} {ts xs nvs : List Value} {nk : Nat} {T9 ring : List Int} {nt n nm k no : Nat} {es em : List DictEntry} {v : Wd} {c : Ctl} {q : Mon} {out : List Pk} {R : List (Addr × Obj)} {u : Str → Option Value} {i : Nat}
    (B : Below callerA base [] h₀) (F : Fr h₀ L s.heap (kstB u [("unit", .int unit tu), ("control", .ref cx), ("world", .ref wd), ("out", .ref ol), ("now", .int now tn), ("trip", .int trip tt), ("number", .int number tm), ("numbers", .ref nl), ("kind", .int kind t1), ("more", .int more t2), ("pick", .int pick t3)])) (X : (Mine.hd.heap_1 w.params).In h₀) (T : Top p loose mean mg mb h₀)
    (N : News h₀ L s.heap ((pc, po) :: (ol, listOf (refsOf out).toArray no) :: (wd, wo) :: (tl, listOf ts.toArray nt) :: (cx, instObj 129 cd) :: (cd, dictOf es n) :: (mx, instObj 64 md) :: (md, dictOf em nm) :: (sl, listOf xs.toArray k) :: (I, io) :: R)) (D : WorldD PySem.Challenge.rw_ix0003_01.row.prog w wo v kvs) (C : CtlD es c) (M : MonD em q) (hts : IntsAre ts T9) (hxs : IntsAre xs ring) (hpo : po.data = .cell v0) (P : ∀ p ∈ out, PkIn R p)
    (hnl : (nl, listOf nvs.toArray nk) ∈ R) (nd : [pc, ol, wd, tl, cx, cd, mx, md, sl].Nodup) (hR : ∀ p ∈ R, p.1 ∉ [pc, ol, wd, tl, cx, cd, mx, md, sl])
    (n_pc_ol : pc ≠ ol) (n_pc_wd : pc ≠ wd) (n_pc_tl : pc ≠ tl) (n_pc_cx : pc ≠ cx) (n_pc_cd : pc ≠ cd) (n_pc_mx : pc ≠ mx) (n_pc_md : pc ≠ md) (n_pc_sl : pc ≠ sl) (n_pc_I : pc ≠ I) (n_ol_wd : ol ≠ wd) (n_ol_tl : ol ≠ tl) (n_ol_cx : ol ≠ cx) (n_ol_cd : ol ≠ cd) (n_ol_mx : ol ≠ mx) (n_ol_md : ol ≠ md) (n_ol_sl : ol ≠ sl) (n_ol_I : ol ≠ I) (n_wd_tl : wd ≠ tl) (n_wd_cx : wd ≠ cx) (n_wd_cd : wd ≠ cd) (n_wd_mx : wd ≠ mx) (n_wd_md : wd ≠ md) (n_wd_sl : wd ≠ sl) (n_wd_I : wd ≠ I) (n_tl_cx : tl ≠ cx) (n_tl_cd : tl ≠ cd) (n_tl_mx : tl ≠ mx) (n_tl_md : tl ≠ md) (n_tl_sl : tl ≠ sl) (n_tl_I : tl ≠ I) (n_cx_cd : cx ≠ cd) (n_cx_mx : cx ≠ mx) (n_cx_md : cx ≠ md) (n_cx_sl : cx ≠ sl) (n_cx_I : cx ≠ I) (n_cd_mx : cd ≠ mx) (n_cd_md : cd ≠ md) (n_cd_sl : cd ≠ sl) (n_cd_I : cd ≠ I) (n_mx_md : mx ≠ md) (n_mx_sl : mx ≠ sl) (n_mx_I : mx ≠ I) (n_md_sl : md ≠ sl) (n_md_I : md ≠ I) (n_sl_I : sl ≠ I) (r_pc : ∀ p ∈ R, p.1 ≠ pc) (r_ol : ∀ p ∈ R, p.1 ≠ ol) (r_wd : ∀ p ∈ R, p.1 ≠ wd) (r_tl : ∀ p ∈ R, p.1 ≠ tl) (r_cx : ∀ p ∈ R, p.1 ≠ cx) (r_cd : ∀ p ∈ R, p.1 ≠ cd) (r_mx : ∀ p ∈ R, p.1 ≠ mx) (r_md : ∀ p ∈ R, p.1 ≠ md) (r_sl : ∀ p ∈ R, p.1 ≠ sl) (r_I : ∀ p ∈ R, p.1 ≠ I) (H : Pure unit mx sl tl i ⟨now, trip, number, v, c, q, T9, ring, out⟩) (hi : i < 30)
    (ret : ∀ h' tk m' nx' σ', Fr h₀ L h' m' → News h₀ L h' ((I, io) :: nx') → (∀ p ∈ nx', p.1 ≠ I) → Core w unit pc wd tl cx cd mx md sl nl nvs nk σ' m' nx' → Pure unit mx sl tl (i + 1) σ' → Q .next { s with heap := h', toks := tk }) :
    wpAny (model PySem.Challenge.rw_ix0003_01.row.prog w) (callerA.deeper (envX "law" lawScope L a ccd [("packet", pc)])) (execs else2 (envX "law" lawScope L a ccd [("packet", pc)])) Q E s := by
  have hz1 : (refsOf out).length ≤ 1000 := by
    have := H.hout
    dsimp only at this
    rw [refs_len']; omega
  have hun := H.u1
  have hun2 := H.u2
  have ho : out.length ≤ 1000 := by rw [← refs_len']; exact hz1
  have zc := H.hc
  have zw := H.hw
  have zr := H.hr
  have zb := H.hb
  have zm := H.hmeas
  have zq := H.q3
  have zR := H.ring
  have zT := H.hT
  have zl := H.hlen
  have zs := H.q4
  have zt := H.htl
  dsimp only at zc zw zr zb zm zq zR zT zl zs zt
  rcases Nat.eq_zero_or_pos out.length with ho2 | ho2
  all_goals (have hz2 := ho2; rw [← refs_len'] at hz2)
  all_goals (
    rw [else2_eq]
    refine execs_one ?_
    dsimp only [ifTest, ifPos, lawScope, turnStmts, lawStmts, PySem.Challenge.pw_ix0003_01, nth, fnBody, fnScope, forBody, ifBody, ifElse, else1, else2]
    repeat' (first | (k_unfold; (try dsimp only)) | ((fail_if_success (with_reducible show wpAny _ _ (exec (Stmt.For _ _ _ _ _) _) _ _ _)); (fail_if_success (with_reducible show wpAny _ _ (exec (Stmt.While _ _ _ _) _) _ _ _)); (fail_if_success (with_reducible show wpAny _ _ (pyIter _) _ _ _)); (fail_if_success (with_reducible show wpAny _ _ (call (Value.ref 91) _ _) _ _ _)); (fail_if_success (with_reducible show wpAny _ _ (call (Value.ref 98) _ _) _ _ _)); (fail_if_success (with_reducible show wpAny _ _ (call (Value.ref 105) _ _) _ _ _)); (fail_if_success (with_reducible show wpAny _ _ (call (Value.ref 112) _ _) _ _ _)); (fail_if_success (with_reducible show wpAny _ _ (call (Value.ref 119) _ _) _ _ _)); (fail_if_success (with_reducible show wpAny _ _ (call (Value.ref 126) _ _) _ _ _)); (fail_if_success (with_reducible show wpAny _ _ (call (Value.ref 195) _ _) _ _ _)); (fail_if_success (with_reducible show wpAny _ _ (call (Value.ref 202) _ _) _ _ _)); (fail_if_success (with_reducible show wpAny _ _ (call (Value.ref 177) _ _) _ _ _)); (fail_if_success (with_reducible show wpAny _ _ (execs brSent _) _ _ _)); (fail_if_success (with_reducible show wpAny _ _ (execs brAcked _) _ _ _)); (fail_if_success (with_reducible show wpAny _ _ (execs brLost _) _ _ _)); (fail_if_success (with_reducible show wpAny _ _ (execs brPersist _) _ _ _)); (fail_if_success (with_reducible show wpAny _ _ (execs brRtt _) _ _ _)); (fail_if_success (with_reducible show wpAny _ _ (execs else1 _) _ _ _)); (fail_if_success (with_reducible show wpAny _ _ (execs else2 _) _ _ _)); (fail_if_success (with_reducible show wpAny _ _ (execs else3 _) _ _ _)); (fail_if_success (with_reducible show wpAny _ _ (execs else4 _) _ _ _)); walk1) | (leave1; walk_say "STEP leave1"; try dsimp only) | fail "no step")
    all_goals first
      | ((with_reducible show wpAny _ _ (execs brLost _) _ _ _); exact br_lost B F X T N D C M hts hxs hpo P hnl nd hR n_pc_ol n_pc_wd n_pc_tl n_pc_cx n_pc_cd n_pc_mx n_pc_md n_pc_sl n_pc_I n_ol_wd n_ol_tl n_ol_cx n_ol_cd n_ol_mx n_ol_md n_ol_sl n_ol_I n_wd_tl n_wd_cx n_wd_cd n_wd_mx n_wd_md n_wd_sl n_wd_I n_tl_cx n_tl_cd n_tl_mx n_tl_md n_tl_sl n_tl_I n_cx_cd n_cx_mx n_cx_md n_cx_sl n_cx_I n_cd_mx n_cd_md n_cd_sl n_cd_I n_mx_md n_mx_sl n_mx_I n_md_sl n_md_I n_sl_I r_pc r_ol r_wd r_tl r_cx r_cd r_mx r_md r_sl r_I ho ho2 (fun h' tk m' nx' gone out' v' c' e1 e2 e3 F' N' o' C' => ret _ _ _ _ _ F' N' o' C' (H.lost e1 e2 (fmod_in (a := pick) hz2).1 e3)))
      | ((with_reducible show wpAny _ _ (execs else3 _) _ _ _); exact tn_else3 B F X T N D C M hts hxs hpo P hnl nd hR n_pc_ol n_pc_wd n_pc_tl n_pc_cx n_pc_cd n_pc_mx n_pc_md n_pc_sl n_pc_I n_ol_wd n_ol_tl n_ol_cx n_ol_cd n_ol_mx n_ol_md n_ol_sl n_ol_I n_wd_tl n_wd_cx n_wd_cd n_wd_mx n_wd_md n_wd_sl n_wd_I n_tl_cx n_tl_cd n_tl_mx n_tl_md n_tl_sl n_tl_I n_cx_cd n_cx_mx n_cx_md n_cx_sl n_cx_I n_cd_mx n_cd_md n_cd_sl n_cd_I n_mx_md n_mx_sl n_mx_I n_md_sl n_md_I n_sl_I r_pc r_ol r_wd r_tl r_cx r_cd r_mx r_md r_sl r_I H hi ret))

set_option maxHeartbeats 8000000 in
theorem tn_else1 {w : World} {p : Program} {loose : List Str} {mean : ExcName → Option Value} {mg mb : Str → Option Value} {a : Addr} {ccd : Value} {base h₀ : Heap} {L : Addr} {s : Shared} {Q : Flow → Shared → Prop} {E : Value → Shared → Prop}
    {unit kind more pick now trip number : Int} {tu t1 t2 t3 tn tt tm : Tok} {pc ol wd tl cx cd mx md sl nl I : Addr} {po io wo : Obj} {v0 : Option Value} {kvs : List (Str × Value)} {ts xs nvs : List Value} {nk : Nat} {T9 ring : List Int} {nt n nm k no : Nat} {es em : List DictEntry} {v : Wd} {c : Ctl} {q : Mon} {out : List Pk} {R : List (Addr × Obj)} {u : Str → Option Value} {i : Nat}
    (B : Below callerA base [] h₀) (F : Fr h₀ L s.heap (kstB u [("unit", .int unit tu), ("control", .ref cx), ("world", .ref wd), ("out", .ref ol), ("now", .int now tn), ("trip", .int trip tt), ("number", .int number tm), ("numbers", .ref nl), ("kind", .int kind t1), ("more", .int more t2), ("pick", .int pick t3)])) (X : (Mine.hd.heap_1 w.params).In h₀) (T : Top p loose mean mg mb h₀)
    (N : News h₀ L s.heap ((pc, po) :: (ol, listOf (refsOf out).toArray no) :: (wd, wo) :: (tl, listOf ts.toArray nt) :: (cx, instObj 129 cd) :: (cd, dictOf es n) :: (mx, instObj 64 md) :: (md, dictOf em nm) :: (sl, listOf xs.toArray k) :: (I, io) :: R)) (D : WorldD PySem.Challenge.rw_ix0003_01.row.prog w wo v kvs) (C : CtlD es c) (M : MonD em q) (hts : IntsAre ts T9) (hxs : IntsAre xs ring) (hpo : po.data = .cell v0) (P : ∀ p ∈ out, PkIn R p)
    (hnl : (nl, listOf nvs.toArray nk) ∈ R) (nd : [pc, ol, wd, tl, cx, cd, mx, md, sl].Nodup) (hR : ∀ p ∈ R, p.1 ∉ [pc, ol, wd, tl, cx, cd, mx, md, sl])
    (n_pc_ol : pc ≠ ol) (n_pc_wd : pc ≠ wd) (n_pc_tl : pc ≠ tl) (n_pc_cx : pc ≠ cx) (n_pc_cd : pc ≠ cd) (n_pc_mx : pc ≠ mx) (n_pc_md : pc ≠ md) (n_pc_sl : pc ≠ sl) (n_pc_I : pc ≠ I) (n_ol_wd : ol ≠ wd) (n_ol_tl : ol ≠ tl) (n_ol_cx : ol ≠ cx) (n_ol_cd : ol ≠ cd) (n_ol_mx : ol ≠ mx) (n_ol_md : ol ≠ md) (n_ol_sl : ol ≠ sl) (n_ol_I : ol ≠ I) (n_wd_tl : wd ≠ tl) (n_wd_cx : wd ≠ cx) (n_wd_cd : wd ≠ cd) (n_wd_mx : wd ≠ mx) (n_wd_md : wd ≠ md) (n_wd_sl : wd ≠ sl) (n_wd_I : wd ≠ I) (n_tl_cx : tl ≠ cx) (n_tl_cd : tl ≠ cd) (n_tl_mx : tl ≠ mx) (n_tl_md : tl ≠ md) (n_tl_sl : tl ≠ sl) (n_tl_I : tl ≠ I) (n_cx_cd : cx ≠ cd) (n_cx_mx : cx ≠ mx) (n_cx_md : cx ≠ md) (n_cx_sl : cx ≠ sl) (n_cx_I : cx ≠ I) (n_cd_mx : cd ≠ mx) (n_cd_md : cd ≠ md) (n_cd_sl : cd ≠ sl) (n_cd_I : cd ≠ I) (n_mx_md : mx ≠ md) (n_mx_sl : mx ≠ sl) (n_mx_I : mx ≠ I) (n_md_sl : md ≠ sl) (n_md_I : md ≠ I) (n_sl_I : sl ≠ I) (r_pc : ∀ p ∈ R, p.1 ≠ pc) (r_ol : ∀ p ∈ R, p.1 ≠ ol) (r_wd : ∀ p ∈ R, p.1 ≠ wd) (r_tl : ∀ p ∈ R, p.1 ≠ tl) (r_cx : ∀ p ∈ R, p.1 ≠ cx) (r_cd : ∀ p ∈ R, p.1 ≠ cd) (r_mx : ∀ p ∈ R, p.1 ≠ mx) (r_md : ∀ p ∈ R, p.1 ≠ md) (r_sl : ∀ p ∈ R, p.1 ≠ sl) (r_I : ∀ p ∈ R, p.1 ≠ I) (H : Pure unit mx sl tl i ⟨now, trip, number, v, c, q, T9, ring, out⟩) (hi : i < 30)
    (ret : ∀ h' tk m' nx' σ', Fr h₀ L h' m' → News h₀ L h' ((I, io) :: nx') → (∀ p ∈ nx', p.1 ≠ I) → Core w unit pc wd tl cx cd mx md sl nl nvs nk σ' m' nx' → Pure unit mx sl tl (i + 1) σ' → Q .next { s with heap := h', toks := tk }) :
    wpAny (model PySem.Challenge.rw_ix0003_01.row.prog w) (callerA.deeper (envX "law" lawScope L a ccd [("packet", pc)])) (execs else1 (envX "law" lawScope L a ccd [("packet", pc)])) Q E s := by
  have hz1 : (refsOf out).length ≤ 1000 := by
    have := H.hout
    dsimp only at this
    rw [refs_len']; omega
  have hun := H.u1
  have hun2 := H.u2
  have ho : out.length ≤ 1000 := by rw [← refs_len']; exact hz1
  have zc := H.hc
  have zw := H.hw
  have zr := H.hr
  have zb := H.hb
  have zm := H.hmeas
  have zq := H.q3
  have zR := H.ring
  have zT := H.hT
  have zl := H.hlen
  have zs := H.q4
  have zt := H.htl
  dsimp only at zc zw zr zb zm zq zR zT zl zs zt
  rcases Nat.eq_zero_or_pos out.length with ho2 | ho2
  all_goals (have hz2 := ho2; rw [← refs_len'] at hz2)
  all_goals (
    rw [else1_eq]
    refine execs_one ?_
    dsimp only [ifTest, ifPos, lawScope, turnStmts, lawStmts, PySem.Challenge.pw_ix0003_01, nth, fnBody, fnScope, forBody, ifBody, ifElse, else1]
    repeat' (first | (k_unfold; (try dsimp only)) | ((fail_if_success (with_reducible show wpAny _ _ (exec (Stmt.For _ _ _ _ _) _) _ _ _)); (fail_if_success (with_reducible show wpAny _ _ (exec (Stmt.While _ _ _ _) _) _ _ _)); (fail_if_success (with_reducible show wpAny _ _ (pyIter _) _ _ _)); (fail_if_success (with_reducible show wpAny _ _ (call (Value.ref 91) _ _) _ _ _)); (fail_if_success (with_reducible show wpAny _ _ (call (Value.ref 98) _ _) _ _ _)); (fail_if_success (with_reducible show wpAny _ _ (call (Value.ref 105) _ _) _ _ _)); (fail_if_success (with_reducible show wpAny _ _ (call (Value.ref 112) _ _) _ _ _)); (fail_if_success (with_reducible show wpAny _ _ (call (Value.ref 119) _ _) _ _ _)); (fail_if_success (with_reducible show wpAny _ _ (call (Value.ref 126) _ _) _ _ _)); (fail_if_success (with_reducible show wpAny _ _ (call (Value.ref 195) _ _) _ _ _)); (fail_if_success (with_reducible show wpAny _ _ (call (Value.ref 202) _ _) _ _ _)); (fail_if_success (with_reducible show wpAny _ _ (call (Value.ref 177) _ _) _ _ _)); (fail_if_success (with_reducible show wpAny _ _ (execs brSent _) _ _ _)); (fail_if_success (with_reducible show wpAny _ _ (execs brAcked _) _ _ _)); (fail_if_success (with_reducible show wpAny _ _ (execs brLost _) _ _ _)); (fail_if_success (with_reducible show wpAny _ _ (execs brPersist _) _ _ _)); (fail_if_success (with_reducible show wpAny _ _ (execs brRtt _) _ _ _)); (fail_if_success (with_reducible show wpAny _ _ (execs else1 _) _ _ _)); (fail_if_success (with_reducible show wpAny _ _ (execs else2 _) _ _ _)); (fail_if_success (with_reducible show wpAny _ _ (execs else3 _) _ _ _)); (fail_if_success (with_reducible show wpAny _ _ (execs else4 _) _ _ _)); walk1) | (leave1; walk_say "STEP leave1"; try dsimp only) | fail "no step")
    all_goals first
      | ((with_reducible show wpAny _ _ (execs brAcked _) _ _ _); exact br_acked B F X T N D C M hts hxs hpo P hnl nd hR n_pc_ol n_pc_wd n_pc_tl n_pc_cx n_pc_cd n_pc_mx n_pc_md n_pc_sl n_pc_I n_ol_wd n_ol_tl n_ol_cx n_ol_cd n_ol_mx n_ol_md n_ol_sl n_ol_I n_wd_tl n_wd_cx n_wd_cd n_wd_mx n_wd_md n_wd_sl n_wd_I n_tl_cx n_tl_cd n_tl_mx n_tl_md n_tl_sl n_tl_I n_cx_cd n_cx_mx n_cx_md n_cx_sl n_cx_I n_cd_mx n_cd_md n_cd_sl n_cd_I n_mx_md n_mx_sl n_mx_I n_md_sl n_md_I n_sl_I r_pc r_ol r_wd r_tl r_cx r_cd r_mx r_md r_sl r_I ho ho2 (by rw [zc]; dsimp only; omega) (by rw [zc]; dsimp only; omega) (by rw [zc]; exact zr) (by rw [zc]; dsimp only; omega) (by rw [zc]; dsimp only; omega) (by rw [zc]; exact hun2) (by omega) zr (fun p hp => ⟨by have := zl p hp; omega, by have := zl p hp; omega⟩) (fun h' tk m' nx' pk j e1 F' N' o' C' => ret _ _ _ _ _ F' N' o' C' (H.acked (List.mem_of_getElem? e1))))
      | ((with_reducible show wpAny _ _ (execs else2 _) _ _ _); exact tn_else2 B F X T N D C M hts hxs hpo P hnl nd hR n_pc_ol n_pc_wd n_pc_tl n_pc_cx n_pc_cd n_pc_mx n_pc_md n_pc_sl n_pc_I n_ol_wd n_ol_tl n_ol_cx n_ol_cd n_ol_mx n_ol_md n_ol_sl n_ol_I n_wd_tl n_wd_cx n_wd_cd n_wd_mx n_wd_md n_wd_sl n_wd_I n_tl_cx n_tl_cd n_tl_mx n_tl_md n_tl_sl n_tl_I n_cx_cd n_cx_mx n_cx_md n_cx_sl n_cx_I n_cd_mx n_cd_md n_cd_sl n_cd_I n_mx_md n_mx_sl n_mx_I n_md_sl n_md_I n_sl_I r_pc r_ol r_wd r_tl r_cx r_cd r_mx r_md r_sl r_I H hi ret))

set_option maxHeartbeats 8000000 in
theorem tn_if {w : World} {p : Program} {loose : List Str} {mean : ExcName → Option Value} {mg mb : Str → Option Value} {a : Addr} {ccd : Value} {base h₀ : Heap} {L : Addr} {s : Shared} {Q : Flow → Shared → Prop} {E : Value → Shared → Prop}
    {unit kind more pick now trip number : Int} {tu t1 t2 t3 tn tt tm : Tok} {pc ol wd tl cx cd mx md sl nl I : Addr} {po io wo : Obj} {v0 : Option Value} {kvs : List (Str × Value)} {ts xs nvs : List Value} {nk : Nat} {T9 ring : List Int} {nt n nm k no : Nat} {es em : List DictEntry} {v : Wd} {c : Ctl} {q : Mon} {out : List Pk} {R : List (Addr × Obj)} {u : Str → Option Value} {i : Nat}
    (B : Below callerA base [] h₀) (F : Fr h₀ L s.heap (kstB u [("unit", .int unit tu), ("control", .ref cx), ("world", .ref wd), ("out", .ref ol), ("now", .int now tn), ("trip", .int trip tt), ("number", .int number tm), ("numbers", .ref nl), ("kind", .int kind t1), ("more", .int more t2), ("pick", .int pick t3)])) (X : (Mine.hd.heap_1 w.params).In h₀) (T : Top p loose mean mg mb h₀)
    (N : News h₀ L s.heap ((pc, po) :: (ol, listOf (refsOf out).toArray no) :: (wd, wo) :: (tl, listOf ts.toArray nt) :: (cx, instObj 129 cd) :: (cd, dictOf es n) :: (mx, instObj 64 md) :: (md, dictOf em nm) :: (sl, listOf xs.toArray k) :: (I, io) :: R)) (D : WorldD PySem.Challenge.rw_ix0003_01.row.prog w wo v kvs) (C : CtlD es c) (M : MonD em q) (hts : IntsAre ts T9) (hxs : IntsAre xs ring) (hpo : po.data = .cell v0) (P : ∀ p ∈ out, PkIn R p)
    (hnl : (nl, listOf nvs.toArray nk) ∈ R) (nd : [pc, ol, wd, tl, cx, cd, mx, md, sl].Nodup) (hR : ∀ p ∈ R, p.1 ∉ [pc, ol, wd, tl, cx, cd, mx, md, sl])
    (n_pc_ol : pc ≠ ol) (n_pc_wd : pc ≠ wd) (n_pc_tl : pc ≠ tl) (n_pc_cx : pc ≠ cx) (n_pc_cd : pc ≠ cd) (n_pc_mx : pc ≠ mx) (n_pc_md : pc ≠ md) (n_pc_sl : pc ≠ sl) (n_pc_I : pc ≠ I) (n_ol_wd : ol ≠ wd) (n_ol_tl : ol ≠ tl) (n_ol_cx : ol ≠ cx) (n_ol_cd : ol ≠ cd) (n_ol_mx : ol ≠ mx) (n_ol_md : ol ≠ md) (n_ol_sl : ol ≠ sl) (n_ol_I : ol ≠ I) (n_wd_tl : wd ≠ tl) (n_wd_cx : wd ≠ cx) (n_wd_cd : wd ≠ cd) (n_wd_mx : wd ≠ mx) (n_wd_md : wd ≠ md) (n_wd_sl : wd ≠ sl) (n_wd_I : wd ≠ I) (n_tl_cx : tl ≠ cx) (n_tl_cd : tl ≠ cd) (n_tl_mx : tl ≠ mx) (n_tl_md : tl ≠ md) (n_tl_sl : tl ≠ sl) (n_tl_I : tl ≠ I) (n_cx_cd : cx ≠ cd) (n_cx_mx : cx ≠ mx) (n_cx_md : cx ≠ md) (n_cx_sl : cx ≠ sl) (n_cx_I : cx ≠ I) (n_cd_mx : cd ≠ mx) (n_cd_md : cd ≠ md) (n_cd_sl : cd ≠ sl) (n_cd_I : cd ≠ I) (n_mx_md : mx ≠ md) (n_mx_sl : mx ≠ sl) (n_mx_I : mx ≠ I) (n_md_sl : md ≠ sl) (n_md_I : md ≠ I) (n_sl_I : sl ≠ I) (r_pc : ∀ p ∈ R, p.1 ≠ pc) (r_ol : ∀ p ∈ R, p.1 ≠ ol) (r_wd : ∀ p ∈ R, p.1 ≠ wd) (r_tl : ∀ p ∈ R, p.1 ≠ tl) (r_cx : ∀ p ∈ R, p.1 ≠ cx) (r_cd : ∀ p ∈ R, p.1 ≠ cd) (r_mx : ∀ p ∈ R, p.1 ≠ mx) (r_md : ∀ p ∈ R, p.1 ≠ md) (r_sl : ∀ p ∈ R, p.1 ≠ sl) (r_I : ∀ p ∈ R, p.1 ≠ I) (H : Pure unit mx sl tl i ⟨now, trip, number, v, c, q, T9, ring, out⟩) (hi : i < 30)
    (ret : ∀ h' tk m' nx' σ', Fr h₀ L h' m' → News h₀ L h' ((I, io) :: nx') → (∀ p ∈ nx', p.1 ≠ I) → Core w unit pc wd tl cx cd mx md sl nl nvs nk σ' m' nx' → Pure unit mx sl tl (i + 1) σ' → Q .next { s with heap := h', toks := tk }) :
    wpAny (model PySem.Challenge.rw_ix0003_01.row.prog w) (callerA.deeper (envX "law" lawScope L a ccd [("packet", pc)])) (exec st3 (envX "law" lawScope L a ccd [("packet", pc)])) Q E s := by
  have hz1 : (refsOf out).length ≤ 1000 := by
    have := H.hout
    dsimp only at this
    rw [refs_len']; omega
  have hun := H.u1
  have hun2 := H.u2
  have ho : out.length ≤ 1000 := by rw [← refs_len']; exact hz1
  have zc := H.hc
  have zw := H.hw
  have zr := H.hr
  have zb := H.hb
  have zm := H.hmeas
  have zq := H.q3
  have zR := H.ring
  have zT := H.hT
  have zl := H.hlen
  have zs := H.q4
  have zt := H.htl
  dsimp only at zc zw zr zb zm zq zR zT zl zs zt
  rw [st3_eq]
  dsimp only [ifTest, ifPos, lawScope, turnStmts, lawStmts, PySem.Challenge.pw_ix0003_01, nth, fnBody, fnScope, forBody, ifBody, ifElse]
  repeat' (first | (k_unfold; (try dsimp only)) | ((fail_if_success (with_reducible show wpAny _ _ (exec (Stmt.For _ _ _ _ _) _) _ _ _)); (fail_if_success (with_reducible show wpAny _ _ (exec (Stmt.While _ _ _ _) _) _ _ _)); (fail_if_success (with_reducible show wpAny _ _ (pyIter _) _ _ _)); (fail_if_success (with_reducible show wpAny _ _ (call (Value.ref 91) _ _) _ _ _)); (fail_if_success (with_reducible show wpAny _ _ (call (Value.ref 98) _ _) _ _ _)); (fail_if_success (with_reducible show wpAny _ _ (call (Value.ref 105) _ _) _ _ _)); (fail_if_success (with_reducible show wpAny _ _ (call (Value.ref 112) _ _) _ _ _)); (fail_if_success (with_reducible show wpAny _ _ (call (Value.ref 119) _ _) _ _ _)); (fail_if_success (with_reducible show wpAny _ _ (call (Value.ref 126) _ _) _ _ _)); (fail_if_success (with_reducible show wpAny _ _ (call (Value.ref 195) _ _) _ _ _)); (fail_if_success (with_reducible show wpAny _ _ (call (Value.ref 202) _ _) _ _ _)); (fail_if_success (with_reducible show wpAny _ _ (call (Value.ref 177) _ _) _ _ _)); (fail_if_success (with_reducible show wpAny _ _ (execs brSent _) _ _ _)); (fail_if_success (with_reducible show wpAny _ _ (execs brAcked _) _ _ _)); (fail_if_success (with_reducible show wpAny _ _ (execs brLost _) _ _ _)); (fail_if_success (with_reducible show wpAny _ _ (execs brPersist _) _ _ _)); (fail_if_success (with_reducible show wpAny _ _ (execs brRtt _) _ _ _)); (fail_if_success (with_reducible show wpAny _ _ (execs else1 _) _ _ _)); (fail_if_success (with_reducible show wpAny _ _ (execs else2 _) _ _ _)); (fail_if_success (with_reducible show wpAny _ _ (execs else3 _) _ _ _)); (fail_if_success (with_reducible show wpAny _ _ (execs else4 _) _ _ _)); walk1) | (leave1; walk_say "STEP leave1"; try dsimp only) | fail "no step")
  all_goals first
    | ((with_reducible show wpAny _ _ (execs brSent _) _ _ _); exact br_sent B F X T N D C M hts hxs hpo P hnl nd hR n_pc_ol n_pc_wd n_pc_tl n_pc_cx n_pc_cd n_pc_mx n_pc_md n_pc_sl n_pc_I n_ol_wd n_ol_tl n_ol_cx n_ol_cd n_ol_mx n_ol_md n_ol_sl n_ol_I n_wd_tl n_wd_cx n_wd_cd n_wd_mx n_wd_md n_wd_sl n_wd_I n_tl_cx n_tl_cd n_tl_mx n_tl_md n_tl_sl n_tl_I n_cx_cd n_cx_mx n_cx_md n_cx_sl n_cx_I n_cd_mx n_cd_md n_cd_sl n_cd_I n_mx_md n_mx_sl n_mx_I n_md_sl n_md_I n_sl_I r_pc r_ol r_wd r_tl r_cx r_cd r_mx r_md r_sl r_I ho hun hun2 (fun h' tk m' nx' pk' e1 e2 e3 F' N' o' C' => ret _ _ _ _ _ F' N' o' C' (H.sent (by rw [e3]; exact (sent_len hun hun2 _).1) (by rw [e3]; exact (sent_len hun hun2 _).2) e1)))
    | ((with_reducible show wpAny _ _ (execs else1 _) _ _ _); exact tn_else1 B F X T N D C M hts hxs hpo P hnl nd hR n_pc_ol n_pc_wd n_pc_tl n_pc_cx n_pc_cd n_pc_mx n_pc_md n_pc_sl n_pc_I n_ol_wd n_ol_tl n_ol_cx n_ol_cd n_ol_mx n_ol_md n_ol_sl n_ol_I n_wd_tl n_wd_cx n_wd_cd n_wd_mx n_wd_md n_wd_sl n_wd_I n_tl_cx n_tl_cd n_tl_mx n_tl_md n_tl_sl n_tl_I n_cx_cd n_cx_mx n_cx_md n_cx_sl n_cx_I n_cd_mx n_cd_md n_cd_sl n_cd_I n_mx_md n_mx_sl n_mx_I n_md_sl n_md_I n_sl_I r_pc r_ol r_wd r_tl r_cx r_cd r_mx r_md r_sl r_I H hi ret)

end Mine
end PT5

section PT6
namespace Mine
theorem fresh_T6 : True := by
  w_top off
  first | walk1 | exact True.intro
theorem fillT6 (w : World) : Mine.hd.heap_1 w.params = Mine.hd.heap_1 w.params ∧ PySem.Challenge.rw_ix0003_01.row.prog = PySem.Challenge.rw_ix0003_01.row.prog := by
  k_fill
  exact ⟨rfl, rfl⟩

theorem sub2 {h₀ : Heap} {L : Addr} {h : Heap} {a b : Addr × Obj} {l : List (Addr × Obj)} (N : News h₀ L h l) (h1 : a ∈ l) (h2 : b ∈ l) : News h₀ L h [a, b] := newsSub N fun q hq => by
  rcases List.mem_cons.mp hq with rfl | hq
  · exact h1
  · rw [List.mem_singleton.mp hq]; exact h2
theorem t_sum {prog : Program} {w : World} {A : Around} {E : Value → Shared → Prop} {s : Shared} {h₀ : Heap} {L D : Addr} {m : Str → Option Value} {news : List (Addr × Obj)} {vs : List Value} {ns : List Int} {Q : Value → Shared → Prop} (hh : A.handled = none) (F : Fr h₀ L s.heap m) (N : News h₀ L s.heap ((D, LCg.lst vs) :: news)) (hi : IntsAre vs ns)
    (h : ∀ h' tk t', Fr h₀ L h' m → News h₀ L h' ((D, LCg.lst vs) :: news) → Q (.int ns.sum t') { s with heap := h', toks := tk }) : wpAny (model prog w) A (call (.builtin "sum") [.ref D]) Q E s :=
  LSm.sum_ints F N hh ⟨_, (N _ List.mem_cons_self).1, rfl, _, rfl⟩ hi h
theorem ints_snoc {vs : List Value} {ns : List Int} (h : IntsAre vs ns) (x : Int) (t : Tok) : IntsAre (vs ++ [.int x t]) (ns ++ [x]) := by
  induction h with
  | nil => exact .cons x t .nil
  | cons y r _ ih => exact .cons y r ih
local macro_rules | `(tactic| walk_at "getAttr ref") => `(tactic| (k_here; (with_reducible (first | (refine ctl_get_fly (others := []) ‹_› ‹_› (sub2 ‹_› (by walk_at "zz m") (by walk_at "zz m")) ‹_› ?_; intro _) | (refine ctl_get_win (others := []) ‹_› ‹_› (sub2 ‹_› (by walk_at "zz m") (by walk_at "zz m")) ‹_› ?_; intro _) | (refine ctl_get_ss (others := []) ‹_› ‹_› (sub2 ‹_› (by walk_at "zz m") (by walk_at "zz m")) ‹_› ?_; intro _))); try dsimp only [optV]))
local macro_rules | `(tactic| walk_at "call builtin:sum") => `(tactic| (k_here; (with_reducible show wpAny _ _ (call (Value.builtin "sum") [Value.ref _]) _ _ _); (refine t_sum rfl ‹_› ‹_› ‹_› ?_); intro h9 tk9 t9 F9 N9))

set_option maxHeartbeats 8000000 in
theorem tn_fly {w : World} {p : Program} {loose : List Str} {mean : ExcName → Option Value} {mg mb : Str → Option Value} {a : Addr} {ccd : Value} {base h₀ : Heap} {L : Addr} {s : Shared} {Q : Flow → Shared → Prop} {E : Value → Shared → Prop}
    {unit now trip number : Int} {tu tn tt tm : Tok} {pc ol wd cx cd nl : Addr} {wo : Obj} {kvs : List (Str × Value)} {no n : Nat} {es : List DictEntry} {v : Wd} {c : Ctl} {out : List Pk} {R : List (Addr × Obj)} {u : Str → Option Value} {news : List (Addr × Obj)}
    (B : Below callerA base [] h₀) (X : (Mine.hd.heap_1 w.params).In h₀) (T : Top p loose mean mg mb h₀) (F : Fr h₀ L s.heap (kstB u [("unit", .int unit tu), ("control", .ref cx), ("world", .ref wd), ("out", .ref ol), ("now", .int now tn), ("trip", .int trip tt), ("number", .int number tm), ("numbers", .ref nl)])) (N : News h₀ L s.heap news) (g1 : (cx, instObj 129 cd) ∈ news) (g2 : (cd, dictOf es n) ∈ news) (g3 : (ol, listOf (refsOf out).toArray no) ∈ news) (g4 : (wd, wo) ∈ news) (D : WorldD PySem.Challenge.rw_ix0003_01.row.prog w wo v kvs) (C : CtlD es c) (P : ∀ p ∈ out, PkIn news p) (ho : out.length ≤ 1000) (hf : c.fly = lensOf out)
    (ret : ∀ h' tk, Fr h₀ L h' (kstB u [("unit", .int unit tu), ("control", .ref cx), ("world", .ref wd), ("out", .ref ol), ("now", .int now tn), ("trip", .int trip tt), ("number", .int number tm), ("numbers", .ref nl)]) → News h₀ L h' news → Q .next { s with heap := h', toks := tk }) :
    wpAny (model PySem.Challenge.rw_ix0003_01.row.prog w) (callerA.deeper (envX "law" lawScope L a ccd [("packet", pc)])) (exec st4 (envX "law" lawScope L a ccd [("packet", pc)])) Q E s := by
  dsimp only [lawScope, brSent, brAcked, brLost, brPersist, brRtt, else1, else2, else3, else4, turnStmts, lawStmts, PySem.Challenge.pw_ix0003_01, nth, fnBody, fnScope, forBody, ifBody, ifElse, st4, st5, oneOf]
  repeat' (first | (k_unfold; (try dsimp only)) | ((fail_if_success (with_reducible show wpAny _ _ (exec (Stmt.For _ _ _ _ _) _) _ _ _)); (fail_if_success (with_reducible show wpAny _ _ (exec (Stmt.While _ _ _ _) _) _ _ _)); (fail_if_success (with_reducible show wpAny _ _ (pyIter _) _ _ _)); (fail_if_success (with_reducible show wpAny _ _ (call (Value.ref 91) _ _) _ _ _)); (fail_if_success (with_reducible show wpAny _ _ (call (Value.ref 98) _ _) _ _ _)); (fail_if_success (with_reducible show wpAny _ _ (call (Value.ref 105) _ _) _ _ _)); (fail_if_success (with_reducible show wpAny _ _ (call (Value.ref 112) _ _) _ _ _)); (fail_if_success (with_reducible show wpAny _ _ (call (Value.ref 119) _ _) _ _ _)); (fail_if_success (with_reducible show wpAny _ _ (call (Value.ref 126) _ _) _ _ _)); (fail_if_success (with_reducible show wpAny _ _ (call (Value.ref 195) _ _) _ _ _)); (fail_if_success (with_reducible show wpAny _ _ (call (Value.ref 202) _ _) _ _ _)); (fail_if_success (with_reducible show wpAny _ _ (call (Value.ref 177) _ _) _ _ _)); (fail_if_success (with_reducible show wpAny _ _ (exec (Stmt.Assign _ (PySem.Expr.ListComp _ _ _ _) _) _) _ _ _)); (fail_if_success (with_reducible show wpAny _ _ (eval (PySem.Expr.ListComp _ _ _ _) _) _ _ _)); walk1) | (leave1; walk_say "STEP leave1"; try dsimp only) | fail "no step")
  k_dflt (refine LCg.ListComp_U (F₀ := F) (by with_unfolding_all rfl) (by decide) (by rfl) (by decide) (by rfl) ?_)
  walk1
  k_dflt (refine LCg.CompSrc.ledger (by rfl) F N g3 (by rw [List.size_toArray, refs_len, sizeLine_eq]; omega) ?_)
  intro g
  refine compU_all (fun i ys => IntsAre ys ((out.take i).map (·.len))) .nil (.inr ⟨_, g3, rfl, _, rfl⟩) ?step ?fin
  case step =>
    intro i v2 I2 oI C2 oC D2 m₂ ys h2 tk2 E2 hi hv hJ hC hx F2 N2 off2
    obtain ⟨po2, hpo2, rfl⟩ := refs_at (out := out) (by simpa using hv)
    have Po2 := P po2 (List.mem_of_getElem? hpo2)
    repeat' (first | (k_unfold; (try dsimp only)) | ((fail_if_success (with_reducible show wpAny _ _ (exec (Stmt.For _ _ _ _ _) _) _ _ _)); (fail_if_success (with_reducible show wpAny _ _ (exec (Stmt.While _ _ _ _) _) _ _ _)); (fail_if_success (with_reducible show wpAny _ _ (pyIter _) _ _ _)); (fail_if_success (with_reducible show wpAny _ _ (call (Value.ref 91) _ _) _ _ _)); (fail_if_success (with_reducible show wpAny _ _ (call (Value.ref 98) _ _) _ _ _)); (fail_if_success (with_reducible show wpAny _ _ (call (Value.ref 105) _ _) _ _ _)); (fail_if_success (with_reducible show wpAny _ _ (call (Value.ref 112) _ _) _ _ _)); (fail_if_success (with_reducible show wpAny _ _ (call (Value.ref 119) _ _) _ _ _)); (fail_if_success (with_reducible show wpAny _ _ (call (Value.ref 126) _ _) _ _ _)); (fail_if_success (with_reducible show wpAny _ _ (call (Value.ref 195) _ _) _ _ _)); (fail_if_success (with_reducible show wpAny _ _ (call (Value.ref 202) _ _) _ _ _)); (fail_if_success (with_reducible show wpAny _ _ (call (Value.ref 177) _ _) _ _ _)); (fail_if_success (with_reducible show wpAny _ _ (subscriptTail _ _ (Value.ref _) (Value.int _ _)) _ _ _)); (fail_if_success (with_reducible show wpAny _ _ (exec (Stmt.Assign _ (PySem.Expr.ListComp _ _ _ _) _) _) _ _ _)); (fail_if_success (with_reducible show wpAny _ _ (eval (PySem.Expr.ListComp _ _ _ _) _) _ _ _)); walk1) | (leave1; walk_say "STEP leave1"; try dsimp only) | fail "no step")
    refine LCg.CompEnd.intro (by assumption) (by assumption) _ (fun p9 hp9 => hp9) off2 rfl ?_
    rw [take_snoc hpo2, List.map_append]
    exact ints_snoc hJ _ _
  case fin =>
    intro ys hys
    unfold LCg.FinE
    intro D9 h9 tk9 F9 N9 o9
    rw [show out.take (refsOf out).toArray.size = out by simp [refsOf]] at hys
    repeat' (first | (k_unfold; (try dsimp only)) | ((fail_if_success (with_reducible show wpAny _ _ (exec (Stmt.For _ _ _ _ _) _) _ _ _)); (fail_if_success (with_reducible show wpAny _ _ (exec (Stmt.While _ _ _ _) _) _ _ _)); (fail_if_success (with_reducible show wpAny _ _ (pyIter _) _ _ _)); (fail_if_success (with_reducible show wpAny _ _ (call (Value.ref 91) _ _) _ _ _)); (fail_if_success (with_reducible show wpAny _ _ (call (Value.ref 98) _ _) _ _ _)); (fail_if_success (with_reducible show wpAny _ _ (call (Value.ref 105) _ _) _ _ _)); (fail_if_success (with_reducible show wpAny _ _ (call (Value.ref 112) _ _) _ _ _)); (fail_if_success (with_reducible show wpAny _ _ (call (Value.ref 119) _ _) _ _ _)); (fail_if_success (with_reducible show wpAny _ _ (call (Value.ref 126) _ _) _ _ _)); (fail_if_success (with_reducible show wpAny _ _ (call (Value.ref 195) _ _) _ _ _)); (fail_if_success (with_reducible show wpAny _ _ (call (Value.ref 202) _ _) _ _ _)); (fail_if_success (with_reducible show wpAny _ _ (call (Value.ref 177) _ _) _ _ _)); walk1) | (leave1; walk_say "STEP leave1"; try dsimp only) | fail "no step")
    all_goals first
      | exact ret _ _ (by assumption) (newsSub (by assumption) (fun q hq => List.mem_cons_of_mem _ hq))
      | (exfalso; unfold lensOf at hf; omega)
set_option maxHeartbeats 8000000 in
theorem tn_win {w : World} {p : Program} {loose : List Str} {mean : ExcName → Option Value} {mg mb : Str → Option Value} {a : Addr} {ccd : Value} {base h₀ : Heap} {L : Addr} {s : Shared} {Q : Flow → Shared → Prop} {E : Value → Shared → Prop}
    {unit now trip number : Int} {tu tn tt tm : Tok} {pc ol wd cx cd nl : Addr} {wo : Obj} {kvs : List (Str × Value)} {no n : Nat} {es : List DictEntry} {v : Wd} {c : Ctl} {out : List Pk} {R : List (Addr × Obj)} {u : Str → Option Value} {news : List (Addr × Obj)}
    (B : Below callerA base [] h₀) (X : (Mine.hd.heap_1 w.params).In h₀) (T : Top p loose mean mg mb h₀) (F : Fr h₀ L s.heap (kstB u [("unit", .int unit tu), ("control", .ref cx), ("world", .ref wd), ("out", .ref ol), ("now", .int now tn), ("trip", .int trip tt), ("number", .int number tm), ("numbers", .ref nl)])) (N : News h₀ L s.heap news) (g1 : (cx, instObj 129 cd) ∈ news) (g2 : (cd, dictOf es n) ∈ news) (g3 : (ol, listOf (refsOf out).toArray no) ∈ news) (g4 : (wd, wo) ∈ news) (D : WorldD PySem.Challenge.rw_ix0003_01.row.prog w wo v kvs) (C : CtlD es c) (P : ∀ p ∈ out, PkIn news p) (ho : out.length ≤ 1000) (hw : c.win = v.win) (hs : c.ss = v.thr)
    (ret : ∀ h' tk, Fr h₀ L h' (kstB u [("unit", .int unit tu), ("control", .ref cx), ("world", .ref wd), ("out", .ref ol), ("now", .int now tn), ("trip", .int trip tt), ("number", .int number tm), ("numbers", .ref nl)]) → News h₀ L h' news → Q .next { s with heap := h', toks := tk }) :
    wpAny (model PySem.Challenge.rw_ix0003_01.row.prog w) (callerA.deeper (envX "law" lawScope L a ccd [("packet", pc)])) (exec st5 (envX "law" lawScope L a ccd [("packet", pc)])) Q E s := by
  obtain ⟨unit', rcv, stash, mx', win, fly, ss⟩ := c
  obtain ⟨vwin, thr, vrcv, rest, meas, tl, floor, times⟩ := v
  dsimp only at hw hs
  subst hw hs
  rcases ss with _ | th
  all_goals dsimp only [lawScope, brSent, brAcked, brLost, brPersist, brRtt, else1, else2, else3, else4, turnStmts, lawStmts, PySem.Challenge.pw_ix0003_01, nth, fnBody, fnScope, forBody, ifBody, ifElse, st4, st5, oneOf]
  all_goals (
    repeat' (first | (k_unfold; (try dsimp only)) | ((fail_if_success (with_reducible show wpAny _ _ (exec (Stmt.For _ _ _ _ _) _) _ _ _)); (fail_if_success (with_reducible show wpAny _ _ (exec (Stmt.While _ _ _ _) _) _ _ _)); (fail_if_success (with_reducible show wpAny _ _ (pyIter _) _ _ _)); (fail_if_success (with_reducible show wpAny _ _ (call (Value.ref 91) _ _) _ _ _)); (fail_if_success (with_reducible show wpAny _ _ (call (Value.ref 98) _ _) _ _ _)); (fail_if_success (with_reducible show wpAny _ _ (call (Value.ref 105) _ _) _ _ _)); (fail_if_success (with_reducible show wpAny _ _ (call (Value.ref 112) _ _) _ _ _)); (fail_if_success (with_reducible show wpAny _ _ (call (Value.ref 119) _ _) _ _ _)); (fail_if_success (with_reducible show wpAny _ _ (call (Value.ref 126) _ _) _ _ _)); (fail_if_success (with_reducible show wpAny _ _ (call (Value.ref 195) _ _) _ _ _)); (fail_if_success (with_reducible show wpAny _ _ (call (Value.ref 202) _ _) _ _ _)); (fail_if_success (with_reducible show wpAny _ _ (call (Value.ref 177) _ _) _ _ _)); walk1) | (leave1; walk_say "STEP leave1"; try dsimp only) | fail "no step"))
  all_goals first
    | exact ret _ _ F N
    | (exfalso; omega)
    | (exfalso; simp_all)
end Mine
end PT6

section PT7
namespace Mine
theorem fresh_T7 : True := by
  w_top off
  first | walk1 | exact True.intro
theorem fillT7 (w : World) : Mine.hd.heap_1 w.params = Mine.hd.heap_1 w.params ∧ PySem.Challenge.rw_ix0003_01.row.prog = PySem.Challenge.rw_ix0003_01.row.prog := by
  k_fill
  exact ⟨rfl, rfl⟩

theorem tn_turn {w : World} {p : Program} {loose : List Str} {mean : ExcName → Option Value} {mg mb : Str → Option Value} {a : Addr} {ccd : Value} {base h₀ : Heap} {L : Addr} {s : Shared} {Q : Flow → Shared → Prop} {E : Value → Shared → Prop}
    {unit at_ : Int} {ta : Tok} {pc wd tl cx cd mx md sl nl I : Addr} {io : Obj} {nvs : List Value} {ks : List Int} {nk : Nat} {σ : Sg} {m : Str → Option Value} {nx : List (Addr × Obj)} {i : Nat}
    (B : Below callerA base [] h₀) (X : (Mine.hd.heap_1 w.params).In h₀) (T : Top p loose mean mg mb h₀)
    (F : Fr h₀ L s.heap (fun y => if y = "at" then some (.int at_ ta) else m y)) (N : News h₀ L s.heap ((I, io) :: nx)) (hI : ∀ p ∈ nx, p.1 ≠ I)
    (K : Core w unit pc wd tl cx cd mx md sl nl nvs nk σ m nx) (H : Pure unit mx sl tl i σ) (hi : i < 30)
    (hv : IntsAre nvs ks) (h0 : 0 ≤ at_) (h1 : at_ < (nvs.length : Int)) (hz : nvs.length ≤ 1000)
    (ret : ∀ h' tk m' nx' σ', Fr h₀ L h' m' → News h₀ L h' ((I, io) :: nx') → (∀ p ∈ nx', p.1 ≠ I) → Core w unit pc wd tl cx cd mx md sl nl nvs nk σ' m' nx' → Pure unit mx sl tl (i + 1) σ' → Q .next { s with heap := h', toks := tk }) :
    wpAny (model PySem.Challenge.rw_ix0003_01.row.prog w) (callerA.deeper (envX "law" lawScope L a ccd [("packet", pc)])) (execs turnStmts (envX "law" lawScope L a ccd [("packet", pc)])) Q E s := by
  rw [turn_eq]
  obtain @⟨ol, po, wo, v0, kvs, ts, xs, nt, n, nm, k, no, es, em, R, rfl, ⟨tu, nU⟩, nC, nW, nO, ⟨tn, nN⟩, ⟨tt, nT⟩, ⟨tm, nM⟩, nB, D, C, M, hts, hxs, hpo, P, hnl, nd, hR⟩ := K
  have F0 : Fr h₀ L s.heap (fun y => if y = "at" then some (.int at_ ta) else kstB m [("unit", .int unit tu), ("control", .ref cx), ("world", .ref wd), ("out", .ref ol), ("now", .int σ.now tn), ("trip", .int σ.trip tt), ("number", .int σ.number tm), ("numbers", .ref nl)] y) := pin_frx [("unit", .int unit tu), ("control", .ref cx), ("world", .ref wd), ("out", .ref ol), ("now", .int σ.now tn), ("trip", .int σ.trip tt), ("number", .int σ.number tm), ("numbers", .ref nl)] (NamesAre.all ⟨nU, nC, nW, nO, nN, nT, nM, nB, trivial⟩) F
  refine wpAny_execs_cons (tn_kind B X T F0 N (by repeat (first | exact hnl | refine List.mem_cons_of_mem _ ?_)) hv h0 h1 hz fun h1' tk1 m1 kind more t1 t2 F1 N1 => ?_)
  refine wpAny_execs_cons (tn_where B X T F1 N1 (by repeat (first | exact hnl | refine List.mem_cons_of_mem _ ?_)) hv h0 h1 hz fun h2' tk2 m2 y t3 F2 N2 => ?_)
  refine wpAny_execs_cons (tn_step (at_ := at_) (ta := ta) (nvs := nvs) (nk := nk) (ks := ks) B X T F2 N2 fun h3' tk3 m3 d pick t4 tn' hd F3 N3 => ?_)
  have nd9 := nd
  simp only [List.nodup_cons, List.mem_cons, List.not_mem_nil, or_false, not_or, not_false_eq_true, and_true, List.nodup_nil] at nd9
  obtain ⟨⟨n_pc_ol, n_pc_wd, n_pc_tl, n_pc_cx, n_pc_cd, n_pc_mx, n_pc_md, n_pc_sl⟩, ⟨n_ol_wd, n_ol_tl, n_ol_cx, n_ol_cd, n_ol_mx, n_ol_md, n_ol_sl⟩, ⟨n_wd_tl, n_wd_cx, n_wd_cd, n_wd_mx, n_wd_md, n_wd_sl⟩, ⟨n_tl_cx, n_tl_cd, n_tl_mx, n_tl_md, n_tl_sl⟩, ⟨n_cx_cd, n_cx_mx, n_cx_md, n_cx_sl⟩, ⟨n_cd_mx, n_cd_md, n_cd_sl⟩, ⟨n_mx_md, n_mx_sl⟩, n_md_sl⟩ := nd9
  have n_pc_I : pc ≠ I := hI (pc, po) (by exact List.mem_cons_self)
  have r_pc : ∀ p ∈ R, p.1 ≠ pc := fun p hp e => hR p hp (by rw [e]; simp)
  have n_ol_I : ol ≠ I := hI (ol, listOf (refsOf σ.out).toArray no) (by refine List.mem_cons_of_mem _ ?_; exact List.mem_cons_self)
  have r_ol : ∀ p ∈ R, p.1 ≠ ol := fun p hp e => hR p hp (by rw [e]; simp)
  have n_wd_I : wd ≠ I := hI (wd, wo) (by refine List.mem_cons_of_mem _ ?_; refine List.mem_cons_of_mem _ ?_; exact List.mem_cons_self)
  have r_wd : ∀ p ∈ R, p.1 ≠ wd := fun p hp e => hR p hp (by rw [e]; simp)
  have n_tl_I : tl ≠ I := hI (tl, listOf ts.toArray nt) (by refine List.mem_cons_of_mem _ ?_; refine List.mem_cons_of_mem _ ?_; refine List.mem_cons_of_mem _ ?_; exact List.mem_cons_self)
  have r_tl : ∀ p ∈ R, p.1 ≠ tl := fun p hp e => hR p hp (by rw [e]; simp)
  have n_cx_I : cx ≠ I := hI (cx, instObj 129 cd) (by refine List.mem_cons_of_mem _ ?_; refine List.mem_cons_of_mem _ ?_; refine List.mem_cons_of_mem _ ?_; refine List.mem_cons_of_mem _ ?_; exact List.mem_cons_self)
  have r_cx : ∀ p ∈ R, p.1 ≠ cx := fun p hp e => hR p hp (by rw [e]; simp)
  have n_cd_I : cd ≠ I := hI (cd, dictOf es n) (by refine List.mem_cons_of_mem _ ?_; refine List.mem_cons_of_mem _ ?_; refine List.mem_cons_of_mem _ ?_; refine List.mem_cons_of_mem _ ?_; refine List.mem_cons_of_mem _ ?_; exact List.mem_cons_self)
  have r_cd : ∀ p ∈ R, p.1 ≠ cd := fun p hp e => hR p hp (by rw [e]; simp)
  have n_mx_I : mx ≠ I := hI (mx, instObj 64 md) (by refine List.mem_cons_of_mem _ ?_; refine List.mem_cons_of_mem _ ?_; refine List.mem_cons_of_mem _ ?_; refine List.mem_cons_of_mem _ ?_; refine List.mem_cons_of_mem _ ?_; refine List.mem_cons_of_mem _ ?_; exact List.mem_cons_self)
  have r_mx : ∀ p ∈ R, p.1 ≠ mx := fun p hp e => hR p hp (by rw [e]; simp)
  have n_md_I : md ≠ I := hI (md, dictOf em nm) (by refine List.mem_cons_of_mem _ ?_; refine List.mem_cons_of_mem _ ?_; refine List.mem_cons_of_mem _ ?_; refine List.mem_cons_of_mem _ ?_; refine List.mem_cons_of_mem _ ?_; refine List.mem_cons_of_mem _ ?_; refine List.mem_cons_of_mem _ ?_; exact List.mem_cons_self)
  have r_md : ∀ p ∈ R, p.1 ≠ md := fun p hp e => hR p hp (by rw [e]; simp)
  have n_sl_I : sl ≠ I := hI (sl, listOf xs.toArray k) (by refine List.mem_cons_of_mem _ ?_; refine List.mem_cons_of_mem _ ?_; refine List.mem_cons_of_mem _ ?_; refine List.mem_cons_of_mem _ ?_; refine List.mem_cons_of_mem _ ?_; refine List.mem_cons_of_mem _ ?_; refine List.mem_cons_of_mem _ ?_; refine List.mem_cons_of_mem _ ?_; exact List.mem_cons_self)
  have r_sl : ∀ p ∈ R, p.1 ≠ sl := fun p hp e => hR p hp (by rw [e]; simp)
  have r_I : ∀ p ∈ R, p.1 ≠ I := fun p hp => hI p (by repeat (first | exact hp | refine List.mem_cons_of_mem _ ?_))
  obtain ⟨now, trip, number, v, c, q, T9, ring, out⟩ := σ
  dsimp only at *
  have N3' : News h₀ L h3' ((pc, po) :: (ol, listOf (refsOf out).toArray no) :: (wd, wo) :: (tl, listOf ts.toArray nt) :: (cx, instObj 129 cd) :: (cd, dictOf es n) :: (mx, instObj 64 md) :: (md, dictOf em nm) :: (sl, listOf xs.toArray k) :: (I, io) :: R) := newsSub N3 (by
      (repeat (refine sub_cons (by repeat (first | exact List.mem_cons_self | refine List.mem_cons_of_mem _ ?_)) ?_))
      intro q9 hq9
      repeat (first | exact hq9 | refine List.mem_cons_of_mem _ ?_))
  have F3' := pin2 (ps := [("unit", .int unit tu), ("control", .ref cx), ("world", .ref wd), ("out", .ref ol), ("now", .int (now + d) tn'), ("trip", .int trip tt), ("number", .int number tm), ("numbers", .ref nl), ("kind", .int kind t1), ("more", .int more t2), ("pick", .int pick t4)]) F3 ⟨rfl, rfl, rfl, rfl, rfl, rfl, rfl, rfl, rfl, rfl, rfl, trivial⟩
  refine wpAny_execs_cons (tn_if B F3' X T N3' D C M hts hxs hpo P hnl nd hR n_pc_ol n_pc_wd n_pc_tl n_pc_cx n_pc_cd n_pc_mx n_pc_md n_pc_sl n_pc_I n_ol_wd n_ol_tl n_ol_cx n_ol_cd n_ol_mx n_ol_md n_ol_sl n_ol_I n_wd_tl n_wd_cx n_wd_cd n_wd_mx n_wd_md n_wd_sl n_wd_I n_tl_cx n_tl_cd n_tl_mx n_tl_md n_tl_sl n_tl_I n_cx_cd n_cx_mx n_cx_md n_cx_sl n_cx_I n_cd_mx n_cd_md n_cd_sl n_cd_I n_mx_md n_mx_sl n_mx_I n_md_sl n_md_I n_sl_I r_pc r_ol r_wd r_tl r_cx r_cd r_mx r_md r_sl r_I (H.tick hd) hi fun h4' tk4 m4 nx4 σ4 F4 N4 o4 K4 H4 => ?_)
  have K4c := K4
  clear nd nU nC nW nO nN nT nM nB D C M hts hxs hpo P hR
  obtain @⟨ol4, po4, wo4, v04, kvs4, ts4, xs4, nt4, n4, nm4, k4, no4, es4, em4, R4, hnx4, ⟨tu4, mU⟩, mC, mW, mO, ⟨tn4, mN⟩, ⟨tt4, mT⟩, ⟨tm4, mM⟩, mB, D4, C4, M4, hts4, hxs4, hpo4, P4, hnl4, nd4, hR4⟩ := K4c
  subst hnx4
  have ps4 : NamesAre m4 [("unit", .int unit tu4), ("control", .ref cx), ("world", .ref wd), ("out", .ref ol4), ("now", .int σ4.now tn4), ("trip", .int σ4.trip tt4), ("number", .int σ4.number tm4), ("numbers", .ref nl)] := ⟨mU, mC, mW, mO, mN, mT, mM, mB, trivial⟩
  have e4 : kstB m4 [("unit", .int unit tu4), ("control", .ref cx), ("world", .ref wd), ("out", .ref ol4), ("now", .int σ4.now tn4), ("trip", .int σ4.trip tt4), ("number", .int σ4.number tm4), ("numbers", .ref nl)] = m4 := by
    funext y
    exact kstB_eq ps4.all fun _ => rfl
  have hl4 := H4.hout
  have hc4 := H4.hc
  have P4' : ∀ p ∈ σ4.out, PkIn ((I, io) :: (pc, po4) :: (ol4, listOf (refsOf σ4.out).toArray no4) :: (wd, wo4) :: (tl, listOf ts4.toArray nt4) :: (cx, instObj 129 cd) :: (cd, dictOf es4 n4) :: (mx, instObj 64 md) :: (md, dictOf em4 nm4) :: (sl, listOf xs4.toArray k4) :: R4) p := fun p hp => PkIn.mono (P4 p hp) (by intro q9 hq9; repeat (first | exact hq9 | refine List.mem_cons_of_mem _ ?_))
  refine wpAny_execs_cons (tn_fly (R := []) B X T (pin2 F4 ps4) N4 (by repeat (first | exact List.mem_cons_self | refine List.mem_cons_of_mem _ ?_)) (by repeat (first | exact List.mem_cons_self | refine List.mem_cons_of_mem _ ?_)) (by repeat (first | exact List.mem_cons_self | refine List.mem_cons_of_mem _ ?_)) (by repeat (first | exact List.mem_cons_self | refine List.mem_cons_of_mem _ ?_)) D4 C4 P4' (by omega) (by rw [hc4]) fun h5 tk5 F5 N5 => ?_)
  refine wpAny_execs_cons (tn_win (R := []) B X T F5 N5 (by repeat (first | exact List.mem_cons_self | refine List.mem_cons_of_mem _ ?_)) (by repeat (first | exact List.mem_cons_self | refine List.mem_cons_of_mem _ ?_)) (by repeat (first | exact List.mem_cons_self | refine List.mem_cons_of_mem _ ?_)) (by repeat (first | exact List.mem_cons_self | refine List.mem_cons_of_mem _ ?_)) D4 C4 P4' (by omega) (by rw [hc4]) (by rw [hc4]) fun h6 tk6 F6 N6 => ?_)
  refine wpAny_execs_nil ?_
  rw [e4] at F6
  exact ret _ _ _ _ _ F6 N6 o4 K4 H4
end Mine
end PT7

end Big

section PC10
namespace Mine
theorem fresh_C10 : True := by
  w_top off
  first | walk1 | exact True.intro
theorem fillC10 (w : World) : Mine.hd.heap_1 w.params = Mine.hd.heap_1 w.params ∧ PySem.Challenge.rw_ix0003_01.row.prog = PySem.Challenge.rw_ix0003_01.row.prog := by
  k_fill
  exact ⟨rfl, rfl⟩
local macro_rules | `(tactic| k_all) => `(tactic| assumption)
local macro_rules | `(tactic| walk_at "CompEnd") => `(tactic| (refine' LCg.CompEnd.intro ?F ?N _ (fun _ hp => hp) ?o ?s ?_; (case F => assumption); (case N => assumption); (case o => assumption); (case s => lcg_src)))

theorem off1_all {D : Addr} : ∀ {l : List (Addr × Obj)}, LCg.Off1 D l → ∀ p ∈ l, p.1 ≠ D
  | [], _, _, h => nomatch h
  | _ :: _, x, p, h => by
    rcases List.mem_cons.mp h with rfl | h
    · exact x.1
    · exact off1_all x.2 p h
set_option maxHeartbeats 8000000 in
theorem c_mkmon {w : World} {p : Program} {loose : List Str} {mean : ExcName → Option Value} {mg mb : Str → Option Value} {dp un : Nat} {gd : Option (List Code)} {cn : Str} {cs : Scope} {a : Addr} {ccd : Value} {cl : List (Str × Addr)} {outer : List Env} {A₀ : Around} {base h₀ : Heap} {L : Addr} {m : Str → Option Value} {s : Shared} {Q E : Value → Shared → Prop} {news : List (Addr × Obj)}
    (B : Below A₀ base outer h₀) (F : Fr h₀ L s.heap m) (X : (Mine.hd.heap_1 w.params).In h₀) (T : Top p loose mean mg mb h₀) (hk : cs.kind = .function)
    (N : News h₀ L s.heap news)
    (hd : dp + 5 < recursionLimit) (hu : un + 40 < cLine)
    (ret : ∀ h' tk mx md sl em nm ys kk ring, Fr h₀ L h' m → News h₀ L h' ((sl, listOf ys.toArray kk) :: (mx, instObj 64 md) :: (md, dictOf em nm) :: news) → MonD em ⟨0, false, none, 0, none, none, 0, sl⟩ → IntsAre ys ring → ring.length = 5 → (∀ q ∈ news, q.1 < md) → md < mx → mx ≠ sl → md ≠ sl → (∀ q ∈ news, q.1 ≠ sl) → Q (.ref mx) { s with heap := h', toks := tk }) :
    wpAny (model PySem.Challenge.rw_ix0003_01.row.prog w) (ktrTop dp un gd cn cs L a ccd cl outer) (call (.ref 64) []) Q E s := by
  refine call_cls F X N (by k_dflt k_is) (by k_dflt k_is) (by k_dflt k_is) ?_
  intro x2 x3 h2 F2 N2 l1 l2
  have l3 := l2
  k_lt2 l2
  have hoff : ∀ p ∈ news, p.1 ≠ x3 := fun p hp => Nat.ne_of_lt (l1 p hp)
  k_dflt ktr_enter
  repeat' (first | (k_unfold; (try dsimp only)) | ((fail_if_success (with_reducible show wpAny _ _ (exec (Stmt.For _ _ _ _ _) _) _ _ _)); (fail_if_success (with_reducible show wpAny _ _ (exec (Stmt.While _ _ _ _) _) _ _ _)); (fail_if_success (with_reducible show wpAny _ _ (pyIter _) _ _ _)); walk1) | (leave1; walk_say "STEP leave1"; try dsimp only) | fail "no step")
  (rename Fr h₀ _ _ _ => lF)
  (rename News h₀ _ _ _ => lN)
  (rename _ ∧ _ ∧ LCg.Off1 _ _ => lO)
  refine ret _ _ _ _ _ _ _ _ _ _ lF lN ?_ (.cons 0 _ (.cons 0 _ (.cons 0 _ (.cons 0 _ (.cons 0 _ .nil))))) rfl l1 l3 lO.1 lO.2.1 (off1_all lO.2.2)
  exact ⟨Nat.le_of_ble_eq_true rfl, ⟨_, rfl⟩, rfl, ⟨_, rfl⟩, ⟨0, rfl⟩, ⟨_, rfl⟩, ⟨0, rfl⟩, ⟨0, rfl⟩, ⟨_, rfl⟩, rfl, rfl, rfl⟩
end Mine
end PC10

section PC11
namespace Mine
theorem fresh_C11 : True := by
  w_top off
  first | walk1 | exact True.intro
theorem fillC11 (w : World) : Mine.hd.heap_1 w.params = Mine.hd.heap_1 w.params ∧ PySem.Challenge.rw_ix0003_01.row.prog = PySem.Challenge.rw_ix0003_01.row.prog := by
  k_fill
  exact ⟨rfl, rfl⟩
local macro_rules | `(tactic| walk_at "wpAt") => `(tactic| (ks_step "eval Call"; refine Mine.at_MethodCallKW ?_))
local macro_rules | `(tactic| walk_at "callWith ref") => `(tactic| (k_here; k_dflt (refine' Mine.callWith_MKW0' ?k1 ?k2 ?k3 ?k4 ?k5 ?_; (case k1 => k_asm); (case k2 => k_asm); (case k3 => k_mem); (case k4 => k_is); (case k5 => exact rfl); k_whole)))

theorem split4 {q o x c md : Addr} {oq oo ox oc : Obj} {r : List (Addr × Obj)} (h : ∀ p ∈ (q, oq) :: (o, oo) :: (x, ox) :: (c, oc) :: r, p.1 < md) : x < md ∧ c < md ∧ ∀ p ∈ r, p.1 < md :=
  ⟨h _ (.tail _ (.tail _ (.head _))), h _ (.tail _ (.tail _ (.tail _ (.head _)))), fun p hp => h p (.tail _ (.tail _ (.tail _ (.tail _ hp))))⟩
theorem split4n {q o x c sl : Addr} {oq oo ox oc : Obj} {r : List (Addr × Obj)} (h : ∀ p ∈ (q, oq) :: (o, oo) :: (x, ox) :: (c, oc) :: r, p.1 ≠ sl) : x ≠ sl ∧ c ≠ sl ∧ ∀ p ∈ r, p.1 ≠ sl :=
  ⟨h _ (.tail _ (.tail _ (.head _))), h _ (.tail _ (.tail _ (.tail _ (.head _)))), fun p hp => h p (.tail _ (.tail _ (.tail _ (.tail _ hp))))⟩
theorem news_ctl {h₀ : Heap} {L : Addr} {h : Heap} {s m d q o x c : Addr × Obj} {r : List (Addr × Obj)} (N : News h₀ L h (s :: m :: d :: q :: o :: x :: c :: r)) : News h₀ L h (x :: c :: s :: m :: d :: r) := by
  intro p hp
  refine N p ?_
  rcases List.mem_cons.mp hp with rfl | hp
  · exact .tail _ (.tail _ (.tail _ (.tail _ (.tail _ (.head _)))))
  rcases List.mem_cons.mp hp with rfl | hp
  · exact .tail _ (.tail _ (.tail _ (.tail _ (.tail _ (.tail _ (.head _))))))
  rcases List.mem_cons.mp hp with rfl | hp
  · exact .head _
  rcases List.mem_cons.mp hp with rfl | hp
  · exact .tail _ (.head _)
  rcases List.mem_cons.mp hp with rfl | hp
  · exact .tail _ (.tail _ (.head _))
  exact .tail _ (.tail _ (.tail _ (.tail _ (.tail _ (.tail _ (.tail _ hp))))))
theorem off_ctl {sl mx md cx cd : Addr} {o1 o2 o3 o4 : Obj} {r : List (Addr × Obj)} (h1 : mx ≠ sl) (h2 : md ≠ sl) (h3 : cx ≠ sl) (h4 : cd ≠ sl) (h5 : ∀ p ∈ r, p.1 ≠ sl) : ∀ q ∈ (mx, o1) :: (md, o2) :: (cx, o3) :: (cd, o4) :: r, q.1 ≠ sl :=
  off_cons h1 (off_cons h2 (off_cons h3 (off_cons h4 h5)))
set_option maxHeartbeats 8000000 in
theorem lw_ctl {w : World} {p : Program} {loose : List Str} {mean : ExcName → Option Value} {mg mb : Str → Option Value} {a : Addr} {ccd : Value} {base h₀ : Heap} {L : Addr} {s : Shared} {Q : Flow → Shared → Prop} {E : Value → Shared → Prop}
    {pc l : Addr} {u : Str → Option Value} {news : List (Addr × Obj)} {x y : Int} {t t' : Tok}
    (B : Below callerA base [] h₀) (X : (Mine.hd.heap_1 w.params).In h₀) (T : Top p loose mean mg mb h₀) (F : Fr h₀ L s.heap (kstB u [("script", .ref l), ("head", .int x t), ("unit", .int y t')])) (N : News h₀ L s.heap news)
    (ret : ∀ h' tk m' cx cd es n mx md sl em nm ys kk ring, Fr h₀ L h' (kstB m' [("script", .ref l), ("head", .int x t), ("unit", .int y t'), ("control", .ref cx)]) → News h₀ L h' ((cx, instObj 129 cd) :: (cd, dictOf es n) :: (sl, listOf ys.toArray kk) :: (mx, instObj 64 md) :: (md, dictOf em nm) :: news) → CtlD es ⟨y, 0, 0, mx, 10 * y, 0, none⟩ → MonD em ⟨0, false, none, 0, none, none, 0, sl⟩ → IntsAre ys ring → ring.length = 5 → (∀ q ∈ news, q.1 < cd) → cd < cx → cx < md → md < mx → (∀ q ∈ (mx, instObj 64 md) :: (md, dictOf em nm) :: (cx, instObj 129 cd) :: (cd, dictOf es n) :: news, q.1 ≠ sl) → Q .next { s with heap := h', toks := tk }) :
    wpAny (model PySem.Challenge.rw_ix0003_01.row.prog w) (callerA.deeper (envX "law" lawScope L a ccd [("packet", pc)])) (exec (oneOf (nth lawStmts 2)) (envX "law" lawScope L a ccd [("packet", pc)])) Q E s := by
  dsimp only [lawScope, brSent, brAcked, brLost, brPersist, brRtt, else1, else2, else3, else4, turnStmts, lawStmts, PySem.Challenge.pw_ix0003_01, nth, fnBody, fnScope, forBody, ifBody, ifElse, oneOf]
  repeat' (first | (k_unfold; (try dsimp only)) | ((fail_if_success (with_reducible show wpAny _ _ (exec (Stmt.For _ _ _ _ _) _) _ _ _)); (fail_if_success (with_reducible show wpAny _ _ (exec (Stmt.While _ _ _ _) _) _ _ _)); (fail_if_success (with_reducible show wpAny _ _ (pyIter _) _ _ _)); (fail_if_success (with_reducible show wpAny _ _ (call (Value.ref 91) _ _) _ _ _)); (fail_if_success (with_reducible show wpAny _ _ (call (Value.ref 98) _ _) _ _ _)); (fail_if_success (with_reducible show wpAny _ _ (call (Value.ref 105) _ _) _ _ _)); (fail_if_success (with_reducible show wpAny _ _ (call (Value.ref 112) _ _) _ _ _)); (fail_if_success (with_reducible show wpAny _ _ (call (Value.ref 119) _ _) _ _ _)); (fail_if_success (with_reducible show wpAny _ _ (call (Value.ref 126) _ _) _ _ _)); (fail_if_success (with_reducible show wpAny _ _ (call (Value.ref 195) _ _) _ _ _)); (fail_if_success (with_reducible show wpAny _ _ (call (Value.ref 202) _ _) _ _ _)); (fail_if_success (with_reducible show wpAny _ _ (call (Value.ref 177) _ _) _ _ _)); (fail_if_success (with_reducible show wpAny _ _ (call (Value.ref 64) _ _) _ _ _)); walk1) | (leave1; walk_say "STEP leave1"; try dsimp only) | fail "no step")
  (rename News _ _ _ _ => lN)
  k_dflt (refine' c_mkmon ?kB ?kF ?kX ?kT ?kk ?kN ?kd ?ku ?_; (case kB => k_asm); (case kF => k_asm); (case kX => k_asm); (case kT => k_asm); (case kk => exact rfl); (case kN => exact lN); (case kd => ktr_room); (case ku => exact Nat.le_of_ble_eq_true rfl))
  intro h9 tk9 mx md sl em nm ys kk ring F9 N9 M9 I9 R9 a1 a2 a3 a4 a5
  obtain ⟨e1, e2, -⟩ := split4 a1
  obtain ⟨e3, e4, e5⟩ := split4n a5
  clear a1 a5
  have b1 := e1
  have b2 := a2
  have b3 := e2
  k_lt2 b1
  k_lt2 b2
  k_lt2 b3
  have f3 := Ne.symm a3
  have f4 := Ne.symm a4
  have f5 := Ne.symm e3
  have f6 := Ne.symm e4
  repeat' (first | (k_unfold; (try dsimp only)) | ((fail_if_success (with_reducible show wpAny _ _ (exec (Stmt.For _ _ _ _ _) _) _ _ _)); (fail_if_success (with_reducible show wpAny _ _ (exec (Stmt.While _ _ _ _) _) _ _ _)); (fail_if_success (with_reducible show wpAny _ _ (pyIter _) _ _ _)); (fail_if_success (with_reducible show wpAny _ _ (call (Value.ref 91) _ _) _ _ _)); (fail_if_success (with_reducible show wpAny _ _ (call (Value.ref 98) _ _) _ _ _)); (fail_if_success (with_reducible show wpAny _ _ (call (Value.ref 105) _ _) _ _ _)); (fail_if_success (with_reducible show wpAny _ _ (call (Value.ref 112) _ _) _ _ _)); (fail_if_success (with_reducible show wpAny _ _ (call (Value.ref 119) _ _) _ _ _)); (fail_if_success (with_reducible show wpAny _ _ (call (Value.ref 126) _ _) _ _ _)); (fail_if_success (with_reducible show wpAny _ _ (call (Value.ref 195) _ _) _ _ _)); (fail_if_success (with_reducible show wpAny _ _ (call (Value.ref 202) _ _) _ _ _)); (fail_if_success (with_reducible show wpAny _ _ (call (Value.ref 177) _ _) _ _ _)); (fail_if_success (with_reducible show wpAny _ _ (call (Value.ref 64) _ _) _ _ _)); walk1) | (leave1; walk_say "STEP leave1"; try dsimp only) | fail "no step")
  (rename Fr h₀ _ _ _ => lF)
  (rename News h₀ _ _ _ => lN)
  refine ret _ _ _ _ _ _ _ _ _ _ _ _ _ _ _ (pin2 lF ⟨rfl, rfl, rfl, rfl, trivial⟩) (news_ctl lN) ?C M9 I9 R9 ?g1 ?g2 e1 a2 (off_ctl a3 a4 e3 e4 e5)
  case C => exact ⟨Nat.le_trans (Nat.le_add_right 5 _) (Nat.le_add_right _ _), ⟨_, rfl⟩, ⟨_, rfl⟩, ⟨_, rfl⟩, rfl, ⟨_, rfl⟩, .inr ⟨rfl, rfl⟩, .inr ⟨rfl, rfl⟩, rfl, rfl, rfl, rfl, rfl, rfl⟩
  case g1 => assumption
  case g2 => first | assumption | (show @LT.lt Nat _ _ _; omega)
end Mine
end PC11

section PM2
namespace Mine
theorem fresh_M2 : True := by
  w_top off
  first | walk1 | exact True.intro
theorem fillM2 (w : World) : Mine.hd.heap_1 w.params = Mine.hd.heap_1 w.params ∧ PySem.Challenge.rw_ix0003_01.row.prog = PySem.Challenge.rw_ix0003_01.row.prog := by
  k_fill
  exact ⟨rfl, rfl⟩
local macro_rules | `(tactic| walk_at "wpAt") => `(tactic| (ks_step "eval Call"; refine Mine.at_MethodCallKW ?_))
local macro_rules | `(tactic| walk_at "callWith ref") => `(tactic| (k_here; k_dflt (refine' Mine.callWith_MKW0' ?k1 ?k2 ?k3 ?k4 ?k5 ?_; (case k1 => k_asm); (case k2 => k_asm); (case k3 => k_mem); (case k4 => k_is); (case k5 => exact rfl); k_whole)))

theorem units_in (x : Int) : 1 ≤ [1280, 40, 1].getD (x.fmod 3).toNat (0 : Int) ∧ [1280, 40, 1].getD (x.fmod 3).toNat (0 : Int) ≤ 1280 := by
  have h := fmod3 x
  have : (x.fmod 3).toNat = 0 ∨ (x.fmod 3).toNat = 1 ∨ (x.fmod 3).toNat = 2 := by omega
  rcases this with e | e | e <;> rw [e] <;> decide
set_option maxHeartbeats 8000000 in
theorem lw_head {w : World} {p : Program} {loose : List Str} {mean : ExcName → Option Value} {mg mb : Str → Option Value} {a : Addr} {ccd : Value} {base h₀ : Heap} {L : Addr} {s : Shared} {Q : Flow → Shared → Prop} {E : Value → Shared → Prop}
    {pc l : Addr} {po : Obj} {vs : List Value} {ks : List Int} {u : Str → Option Value} {news : List (Addr × Obj)}
    (B : Below callerA base [] h₀) (X : (Mine.hd.heap_1 w.params).In h₀) (T : Top p loose mean mg mb h₀) (hl : h₀.IsList l vs.toArray) (hv : IntsAre vs ks) (hlen : ks.length ≤ 63) (F : Fr h₀ L s.heap (kstB u [("script", .ref l)])) (N : News h₀ L s.heap news)
    (ret : ∀ h' tk m' x t, Fr h₀ L h' (kstB m' [("script", .ref l), ("head", .int x t)]) → News h₀ L h' news → Q .next { s with heap := h', toks := tk }) :
    wpAny (model PySem.Challenge.rw_ix0003_01.row.prog w) (callerA.deeper (envX "law" lawScope L a ccd [("packet", pc)])) (exec (oneOf (nth lawStmts 0)) (envX "law" lawScope L a ccd [("packet", pc)])) Q E s := by
  dsimp only [lawScope, brSent, brAcked, brLost, brPersist, brRtt, else1, else2, else3, else4, turnStmts, lawStmts, PySem.Challenge.pw_ix0003_01, nth, fnBody, fnScope, forBody, ifBody, ifElse, oneOf]
  repeat' (first | (k_unfold; (try dsimp only)) | ((fail_if_success (with_reducible show wpAny _ _ (exec (Stmt.For _ _ _ _ _) _) _ _ _)); (fail_if_success (with_reducible show wpAny _ _ (exec (Stmt.While _ _ _ _) _) _ _ _)); (fail_if_success (with_reducible show wpAny _ _ (pyIter _) _ _ _)); (fail_if_success (with_reducible show wpAny _ _ (call (Value.ref 91) _ _) _ _ _)); (fail_if_success (with_reducible show wpAny _ _ (call (Value.ref 98) _ _) _ _ _)); (fail_if_success (with_reducible show wpAny _ _ (call (Value.ref 105) _ _) _ _ _)); (fail_if_success (with_reducible show wpAny _ _ (call (Value.ref 112) _ _) _ _ _)); (fail_if_success (with_reducible show wpAny _ _ (call (Value.ref 119) _ _) _ _ _)); (fail_if_success (with_reducible show wpAny _ _ (call (Value.ref 126) _ _) _ _ _)); (fail_if_success (with_reducible show wpAny _ _ (call (Value.ref 195) _ _) _ _ _)); (fail_if_success (with_reducible show wpAny _ _ (call (Value.ref 202) _ _) _ _ _)); (fail_if_success (with_reducible show wpAny _ _ (call (Value.ref 177) _ _) _ _ _)); walk1) | (leave1; walk_say "STEP leave1"; try dsimp only) | fail "no step")
  all_goals first
    | exact ret _ _ _ _ _ (pin2 (by assumption) ⟨rfl, rfl, trivial⟩) (by assumption)
set_option maxHeartbeats 8000000 in
theorem lw_unit {w : World} {p : Program} {loose : List Str} {mean : ExcName → Option Value} {mg mb : Str → Option Value} {a : Addr} {ccd : Value} {base h₀ : Heap} {L : Addr} {s : Shared} {Q : Flow → Shared → Prop} {E : Value → Shared → Prop}
    {pc l : Addr} {po : Obj} {vs : List Value} {ks : List Int} {u : Str → Option Value} {news : List (Addr × Obj)} {x : Int} {t : Tok}
    (B : Below callerA base [] h₀) (X : (Mine.hd.heap_1 w.params).In h₀) (T : Top p loose mean mg mb h₀) (F : Fr h₀ L s.heap (kstB u [("script", .ref l), ("head", .int x t)])) (N : News h₀ L s.heap news)
    (ret : ∀ h' tk m' y t', 1 ≤ y → y ≤ 1280 → Fr h₀ L h' (kstB m' [("script", .ref l), ("head", .int x t), ("unit", .int y t')]) → News h₀ L h' news → Q .next { s with heap := h', toks := tk }) :
    wpAny (model PySem.Challenge.rw_ix0003_01.row.prog w) (callerA.deeper (envX "law" lawScope L a ccd [("packet", pc)])) (exec (oneOf (nth lawStmts 1)) (envX "law" lawScope L a ccd [("packet", pc)])) Q E s := by
  dsimp only [lawScope, brSent, brAcked, brLost, brPersist, brRtt, else1, else2, else3, else4, turnStmts, lawStmts, PySem.Challenge.pw_ix0003_01, nth, fnBody, fnScope, forBody, ifBody, ifElse, oneOf]
  repeat' (first | (k_unfold; (try dsimp only)) | ((fail_if_success (with_reducible show wpAny _ _ (exec (Stmt.For _ _ _ _ _) _) _ _ _)); (fail_if_success (with_reducible show wpAny _ _ (exec (Stmt.While _ _ _ _) _) _ _ _)); (fail_if_success (with_reducible show wpAny _ _ (pyIter _) _ _ _)); (fail_if_success (with_reducible show wpAny _ _ (call (Value.ref 91) _ _) _ _ _)); (fail_if_success (with_reducible show wpAny _ _ (call (Value.ref 98) _ _) _ _ _)); (fail_if_success (with_reducible show wpAny _ _ (call (Value.ref 105) _ _) _ _ _)); (fail_if_success (with_reducible show wpAny _ _ (call (Value.ref 112) _ _) _ _ _)); (fail_if_success (with_reducible show wpAny _ _ (call (Value.ref 119) _ _) _ _ _)); (fail_if_success (with_reducible show wpAny _ _ (call (Value.ref 126) _ _) _ _ _)); (fail_if_success (with_reducible show wpAny _ _ (call (Value.ref 195) _ _) _ _ _)); (fail_if_success (with_reducible show wpAny _ _ (call (Value.ref 202) _ _) _ _ _)); (fail_if_success (with_reducible show wpAny _ _ (call (Value.ref 177) _ _) _ _ _)); walk1) | (leave1; walk_say "STEP leave1"; try dsimp only) | fail "no step")
  all_goals first
    | exact ret _ _ _ _ _ (by decide) (by decide) (pin2 (by assumption) ⟨rfl, rfl, rfl, trivial⟩) (newsSub (by assumption) (by
      (repeat (refine sub_cons (by repeat (first | exact List.mem_cons_self | refine List.mem_cons_of_mem _ ?_)) ?_))
      intro q9 hq9
      repeat (first | exact hq9 | refine List.mem_cons_of_mem _ ?_)))
    | exact ret _ _ _ _ _ (units_in _ ).1 (units_in _ ).2 (pin2 (by assumption) ⟨rfl, rfl, rfl, trivial⟩) (newsSub (by assumption) (by
      (repeat (refine sub_cons (by repeat (first | exact List.mem_cons_self | refine List.mem_cons_of_mem _ ?_)) ?_))
      intro q9 hq9
      repeat (first | exact hq9 | refine List.mem_cons_of_mem _ ?_)))
end Mine
end PM2

section PM3
namespace Mine
theorem fresh_M3 : True := by
  w_top off
  first | walk1 | exact True.intro
theorem fillM3 (w : World) : Mine.hd.heap_1 w.params = Mine.hd.heap_1 w.params ∧ PySem.Challenge.rw_ix0003_01.row.prog = PySem.Challenge.rw_ix0003_01.row.prog := by
  k_fill
  exact ⟨rfl, rfl⟩
local macro_rules | `(tactic| walk_at "wpAt") => `(tactic| (ks_step "eval Call"; refine Mine.at_MethodCallKW ?_))
local macro_rules | `(tactic| walk_at "callWith ref") => `(tactic| (k_here; k_dflt (refine' Mine.callWith_MKW0' ?k1 ?k2 ?k3 ?k4 ?k5 ?_; (case k1 => k_asm); (case k2 => k_asm); (case k3 => k_mem); (case k4 => k_is); (case k5 => exact rfl); k_whole)))
theorem init_core {G : Prop} {w : World} {h₀ h' : Heap} {L : Addr} {m' : Str → Option Value} {news : List (Addr × Obj)} {unit now trip number : Int} {tu tn tt tm : Tok} {pc ol wd tl cx cd mx md sl nl : Addr} {po wo : Obj} {v0 : Option Value} {ys ws : List Value} {no nt nk n nm kk : Nat} {es em : List DictEntry} {kvs : List (Str × Value)} {v : Wd} {c : Ctl} {q : Mon} {ring : List Int}
    (F : Fr h₀ L h' m') (N : News h₀ L h' news) (nU : m' "unit" = some (.int unit tu)) (nC : m' "control" = some (.ref cx)) (nW : m' "world" = some (.ref wd)) (nO : m' "out" = some (.ref ol)) (nN : m' "now" = some (.int now tn)) (nT : m' "trip" = some (.int trip tt)) (nM : m' "number" = some (.int number tm)) (nB : m' "numbers" = some (.ref nl))
    (D : WorldD PySem.Challenge.rw_ix0003_01.row.prog w wo v kvs) (htl : v.tl = tl) (g1 : (pc, po) ∈ news) (g2 : (ol, listOf #[] no) ∈ news) (g3 : (wd, wo) ∈ news) (g4 : (tl, listOf #[] nt) ∈ news) (g5 : (cx, instObj 129 cd) ∈ news) (g6 : (cd, dictOf es n) ∈ news) (C : CtlD es c) (hmx : c.mx = mx) (g7 : (mx, instObj 64 md) ∈ news) (g8 : (md, dictOf em nm) ∈ news) (M : MonD em q) (hsl : q.sl = sl) (g9 : (sl, listOf ys.toArray kk) ∈ news) (g10 : (nl, listOf ws.toArray nk) ∈ news)
    (hpo : po.data = .cell v0) (hys : IntsAre ys ring) (nd : [nl, pc, ol, wd, tl, cx, cd, mx, md, sl].Nodup)
    (k : ∀ nx, News h₀ L h' nx → Core w unit pc wd tl cx cd mx md sl nl ws nk ⟨now, trip, number, v, c, q, [], ring, []⟩ m' nx → G) : G := by
  rw [List.nodup_cons] at nd
  refine k _ (newsSub N ?_) (Core.mk (R := [(nl, listOf ws.toArray nk)]) (no := no) (nt := nt) (n := n) (nm := nm) (k := kk) rfl ⟨tu, nU⟩ nC nW nO ⟨tn, nN⟩ ⟨tt, nT⟩ ⟨tm, nM⟩ nB D C M .nil hys hpo (fun p hp => nomatch hp) List.mem_cons_self nd.2 ?_)
  · intro p hp
    repeat (rcases List.mem_cons.mp hp with rfl | hp; (first | exact g1 | exact g2 | exact g3 | exact g4 | exact g5 | exact g6 | exact g7 | exact g8 | exact g9 | exact g10))
    exact nomatch hp
  · intro p hp
    rw [List.mem_singleton.mp hp]
    exact nd.1

set_option maxHeartbeats 8000000 in
theorem lw_init {w : World} {p : Program} {loose : List Str} {mean : ExcName → Option Value} {mg mb : Str → Option Value} {a : Addr} {ccd : Value} {base h₀ : Heap} {L : Addr} {s : Shared} {Q : Flow → Shared → Prop} {E : Value → Shared → Prop}
    {pc l cx cd mx md sl : Addr} {es em : List DictEntry} {n nm kk : Nat} {ys : List Value} {ring : List Int} {po : Obj} {vs : List Value} {ks : List Int} {u : Str → Option Value} {news : List (Addr × Obj)} {x y : Int} {t t' : Tok} {v0 : Option Value}
    {ss : List Stmt} (hss : ss = lawStmts.drop 3) (B : Below callerA base [] h₀) (X : (Mine.hd.heap_1 w.params).In h₀) (T : Top p loose mean mg mb h₀) (hl : h₀.IsList l vs.toArray) (hv : IntsAre vs ks) (hlen : ks.length ≤ 63) (F : Fr h₀ L s.heap (kstB u [("script", .ref l), ("head", .int x t), ("unit", .int y t'), ("control", .ref cx)])) (N : News h₀ L s.heap [(cx, instObj 129 cd), (cd, dictOf es n), (sl, listOf ys.toArray kk), (mx, instObj 64 md), (md, dictOf em nm), (pc, po)]) (C : CtlD es ⟨y, 0, 0, mx, 10 * y, 0, none⟩) (M : MonD em ⟨0, false, none, 0, none, none, 0, sl⟩) (lY : IntsAre ys ring) (hr : ring.length = 5) (d0 : [pc, cx, cd, mx, md, sl].Nodup) (hpo : po.data = .cell v0) (hy : 1 ≤ y) (hy2 : y ≤ 1280)
    (ret : ∀ h' tk m' nx wd tl nl nvs nk ns σ, Fr h₀ L h' m' → News h₀ L h' nx → IntsAre nvs ns → ns.length ≤ 60 → Core w y pc wd tl cx cd mx md sl nl nvs nk σ m' nx → Pure y mx sl tl 0 σ → wpAny (model PySem.Challenge.rw_ix0003_01.row.prog w) (callerA.deeper (envX "law" lawScope L a ccd [("packet", pc)])) (execs (lawStmts.drop 7) (envX "law" lawScope L a ccd [("packet", pc)])) Q E { s with heap := h', toks := tk }) :
    wpAny (model PySem.Challenge.rw_ix0003_01.row.prog w) (callerA.deeper (envX "law" lawScope L a ccd [("packet", pc)])) (execs ss (envX "law" lawScope L a ccd [("packet", pc)])) Q E s := by
  subst hss
  simp only [List.nodup_cons, List.mem_cons, List.not_mem_nil, or_false, not_or, not_false_eq_true, and_true, List.nodup_nil] at d0
  obtain ⟨⟨d1, d2, d3, d4, d5⟩, ⟨d6, d7, d8, d9⟩, ⟨d10, d11, d12⟩, ⟨d13, d14⟩, d15⟩ := d0
  dsimp only [lawScope, brSent, brAcked, brLost, brPersist, brRtt, else1, else2, else3, else4, turnStmts, lawStmts, PySem.Challenge.pw_ix0003_01, nth, fnBody, fnScope, forBody, ifBody, ifElse, oneOf, List.drop_succ_cons, List.drop_zero, List.drop]
  repeat' (first | (k_unfold; (try dsimp only)) | ((fail_if_success (with_reducible show wpAny _ _ (exec (Stmt.For _ _ _ _ _) _) _ _ _)); (fail_if_success (with_reducible show wpAny _ _ (exec (Stmt.While _ _ _ _) _) _ _ _)); (fail_if_success (with_reducible show wpAny _ _ (pyIter _) _ _ _)); (fail_if_success (with_reducible show wpAny _ _ (call (Value.ref 91) _ _) _ _ _)); (fail_if_success (with_reducible show wpAny _ _ (call (Value.ref 98) _ _) _ _ _)); (fail_if_success (with_reducible show wpAny _ _ (call (Value.ref 105) _ _) _ _ _)); (fail_if_success (with_reducible show wpAny _ _ (call (Value.ref 112) _ _) _ _ _)); (fail_if_success (with_reducible show wpAny _ _ (call (Value.ref 119) _ _) _ _ _)); (fail_if_success (with_reducible show wpAny _ _ (call (Value.ref 126) _ _) _ _ _)); (fail_if_success (with_reducible show wpAny _ _ (call (Value.ref 195) _ _) _ _ _)); (fail_if_success (with_reducible show wpAny _ _ (call (Value.ref 202) _ _) _ _ _)); (fail_if_success (with_reducible show wpAny _ _ (call (Value.ref 177) _ _) _ _ _)); (fail_if_success (with_reducible show wpAny _ _ (execs (Stmt.For _ _ _ _ _ :: _) _) _ _ _)); walk1) | (leave1; walk_say "STEP leave1"; try dsimp only) | fail "no step")
  (rename Fr _ _ _ _ => lF)
  (rename News _ _ _ _ => lN)
  (rename Obj.IsDictOf _ _ _ => lD)
  (rename IntsAre _ (List.take _ _) => lI)
  have D0 : WorldD PySem.Challenge.rw_ix0003_01.row.prog w _ ⟨10 * y, none, 0, 0, 0, _, none, 0⟩ _ := ⟨lD, Nat.le_of_ble_eq_true rfl, ⟨_, rfl⟩, ⟨0, rfl⟩, ⟨_, rfl⟩, ⟨_, rfl⟩, ⟨_, rfl⟩, rfl, ⟨0, rfl⟩, ⟨_, rfl⟩⟩
  refine' init_core lF lN rfl rfl rfl rfl rfl rfl rfl rfl D0 rfl ?g1 ?g2 ?g3 ?g4 ?g5 ?g6 C rfl ?g7 ?g8 M rfl ?g9 ?g10 hpo lY ?nd ?k
  case g1 => exact (by repeat (first | exact List.mem_cons_self | refine List.mem_cons_of_mem _ ?_))
  case g2 => exact (by repeat (first | exact List.mem_cons_self | refine List.mem_cons_of_mem _ ?_))
  case g3 => exact (by repeat (first | exact List.mem_cons_self | refine List.mem_cons_of_mem _ ?_))
  case g4 => exact (by repeat (first | exact List.mem_cons_self | refine List.mem_cons_of_mem _ ?_))
  case g5 => exact (by repeat (first | exact List.mem_cons_self | refine List.mem_cons_of_mem _ ?_))
  case g6 => exact (by repeat (first | exact List.mem_cons_self | refine List.mem_cons_of_mem _ ?_))
  case g7 => exact (by repeat (first | exact List.mem_cons_self | refine List.mem_cons_of_mem _ ?_))
  case g8 => exact (by repeat (first | exact List.mem_cons_self | refine List.mem_cons_of_mem _ ?_))
  case g9 => exact (by repeat (first | exact List.mem_cons_self | refine List.mem_cons_of_mem _ ?_))
  case g10 => exact (by repeat (first | exact List.mem_cons_self | refine List.mem_cons_of_mem _ ?_))
  case nd => exact (by
      simp only [List.nodup_cons, List.mem_cons, List.not_mem_nil, or_false, not_or, not_false_eq_true, and_true, List.nodup_nil]
      repeat' apply And.intro
      all_goals first | k_ne | exact Ne.symm (by k_ne))
  case k =>
    intro nx N9 K9
    exact ret _ _ _ _ _ _ _ _ _ _ _ lF N9 lI (by simp only [List.length_take, List.length_drop]; omega) K9
      ⟨rfl, rfl, rfl, rfl, rfl, rfl, by dsimp only; omega, ⟨hr, Int.le_refl 0, (by show (0 : Int) < 5; decide), rfl, rfl, fun j hj => absurd hj (Nat.not_lt_zero j)⟩, Nat.le_refl _, hy, hy2, by dsimp only; omega, Int.le_refl _, by dsimp only; omega, (fun p hp => by cases hp), Nat.le_refl _, List.nodup_nil, (fun p hp => by cases hp)⟩
end Mine
end PM3

section PM4
namespace Mine
theorem fresh_M4 : True := by
  w_top off
  first | walk1 | exact True.intro
theorem fillM4 (w : World) : Mine.hd.heap_1 w.params = Mine.hd.heap_1 w.params ∧ PySem.Challenge.rw_ix0003_01.row.prog = PySem.Challenge.rw_ix0003_01.row.prog := by
  k_fill
  exact ⟨rfl, rfl⟩
local macro_rules | `(tactic| walk_at "call builtin:len") => `(tactic| (k_here; with_reducible (show wpAny _ _ (call (Value.builtin "len") [Value.ref _]) _ _ _); (refine t_len ‹_› ‹_› (by first | assumption | omega) ?_)))

theorem turns {len i : Nat} (h : len ≤ 60) (hi : i < (Builtin.Range.rangeSize 0 (len : Int) 2).toNat) : i < 30 ∧ 0 ≤ 0 + (i : Int) * 2 ∧ 0 + (i : Int) * 2 < (len : Int) := by
  rw [rangeSize_pos (by omega) (by omega)] at hi
  omega
theorem small2 {len : Nat} (h : len ≤ 60) : Builtin.Range.small 0 (len : Int) 2 = true := by
  have : ∀ n, n < 61 → Builtin.Range.small 0 ((n : Nat) : Int) 2 = true := by decide +kernel
  exact this len (by omega)
set_option maxHeartbeats 8000000 in
theorem lw_for {w : World} {p : Program} {loose : List Str} {mean : ExcName → Option Value} {mg mb : Str → Option Value} {a : Addr} {ccd : Value} {base h₀ : Heap} {L : Addr} {s : Shared} {Q : Flow → Shared → Prop} {E : Value → Shared → Prop}
    {unit : Int} {pc wd tl cx cd mx md sl nl : Addr} {nvs : List Value} {ks : List Int} {nk : Nat} {σ : Sg} {m : Str → Option Value} {nx : List (Addr × Obj)}
    (B : Below callerA base [] h₀) (X : (Mine.hd.heap_1 w.params).In h₀) (T : Top p loose mean mg mb h₀) (F : Fr h₀ L s.heap m) (N : News h₀ L s.heap nx) (hv : IntsAre nvs ks) (hz60 : ks.length ≤ 60)
    (K : Core w unit pc wd tl cx cd mx md sl nl nvs nk σ m nx) (H : Pure unit mx sl tl 0 σ)
    (hE : PassesOwn (model PySem.Challenge.rw_ix0003_01.row.prog w) (callerA.deeper (envX "law" lawScope L a ccd [("packet", pc)])) (envX "law" lawScope L a ccd [("packet", pc)]) E)
    (ret : ∀ h' tk m' nx', Fr h₀ L h' m' → News h₀ L h' nx' → Q (.ret (.bool true)) { s with heap := h', toks := tk }) :
    wpAny (model PySem.Challenge.rw_ix0003_01.row.prog w) (callerA.deeper (envX "law" lawScope L a ccd [("packet", pc)])) (execs (lawStmts.drop 7) (envX "law" lawScope L a ccd [("packet", pc)])) Q E s := by
  have hnl : (nl, listOf nvs.toArray nk) ∈ nx ∧ m "numbers" = some (.ref nl) := by
    obtain @⟨ol, po, wo, v0, kvs, ts, xs, nt, n, nm, k, no, es, em, R, rfl, ⟨tu, nU⟩, nC, nW, nO, ⟨tn, nN⟩, ⟨tt, nT⟩, ⟨tm, nM⟩, nB, D, C, M, hts, hxs, hpo, P, hnl, nd, hR⟩ := K
    exact ⟨by repeat (first | exact hnl | refine List.mem_cons_of_mem _ ?_), nB⟩
  obtain ⟨hnl, nB⟩ := hnl
  have hlen : nvs.length ≤ 60 := by rw [hv.length]; exact hz60
  have hlen2 : nvs.length ≤ 1000 := by omega
  have ps : NamesAre m [("numbers", .ref nl)] := ⟨nB, trivial⟩
  have e4 : kstB m [("numbers", .ref nl)] = m := by
    funext y
    exact kstB_eq ps.all fun _ => rfl
  have F0 := pin2 F ps
  clear F
  dsimp only [lawScope, brSent, brAcked, brLost, brPersist, brRtt, else1, else2, else3, else4, turnStmts, lawStmts, PySem.Challenge.pw_ix0003_01, nth, fnBody, fnScope, forBody, ifBody, ifElse, oneOf, List.drop_succ_cons, List.drop_zero, List.drop]
  refine wpAny_execs_cons ?_
  refine For_invVF F0 (by rfl) (by rfl) ?_ (hE := hE)
  repeat' (first | (k_unfold; (try dsimp only)) | ((fail_if_success (with_reducible show wpAny _ _ (exec (Stmt.For _ _ _ _ _) _) _ _ _)); (fail_if_success (with_reducible show wpAny _ _ (exec (Stmt.While _ _ _ _) _) _ _ _)); (fail_if_success (with_reducible show wpAny _ _ (pyIter _) _ _ _)); (fail_if_success (with_reducible show wpAny _ _ (call (Value.ref 91) _ _) _ _ _)); (fail_if_success (with_reducible show wpAny _ _ (call (Value.ref 98) _ _) _ _ _)); (fail_if_success (with_reducible show wpAny _ _ (call (Value.ref 105) _ _) _ _ _)); (fail_if_success (with_reducible show wpAny _ _ (call (Value.ref 112) _ _) _ _ _)); (fail_if_success (with_reducible show wpAny _ _ (call (Value.ref 119) _ _) _ _ _)); (fail_if_success (with_reducible show wpAny _ _ (call (Value.ref 126) _ _) _ _ _)); (fail_if_success (with_reducible show wpAny _ _ (call (Value.ref 195) _ _) _ _ _)); (fail_if_success (with_reducible show wpAny _ _ (call (Value.ref 202) _ _) _ _ _)); (fail_if_success (with_reducible show wpAny _ _ (call (Value.ref 177) _ _) _ _ _)); walk1) | (leave1; walk_say "STEP leave1"; try dsimp only) | fail "no step")
  (rename Fr _ _ _ _ => lF)
  (rename News _ _ _ _ => lN)
  rw [e4] at lF
  refine lp_range (fun i m nx => ∃ σ, Core w unit pc wd tl cx cd mx md sl nl nvs nk σ m nx ∧ Pure unit mx sl tl i σ) rfl (by assumption) (small2 hlen) (rangeSize_toNat 0 _ 2) lF lN ⟨σ, K, H⟩ ?turn ?done
  case turn =>
    rintro i t m₁ nx₁ h tk I io hi hI ⟨σ₁, K₁, H₁⟩ F₁ N₁
    obtain ⟨z1, z2, z3⟩ := turns hlen hi
    exact tn_turn B X T F₁ N₁ hI K₁ H₁ z1 hv z2 z3 hlen2 fun h' tk m' nx' σ' F' N' o' K' H' => ⟨h', tk, m', nx', rfl, F', N', o', σ', K', H'⟩
  case done =>
    rintro m₁ nx₁ h tk ⟨σ₁, K₁, H₁⟩ F₁ N₁
    repeat' (first | (k_unfold; (try dsimp only)) | ((fail_if_success (with_reducible show wpAny _ _ (exec (Stmt.For _ _ _ _ _) _) _ _ _)); (fail_if_success (with_reducible show wpAny _ _ (exec (Stmt.While _ _ _ _) _) _ _ _)); (fail_if_success (with_reducible show wpAny _ _ (pyIter _) _ _ _)); (fail_if_success (with_reducible show wpAny _ _ (call (Value.ref 91) _ _) _ _ _)); (fail_if_success (with_reducible show wpAny _ _ (call (Value.ref 98) _ _) _ _ _)); (fail_if_success (with_reducible show wpAny _ _ (call (Value.ref 105) _ _) _ _ _)); (fail_if_success (with_reducible show wpAny _ _ (call (Value.ref 112) _ _) _ _ _)); (fail_if_success (with_reducible show wpAny _ _ (call (Value.ref 119) _ _) _ _ _)); (fail_if_success (with_reducible show wpAny _ _ (call (Value.ref 126) _ _) _ _ _)); (fail_if_success (with_reducible show wpAny _ _ (call (Value.ref 195) _ _) _ _ _)); (fail_if_success (with_reducible show wpAny _ _ (call (Value.ref 202) _ _) _ _ _)); (fail_if_success (with_reducible show wpAny _ _ (call (Value.ref 177) _ _) _ _ _)); walk1) | (leave1; walk_say "STEP leave1"; try dsimp only) | fail "no step")
    exact ret _ _ _ _ F₁ N₁
end Mine
end PM4

section PM5
namespace Mine
theorem fresh_M5 : True := by
  w_top off
  first | walk1 | exact True.intro
theorem fillM5 (w : World) : Mine.hd.heap_1 w.params = Mine.hd.heap_1 w.params ∧ PySem.Challenge.rw_ix0003_01.row.prog = PySem.Challenge.rw_ix0003_01.row.prog := by
  k_fill
  exact ⟨rfl, rfl⟩

theorem law_eq : lawStmts = oneOf (nth lawStmts 0) :: oneOf (nth lawStmts 1) :: oneOf (nth lawStmts 2) :: lawStmts.drop 3 := by rfl
theorem nd6 {pc cx cd mx md sl : Addr} {po o1 o2 o3 o4 : Obj} (h1 : ∀ q ∈ [(pc, po)], q.1 < cd) (h2 : cd < cx) (h3 : cx < md) (h4 : md < mx) (h5 : ∀ q ∈ (mx, o1) :: (md, o2) :: (cx, o3) :: (cd, o4) :: [(pc, po)], q.1 ≠ sl) : [pc, cx, cd, mx, md, sl].Nodup := by
  have a1 : @LT.lt Nat _ pc cd := h1 _ (.head _)
  have a2 : @LT.lt Nat _ cd cx := h2
  have a3 : @LT.lt Nat _ cx md := h3
  have a4 : @LT.lt Nat _ md mx := h4
  have a5 := Nat.lt_trans a1 a2
  have a6 := Nat.lt_trans a5 a3
  have a7 := Nat.lt_trans a6 a4
  have a8 := Nat.lt_trans a2 a3
  have a9 := Nat.lt_trans a8 a4
  have a10 := Nat.lt_trans a3 a4
  have b1 : mx ≠ sl := h5 _ (.head _)
  have b2 : md ≠ sl := h5 _ (.tail _ (.head _))
  have b3 : cx ≠ sl := h5 _ (.tail _ (.tail _ (.head _)))
  have b4 : cd ≠ sl := h5 _ (.tail _ (.tail _ (.tail _ (.head _))))
  have b5 : pc ≠ sl := h5 _ (.tail _ (.tail _ (.tail _ (.tail _ (.head _)))))
  clear h1 h2 h3 h4 h5
  simp only [List.nodup_cons, List.mem_cons, List.not_mem_nil, or_false, not_or, not_false_eq_true, and_true, List.nodup_nil]
  repeat' apply And.intro
  all_goals first | assumption | exact Nat.ne_of_lt (by assumption) | exact Nat.ne_of_gt (by assumption)
set_option maxHeartbeats 800000 in
theorem law_all {w : World} {p : Program} {loose : List Str} {mean : ExcName → Option Value} {mg mb : Str → Option Value} {a : Addr} {ccd : Value} {base h₀ : Heap} {L : Addr} {s : Shared} {Q : Flow → Shared → Prop} {E : Value → Shared → Prop}
    {pc l : Addr} {po : Obj} {vs : List Value} {ks : List Int} {u : Str → Option Value} {news : List (Addr × Obj)} {v0 : Option Value}
    (B : Below callerA base [] h₀) (X : (Mine.hd.heap_1 w.params).In h₀) (T : Top p loose mean mg mb h₀) (hl : h₀.IsList l vs.toArray) (hv : IntsAre vs ks) (hlen : ks.length ≤ 63) (F : Fr h₀ L s.heap (kstB u [("script", .ref l)])) (N : News h₀ L s.heap [(pc, po)]) (hpo : po.data = .cell v0) (hE : PassesOwn (model PySem.Challenge.rw_ix0003_01.row.prog w) (callerA.deeper (envX "law" lawScope L a ccd [("packet", pc)])) (envX "law" lawScope L a ccd [("packet", pc)]) E)
    (ret : ∀ h' tk m' nx', Fr h₀ L h' m' → News h₀ L h' nx' → Q (.ret (.bool true)) { s with heap := h', toks := tk }) :
    wpAny (model PySem.Challenge.rw_ix0003_01.row.prog w) (callerA.deeper (envX "law" lawScope L a ccd [("packet", pc)])) (execs lawStmts (envX "law" lawScope L a ccd [("packet", pc)])) Q E s := by
  rw [law_eq]
  obtain ⟨ss, hss⟩ : ∃ ss, ss = lawStmts.drop 3 := ⟨_, rfl⟩
  rw [← hss]
  refine wpAny_execs_cons (lw_head (po := po) B X T hl hv hlen F N fun h1 tk1 m1 x t F1 N1 => ?_)
  refine wpAny_execs_cons (lw_unit (po := po) (vs := vs) (ks := ks) B X T F1 N1 fun h2 tk2 m2 y t' y1 y2 F2 N2 => ?_)
  refine wpAny_execs_cons (lw_ctl B X T F2 N2 fun h5 tk5 m5 cx cd es n mx md sl em nm ys kk ring F5 N5 C5 M5 I5 r5 g1 g2 g3 g4 g5 => ?_)
  dsimp only
  refine lw_init (news := []) hss B X T hl hv hlen F5 N5 C5 M5 I5 r5 (nd6 g1 g2 g3 g4 g5) hpo y1 y2 fun h3 tk3 m3 nx wd tl nl nvs nk ns σ F3 N3 I3 l3 K3 H3 => ?_
  exact lw_for B X T F3 N3 I3 l3 K3 H3 hE (fun h' tk m' nx' F' N' => ret _ _ _ _ F' N')
end Mine
end PM5

set_option maxRecDepth 100000 in
set_option maxHeartbeats 8000000 in
theorem PySem.Challenge.cw_ix0003_01_holds : PySem.Challenge.rw_ix0003_01.Holds := by
  exact Mine.hd (by
  w_strict (k_go0; (all_goals try k_fold)
            (rename Fr _ _ _ _ => lF)
            (rename News _ _ _ _ => lN)
            (rename Below _ _ _ _ => lB)
            (rename Top _ _ _ _ _ _ => lT)
            (rename Heap.IsList _ _ _ => lL)
            (rename IntsAre _ _ => lI)
            (rename Obj.data _ = _ => lP)
            (rename (Frag.In _ _) => lX)
            refine Mine.law_all (news := []) lB lX lT lL lI (by omega) (Mine.pin2 (ps := [("script", .ref _)]) lF ⟨rfl, trivial⟩) lN lP ?hE ?hret
            case hE => passes_own
            case hret =>
              intro h' tk m' nx' F' N'
              k_steps))
