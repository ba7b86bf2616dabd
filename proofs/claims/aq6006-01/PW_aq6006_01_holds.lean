import PyProof.Rows.All
import Wide.All
import OpenK.AllK
import Wide.FinOn
import PySem.Challenge.RW_aq6006_01
open PySem PySem.W PyProof.Rows
set_option Elab.async false
set_option maxRecDepth 100000
set_option maxHeartbeats 4000000
/-! The plain law: what the months of a year put on a year's day -/
namespace Mine
/-- months ahead of the year -/
def mo (y : Int) : Int := (235 * y - 234) / 19
/-- the day of the moon, noon put on, in days; q its parts behind noon -/
def cc (m : Int) : Int := 29 * m + (38004 + 13753 * m) / 25920
def qq (m : Int) : Int := (38004 + 13753 * m) % 25920
def gg (c : Int) : Int := if c % 7 = 0 ∨ c % 7 = 3 ∨ c % 7 = 5 then c else c - 1

theorem day_is (m : Int) : m * 29 + (12084 + 13753 * m) / 25920 + 1 = cc m := by
  unfold cc; omega
theorem up_iff (c : Int) : (3 * c) % 7 < 3 ↔ (c % 7 = 0 ∨ c % 7 = 3 ∨ c % 7 = 5) := by
  rw [Int.mul_emod]
  have h0 : 0 ≤ c % 7 := by omega
  have h1 : c % 7 < 7 := by omega
  generalize c % 7 = r at h0 h1
  have h : r = 0 ∨ r = 1 ∨ r = 2 ∨ r = 3 ∨ r = 4 ∨ r = 5 ∨ r = 6 := by omega
  rcases h with rfl | rfl | rfl | rfl | rfl | rfl | rfl <;> decide
theorem mo_next (y : Int) : mo (y + 1) = mo y + 12 ∨ mo (y + 1) = mo y + 13 := by unfold mo; omega
theorem cc12 (m : Int) : (qq m < 16404 ∧ cc (m + 12) = cc m + 354 ∧ qq (m + 12) = qq m + 9516) ∨ (16404 ≤ qq m ∧ cc (m + 12) = cc m + 355 ∧ qq (m + 12) = qq m - 16404) := by
  unfold cc qq; omega
theorem cc13 (m : Int) : (qq m < 2651 ∧ cc (m + 13) = cc m + 383 ∧ qq (m + 13) = qq m + 23269) ∨ (2651 ≤ qq m ∧ cc (m + 13) = cc m + 384 ∧ qq (m + 13) = qq m - 2651) := by
  unfold cc qq; omega
theorem qq_rng (m : Int) : 0 ≤ qq m ∧ qq m < 25920 := by unfold qq; omega
/-- the plain law -/
def sec (y : Int) : Int :=
  if qq (mo y) < 6480 then 0
  else if cc (mo y) % 7 = 2 ∧ 16404 ≤ qq (mo y) ∧ mo (y + 1) = mo y + 12 then 2
  else if cc (mo y) % 7 = 1 ∧ 23269 ≤ qq (mo y) ∧ mo y = mo (y - 1) + 13 then 1
  else 0
theorem gg_cases (c : Int) : ∃ k r, c = 7 * k + r ∧ 0 ≤ r ∧ r < 7 := ⟨c / 7, c % 7, by omega, by omega, by omega⟩
theorem gg_at (k r : Int) (h0 : 0 ≤ r) (h1 : r < 7) : gg (7 * k + r) = 7 * k + (if r = 0 ∨ r = 3 ∨ r = 5 then r else r - 1) := by
  unfold gg
  have : (7 * k + r) % 7 = r := by omega
  rw [this]
  split <;> omega

/-- what the year's day grows by, by the weekday and the parts -/
theorem grow12 (m : Int) : gg (cc (m + 12)) - gg (cc m) = 353 ∨ gg (cc (m + 12)) - gg (cc m) = 354 ∨ gg (cc (m + 12)) - gg (cc m) = 355 ∨
    (gg (cc (m + 12)) - gg (cc m) = 356 ∧ cc m % 7 = 2 ∧ 16404 ≤ qq m) := by
  obtain ⟨k, r, hc, h0, h1⟩ := gg_cases (cc m)
  have h : r = 0 ∨ r = 1 ∨ r = 2 ∨ r = 3 ∨ r = 4 ∨ r = 5 ∨ r = 6 := by omega
  rcases cc12 m with ⟨hq, hn, _⟩ | ⟨hq, hn, _⟩
  · rw [hn, hc]
    rcases h with rfl | rfl | rfl | rfl | rfl | rfl | rfl <;> unfold gg <;> split <;> split <;> omega
  · rw [hn, hc]
    rcases h with rfl | rfl | rfl | rfl | rfl | rfl | rfl <;> unfold gg <;> split <;> split <;> omega
theorem grow13 (m : Int) : (gg (cc (m + 13)) - gg (cc m) = 382 ∧ cc (m + 13) % 7 = 1 ∧ 23269 ≤ qq (m + 13)) ∨ gg (cc (m + 13)) - gg (cc m) = 383 ∨ gg (cc (m + 13)) - gg (cc m) = 384 ∨
    gg (cc (m + 13)) - gg (cc m) = 385 := by
  obtain ⟨k, r, hc, h0, h1⟩ := gg_cases (cc m)
  have hr := qq_rng m
  have h : r = 0 ∨ r = 1 ∨ r = 2 ∨ r = 3 ∨ r = 4 ∨ r = 5 ∨ r = 6 := by omega
  rcases cc13 m with ⟨hq, hn, hq'⟩ | ⟨hq, hn, _⟩
  · rw [hn, hc, hq']
    rcases h with rfl | rfl | rfl | rfl | rfl | rfl | rfl <;> unfold gg <;> split <;> split <;> omega
  · rw [hn, hc]
    rcases h with rfl | rfl | rfl | rfl | rfl | rfl | rfl <;> unfold gg <;> split <;> split <;> omega
theorem is356 (m : Int) (h2 : cc m % 7 = 2) (hq : 16404 ≤ qq m) : gg (cc (m + 12)) - gg (cc m) = 356 := by
  rcases cc12 m with ⟨hq', _, _⟩ | ⟨_, hn, _⟩
  · omega
  · rw [hn]; unfold gg; split <;> split <;> omega
theorem is382 (m : Int) (h2 : cc (m + 13) % 7 = 1) (hq : 23269 ≤ qq (m + 13)) : gg (cc (m + 13)) - gg (cc m) = 382 := by
  have hr := qq_rng m
  rcases cc13 m with ⟨_, hn, _⟩ | ⟨hq', _, hn⟩
  · rw [hn] at h2 ⊢; unfold gg; split <;> split <;> omega
  · omega
end Mine

/-! The count of the long years within a round: a block over the module's tuple -/
namespace Mine
open PySem.Calls
open PyProof.Rows.LCg PyProof.Rows.LCt

/-- how many of the ints are at most r -/
def cnt (r : Int) : List Int → Nat
  | [] => 0
  | a :: l => (if a ≤ r then 1 else 0) + cnt r l

/-- the source of the count: a tuple of ints of the base heap, read by a block that keeps what is at most the cell's int -/
def CntSrc (h₀ : Heap) (L : Addr) (m : Str → Option Value) (cl : List (Str × Addr)) (rn : Str) (Q : Value → Shared → Prop) (xv : Value) (s₁ : Shared) : Prop :=
  ∃ (ax : Addr) (ps : List (Int × Tok)) (c : Addr) (oc : Obj) (r : Int) (tr : Tok) (news : List (Addr × Obj)), xv = .ref ax ∧ Fr h₀ L s₁.heap m ∧ News h₀ L s₁.heap news ∧
    h₀.IsTuple ax (ps.map fun p => Value.int p.1 p.2).toArray ∧ ps.length ≤ sizeLine ∧ cl.lookup rn = some c ∧ (c, oc) ∈ news ∧ oc.data = .cell (some (.int r tr)) ∧
    ∀ ys D h tk, ys.length = cnt r (ps.map Prod.fst) → Fr h₀ L h m → News h₀ L h ((D, lst ys) :: news) → Off1 D news → Q (.ref D) { s₁ with heap := h, toks := tk }

section
variable {prog : Program} {w : World} {A : Around} {E : Value → Shared → Prop} {s : Shared} {h₀ : Heap} {L : Addr} {m : Str → Option Value} {env : Env}
theorem cnt_rest {x rn : Str} {p1 p2 p3 p4 : Pos} {scope : Scope} {cl : List (Str × Addr)} {c : Addr} {oc : Obj} {r : Int} {tr : Tok} {news : List (Addr × Obj)} {ps : List (Int × Tok)} {Fin : List Value → List (Addr × Obj) → Prop}
    (hkf : scope.kind = .function) (hl : ∀ C, (compEnvC scope cl C env).kindOf x = some .local) (hr : ∀ C, (compEnvC scope cl C env).kindOf rn = some .cell) (hxd : (x == ("__debug__" : Str)) = false) (hrd : (rn == ("__debug__" : Str)) = false)
    (hcl : cl.lookup rn = some c) (hm : (c, oc) ∈ news) (hoc : oc.data = .cell (some (.int r tr))) :
    ∀ k i ys, i + k = ps.length → (∀ ys' : List Value, ys'.length = ys.length + cnt r ((ps.drop i).map Prod.fst) → Fin ys' news) →
      CompRestT prog w A h₀ L m env (.Compare (.Name x p1) [.LtE] [.Name rn p2] p3) (.Name x p4) x scope cl s (fun _ => True) (fun i v => (ps.map fun p => Value.int p.1 p.2).toArray[i]? = some v) Fin k i ys news := by
  intro k
  induction k with
  | zero =>
    intro i ys hik hf
    refine CompRestT.zero (hf ys ?_)
    rw [List.drop_eq_nil_of_le (by omega)]
    rfl
  | succ k ih =>
    intro i ys hik hf
    have hlt : i < ps.length := by omega
    refine CompRestT.succ ?_
    intro v I oI C oC D m₂ h tk E' hP hC hx F N off ne
    have hv : v = .int (ps[i]).1 (ps[i]).2 := by
      simp only [List.getElem?_toArray, List.getElem?_map, List.getElem?_eq_getElem hlt, Option.map_some, Option.some.injEq] at hP
      exact hP.symm
    subst hv
    have hd : (ps.drop i).map Prod.fst = (ps[i]).1 :: (ps.drop (i + 1)).map Prod.fst := by
      rw [List.drop_eq_getElem_cons hlt]; rfl
    have hCm : (C, oC) ∈ (I, oI) :: (C, oC) :: (D, lst ys) :: news := .tail _ (.head _)
    have hcm : (c, oc) ∈ (I, oI) :: (C, oC) :: (D, lst ys) :: news := .tail _ (.tail _ (.tail _ hm))
    refine wpAny_isTrue_Compare1 (LCgL.ld_own N hCm hC hx (lcf_cell N hcl hcm hoc (PyProof.Rows.le_int (wpAny_truthy_bool ?_)) hkf (hr C) hrd) hkf (hl C) hxd) rfl
    by_cases hle : (ps[i]).1 ≤ r
    · rw [if_pos (by simpa using hle)]
      refine LCgL.ld_own N hCm hC hx (CompEnd.intro F N news (fun _ hp => hp) off trivial (ih (i + 1) _ (by omega) fun ys' hy => hf ys' ?_)) hkf (hl C) hxd
      rw [hd, cnt, if_pos hle]
      rw [List.length_append, List.length_singleton] at hy
      omega
    · rw [if_neg (by simpa using hle)]
      refine CompEnd.intro F N news (fun _ hp => hp) off trivial (ih (i + 1) _ (by omega) fun ys' hy => hf ys' ?_)
      rw [hd, cnt, if_neg hle]
      omega
theorem ListComp_cnt {iter : Expr} {x rn : Str} {px p1 p2 p3 p4 pos : Pos} {scope : Scope} {cl : List (Str × Addr)} {Q : Value → Shared → Prop} (_F₀ : Fr h₀ L s.heap m) (hh : A.handled = none)
    (hclos : closureFor scope env = pure cl) (hcell : ∀ y ∈ scope.names, y.2 ≠ .cell) (hkf : scope.kind = .function)
    (hnames : ∀ y ∈ scope.names, y.2 = .local → scope.names.lookup y.1 = some .local) (hx : scope.names.lookup x = some .local)
    (hl : ∀ C, (compEnvC scope cl C env).kindOf x = some .local) (hr : ∀ C, (compEnvC scope cl C env).kindOf rn = some .cell) (hxd : (x == ("__debug__" : Str)) = false) (hrd : (rn == ("__debug__" : Str)) = false)
    (hs : ∀ x, foldedSetIterable iter env x = pure x)
    (h : wpAny (model prog w) A (eval iter env) (CntSrc h₀ L m cl rn Q) E s) :
    wpAny (model prog w) A (eval (.ListComp (.Name x p4) [⟨.Name x px, iter, [.Compare (.Name x p1) [.LtE] [.Name rn p2] p3], 0⟩] scope pos) env) Q E s := by
  rw [eval_ListComp]
  refine wpAny_comprehension_free (use := none) rfl hs hclos hkf hnames (wpAny_mono h (fun xv s₁ h₁ => ?_) fun _ _ e => e)
  obtain ⟨ax, ps, c, oc, r, tr, news, rfl, F, N, T₀, hsz, hcl, hm, hoc, R⟩ := h₁
  have hT : s₁.heap.IsTuple ax (ps.map fun p => Value.int p.1 p.2).toArray := let ⟨o, e, q⟩ := T₀; ⟨o, F.keep _ _ e, q⟩
  have hlt : ax < s₁.heap.objs.size := let ⟨_, e, _⟩ := hT; Heap.lt_size e
  refine wpAny_pyIter_tuple hT ?_
  have up : ∀ b o, s₁.heap.get? b = some o → (s₁.heap.push { cls := .type "tuple_iterator", data := .fields #[.ref ax, .int 0 0] }).get? b = some o := fun b o e => Heap.get?_push_of_some _ e
  have hn : (ps.map fun p => Value.int p.1 p.2).toArray.size = ps.length := by simp
  refine block_T (P := fun i v => (ps.map fun p => Value.int p.1 p.2).toArray[i]? = some v) (Walks.tuple hh s₁.heap.objs.size ax (Nat.ne_of_lt hlt) _) (by rw [hn]; exact hsz) (fun i h st => let ⟨o, e, _⟩ := st.1; ⟨o, e⟩)
    (fun i h h' o nw st e e' k N' _ => ⟨let ⟨o', a, b⟩ := st.1; ⟨o', by rw [a] at e; rw [e', e], b⟩, let ⟨o', a, b⟩ := T₀; ⟨o', k _ _ a, b⟩⟩) hcell hkf hx
    ⟨⟨_, Heap.get?_push_size _ rfl, rfl, rfl⟩, let ⟨o', a, b⟩ := hT; ⟨o', up _ _ a, b⟩⟩ (fun b hb => ?_)
    (F.keeps up) (N.grown up) (Nat.ne_of_lt F.ns.lt) (next_is_new F) (fun p hp => Nat.ne_of_lt (Heap.lt_size (N p hp).1)) trivial
    (Fin := fun ys nw => nw = news ∧ ys.length = cnt r (ps.map Prod.fst)) (cnt_rest hkf hl hr hxd hrd hcl hm hoc _ 0 [] (by rw [hn, Nat.zero_add]) fun ys' hy => ⟨rfl, by simpa using hy⟩) ?_
  · show b < (s₁.heap.push _).objs.size
    rw [Heap.size_push]
    rcases List.mem_cons.mp hb with rfl | hb
    · exact Nat.lt_succ_self _
    · rw [List.mem_singleton.mp hb]; exact Nat.lt_succ_of_lt hlt
  · intro D C h tk m' ys news' F' N' o1 hn hC₀ hD₀ hCL hDL hCD offC fin
    obtain ⟨rfl, hy⟩ := fin
    refine ⟨m', hn, fun h'' hs'' => R ys D h'' tk hy (F'.change hs'' hCL hC₀) (fun p hp => ?_) o1⟩
    refine ⟨hs''.extBut _ _ ?_ (N' p hp).1, (N' p hp).2⟩
    rcases List.mem_cons.mp hp with rfl | hp
    · exact Ne.symm hCD
    · exact offC p hp

theorem CntSrc.intro {K : Frag} {cl : List (Str × Addr)} {rn : Str} {Q : Value → Shared → Prop} {ax : Addr} {lo : Obj} {n : Nat} {c : Addr} {oc : Obj} {r : Int} {tr : Tok} {news : List (Addr × Obj)} {t1 t2 t3 t4 t5 t6 t7 : Tok}
    (F : Fr h₀ L s.heap m) (N : News h₀ L s.heap news) (X₀ : K.In h₀) (hk : K.lookup ax = some lo) (hc : lo.cls = .type "tuple")
    (hd : lo.data = .seq #[.int 3 t1, .int 6 t2, .int 8 t3, .int 11 t4, .int 14 t5, .int 17 t6, .int 19 t7] n)
    (hcl : cl.lookup rn = some c) (hm : (c, oc) ∈ news) (hoc : oc.data = .cell (some (.int r tr)))
    (R : ∀ ys D h tk, (ys : List Value).length = cnt r [3, 6, 8, 11, 14, 17, 19] → Fr h₀ L h m → News h₀ L h ((D, lst ys) :: news) → Off1 D news → Q (.ref D) { s with heap := h, toks := tk }) :
    CntSrc h₀ L m cl rn Q (.ref ax) s :=
  ⟨ax, [(3, t1), (6, t2), (8, t3), (11, t4), (14, t5), (17, t6), (19, t7)], c, oc, r, tr, news, rfl, F, N, ⟨lo, X₀ _ _ hk, hc, n, hd⟩, Nat.le_of_ble_eq_true rfl, hcl, hm, hoc, R⟩

theorem cnt_le (r : Int) : ∀ l, cnt r l ≤ l.length
  | [] => Nat.le_refl _
  | a :: l => by
    have := cnt_le r l
    unfold cnt
    rw [List.length_cons]
    split <;> omega
def emb (r : Int) : Int := ((cnt r [3, 6, 8, 11, 14, 17, 19] : Nat) : Int)
theorem len_cnt {D : Addr} {news : List (Addr × Obj)} {ys : List Value} {r : Int} {Q : Value → Shared → Prop} (N : News h₀ L s.heap news) (hm : (D, lst ys) ∈ news)
    (hy : ys.length = cnt r [3, 6, 8, 11, 14, 17, 19]) (h : ∀ t tk, Q (.int (emb r) t) { s with toks := tk }) : wpAny (model prog w) A (call (.builtin "len") [.ref D]) Q E s := by
  have hc := cnt_le r [3, 6, 8, 11, 14, 17, 19]
  simp only [List.length_cons, List.length_nil] at hc
  have hsz : ys.toArray.size = cnt r [3, 6, 8, 11, 14, 17, 19] := by rw [List.size_toArray, hy]
  have e : ((ys.toArray.size : Nat) : Int) = emb r := by rw [hsz]; rfl
  refine len_list (items := ys.toArray) ⟨_, (N _ hm).1, rfl, _, rfl⟩ (by rw [hsz]; omega) ?_
  rw [e]
  exact h _ _
theorem notin_emb {K : Frag} {ax : Addr} {lo : Obj} {n : Nat} {t1 t2 t3 t4 t5 t6 t7 u : Tok} {x : Int} {Q : Value → Shared → Prop}
    (F : Fr h₀ L s.heap m) (X₀ : K.In h₀) (hk : K.lookup ax = some lo) (hc : lo.cls = .type "tuple")
    (hd : lo.data = .seq #[.int 3 t1, .int 6 t2, .int 8 t3, .int 11 t4, .int 14 t5, .int 17 t6, .int 19 t7] n)
    (h : Q (.bool (!([3, 6, 8, 11, 14, 17, 19].any (· == x)))) s) : wpAny (model prog w) A (compareOp .NotIn (.int x u) (.ref ax)) Q E s :=
  notin_tuple_ints ⟨lo, F.keep _ _ (X₀ _ _ hk), hc, n, hd⟩ (.cons 3 t1 (.cons 6 t2 (.cons 8 t3 (.cons 11 t4 (.cons 14 t5 (.cons 17 t6 (.cons 19 t7 .nil))))))) h
end
end Mine

/-! What the two delays hold, and the ends of the walks -/
namespace Mine
theorem fd (a : Int) (n : Nat) : Int.fdiv a (n : Int) = a / (n : Int) := Int.fdiv_eq_ediv_of_nonneg a (Int.natCast_nonneg n)
theorem fm (a : Int) (n : Nat) : Int.fmod a (n : Int) = a % (n : Int) := Int.fmod_eq_emod_of_nonneg a (Int.natCast_nonneg n)
theorem fd19 (a : Int) : Int.fdiv a 19 = a / 19 := fd a 19
theorem fm19 (a : Int) : Int.fmod a 19 = a % 19 := fm a 19
theorem fdp (a : Int) : Int.fdiv a 25920 = a / 25920 := fd a 25920
theorem fmp (a : Int) : Int.fmod a 25920 = a % 25920 := fm a 25920
theorem fm7 (a : Int) : Int.fmod a 7 = a % 7 := fm a 7

def day (y : Int) : Int := (Int.fdiv (235 * y - 234) 19) * 29 + Int.fdiv (12084 + 13753 * (Int.fdiv (235 * y - 234) 19)) 25920
def e1 (y : Int) : Int := if Int.fmod (3 * (day y + 1)) 7 < 3 then day y + 1 else day y
theorem e1_some (y : Int) : ∃ d, d = e1 y := ⟨_, rfl⟩
noncomputable def D1 (y : Int) : Int := Classical.choose (e1_some y)
theorem d1_def (y : Int) : D1 y = e1 y := Classical.choose_spec (e1_some y)
noncomputable def e2 (y : Int) : Int := if D1 (y + 1) - D1 y = 356 then 2 else if D1 y - D1 (y - 1) = 382 then 1 else 0
theorem e2_some (y : Int) : ∃ d, d = e2 y := ⟨_, rfl⟩
noncomputable def D2 (y : Int) : Int := Classical.choose (e2_some y)
theorem d2_def (y : Int) : D2 y = e2 y := Classical.choose_spec (e2_some y)
theorem d1_up (y : Int) (h : Int.fmod (3 * ((Int.fdiv (235 * y - 234) 19) * 29 + Int.fdiv (12084 + 13753 * (Int.fdiv (235 * y - 234) 19)) 25920 + 1)) 7 < 3) :
    (Int.fdiv (235 * y - 234) 19) * 29 + Int.fdiv (12084 + 13753 * (Int.fdiv (235 * y - 234) 19)) 25920 + 1 = D1 y := by
  rw [d1_def]; unfold e1 day; rw [if_pos h]
theorem d1_on (y : Int) (h : ¬ Int.fmod (3 * ((Int.fdiv (235 * y - 234) 19) * 29 + Int.fdiv (12084 + 13753 * (Int.fdiv (235 * y - 234) 19)) 25920 + 1)) 7 < 3) :
    (Int.fdiv (235 * y - 234) 19) * 29 + Int.fdiv (12084 + 13753 * (Int.fdiv (235 * y - 234) 19)) 25920 = D1 y := by
  rw [d1_def]; unfold e1 day; rw [if_neg h]
theorem d2_two (y : Int) (h : D1 (y + 1) - D1 y = 356) : 2 = D2 y := by
  rw [d2_def]; unfold e2; rw [if_pos h]
theorem d2_one (y : Int) (h : ¬ D1 (y + 1) - D1 y = 356) (h' : D1 y - D1 (y - 1) = 382) : 1 = D2 y := by
  rw [d2_def]; unfold e2; rw [if_neg h, if_pos h']
theorem d2_nought (y : Int) (h : ¬ D1 (y + 1) - D1 y = 356) (h' : ¬ D1 y - D1 (y - 1) = 382) : 0 = D2 y := by
  rw [d2_def]; unfold e2; rw [if_neg h, if_neg h']

theorem D1_gg (y : Int) : D1 y = gg (cc (mo y)) := by
  have hd : day y + 1 = cc (mo y) := by
    unfold day mo
    rw [fd19, fdp]
    exact day_is _
  have hd' : day y = cc (mo y) - 1 := by omega
  rw [d1_def]
  unfold e1 gg
  rw [hd, hd', fm7]
  by_cases h : (3 * cc (mo y)) % 7 < 3
  · rw [if_pos h, if_pos ((up_iff _).mp h)]
  · rw [if_neg h, if_neg (fun q => h ((up_iff _).mpr q))]
theorem D2_is (y : Int) : D2 y = if D1 (y + 1) - D1 y = 356 then 2 else if D1 y - D1 (y - 1) = 382 then 1 else 0 := by
  rw [d2_def]; rfl

theorem mo_back (y : Int) : mo y = mo (y - 1) + 12 ∨ mo y = mo (y - 1) + 13 := by
  have h := mo_next (y - 1)
  rwa [show y - 1 + 1 = y by omega] at h
/-- the growth from a year to the next -/
theorem onward (y : Int) : (mo (y + 1) = mo y + 12 ∧ (D1 (y + 1) - D1 y = 353 ∨ D1 (y + 1) - D1 y = 354 ∨ D1 (y + 1) - D1 y = 355 ∨ (D1 (y + 1) - D1 y = 356 ∧ cc (mo y) % 7 = 2 ∧ 16404 ≤ qq (mo y)))) ∨
    (mo (y + 1) = mo y + 13 ∧ ((D1 (y + 1) - D1 y = 382 ∧ cc (mo (y + 1)) % 7 = 1 ∧ 23269 ≤ qq (mo (y + 1))) ∨ D1 (y + 1) - D1 y = 383 ∨ D1 (y + 1) - D1 y = 384 ∨ D1 (y + 1) - D1 y = 385)) := by
  rw [D1_gg (y + 1), D1_gg y]
  rcases mo_next y with h | h
  · refine .inl ⟨h, ?_⟩
    rw [h]; exact grow12 _
  · refine .inr ⟨h, ?_⟩
    rw [h]; exact grow13 _
theorem back (y : Int) : (mo y = mo (y - 1) + 12 ∧ (D1 y - D1 (y - 1) = 353 ∨ D1 y - D1 (y - 1) = 354 ∨ D1 y - D1 (y - 1) = 355 ∨ D1 y - D1 (y - 1) = 356)) ∨
    (mo y = mo (y - 1) + 13 ∧ ((D1 y - D1 (y - 1) = 382 ∧ cc (mo y) % 7 = 1 ∧ 23269 ≤ qq (mo y)) ∨ D1 y - D1 (y - 1) = 383 ∨ D1 y - D1 (y - 1) = 384 ∨ D1 y - D1 (y - 1) = 385)) := by
  have h := onward (y - 1)
  rw [show y - 1 + 1 = y by omega] at h
  rcases h with ⟨h, q⟩ | h
  · exact .inl ⟨h, by omega⟩
  · exact .inr h
theorem at356 (y : Int) (hm : mo (y + 1) = mo y + 12) (h2 : cc (mo y) % 7 = 2) (hq : 16404 ≤ qq (mo y)) : D1 (y + 1) - D1 y = 356 := by
  rw [D1_gg, D1_gg, hm]; exact is356 _ h2 hq
theorem at382 (y : Int) (hm : mo y = mo (y - 1) + 13) (h2 : cc (mo y) % 7 = 1) (hq : 23269 ≤ qq (mo y)) : D1 y - D1 (y - 1) = 382 := by
  rw [hm] at h2 hq
  rw [D1_gg y, D1_gg (y - 1), hm]; exact is382 _ h2 hq

theorem yr1 (y : Int) : (([353, 354, 355, 356, 382, 383, 384, 385] : List Int).any fun x => x == D1 (y + 1) - D1 y) = true := by
  have h := onward y
  simp only [List.any_cons, List.any_nil, Bool.or_eq_true, beq_iff_eq, Bool.or_false]
  omega
theorem D2_two (y : Int) : D2 y = 2 ↔ D1 (y + 1) - D1 y = 356 := by
  rw [D2_is]
  by_cases h : D1 (y + 1) - D1 y = 356
  · rw [if_pos h]; exact ⟨fun _ => h, fun _ => rfl⟩
  · rw [if_neg h]
    refine ⟨fun q => ?_, fun q => absurd q h⟩
    split at q <;> omega
theorem D2_one (y : Int) : D2 y = 1 ↔ D1 y - D1 (y - 1) = 382 := by
  rw [D2_is]
  by_cases h : D1 (y + 1) - D1 y = 356
  · rw [if_pos h]
    refine ⟨fun q => by omega, fun q => ?_⟩
    have a := onward y
    have b := back y
    omega
  · rw [if_neg h]
    by_cases h' : D1 y - D1 (y - 1) = 382
    · rw [if_pos h']; exact ⟨fun _ => h', fun _ => rfl⟩
    · rw [if_neg h']
      exact ⟨fun q => by omega, fun q => absurd q h'⟩
theorem D2_rng (y : Int) : D2 y = 0 ∨ D2 y = 1 ∨ D2 y = 2 := by
  rw [D2_is]; split <;> (try split) <;> omega
theorem beq_bool (a b c d : Int) (h : a = b ↔ c = d) : ((a == b) == (c == d)) = true := by
  by_cases q : a = b
  · rw [beq_iff_eq.mpr q, beq_iff_eq.mpr (h.mp q)]; rfl
  · rw [beq_eq_false_iff_ne.mpr q, beq_eq_false_iff_ne.mpr (fun r => q (h.mpr r))]; rfl
theorem yr2 (y : Int) : ((D1 (y + 1) - D1 y == 356) == (D2 y == 2)) = true := beq_bool _ _ _ _ (D2_two y).symm
theorem yr3 (y : Int) : ((D1 y - D1 (y - 1) == 382) == (D2 y == 1)) = true := beq_bool _ _ _ _ (D2_one y).symm
theorem yr1_no (y : Int) (h : (([353, 354, 355, 356, 382, 383, 384, 385] : List Int).any fun x => x == D1 (y + 1) - D1 y) = false) : false = true := by
  rw [yr1] at h; exact h.symm
theorem ne_no (a : Int) (h : a ≠ a) : false = true := absurd rfl h

theorem emb_at (r : Int) (h0 : 0 ≤ r) (h1 : r < 19) : emb r = (7 * r + 1) / 19 := by
  have h : r = 0 ∨ r = 1 ∨ r = 2 ∨ r = 3 ∨ r = 4 ∨ r = 5 ∨ r = 6 ∨ r = 7 ∨ r = 8 ∨ r = 9 ∨ r = 10 ∨ r = 11 ∨ r = 12 ∨ r = 13 ∨ r = 14 ∨ r = 15 ∨ r = 16 ∨ r = 17 ∨ r = 18 := by omega
  rcases h with rfl | rfl | rfl | rfl | rfl | rfl | rfl | rfl | rfl | rfl | rfl | rfl | rfl | rfl | rfl | rfl | rfl | rfl | rfl <;> decide
theorem moons (y : Int) : (235 * Int.fdiv (y - 1) 19 + 12 * Int.fmod (y - 1) 19 + emb (Int.fmod (y - 1) 19)) = mo y := by
  rw [fd19, fm19, emb_at _ (by omega) (by omega)]
  unfold mo
  omega
theorem leap_iff (y : Int) : (([3, 6, 8, 11, 14, 17, 19] : List Int).any fun x => x == Int.fmod (y - 1) 19 + 1) = true ↔ mo (y + 1) = mo y + 13 := by
  rw [fm19]
  have hy : y - 1 = 19 * ((y - 1) / 19) + (y - 1) % 19 := by omega
  have h0 : 0 ≤ (y - 1) % 19 := by omega
  have h1 : (y - 1) % 19 < 19 := by omega
  generalize (y - 1) % 19 = r at *
  generalize (y - 1) / 19 = w at *
  have hy' : y = 19 * w + r + 1 := by omega
  subst hy'
  simp only [List.any_cons, List.any_nil, Bool.or_eq_true, beq_iff_eq, Bool.or_false]
  unfold mo
  have h : r = 0 ∨ r = 1 ∨ r = 2 ∨ r = 3 ∨ r = 4 ∨ r = 5 ∨ r = 6 ∨ r = 7 ∨ r = 8 ∨ r = 9 ∨ r = 10 ∨ r = 11 ∨ r = 12 ∨ r = 13 ∨ r = 14 ∨ r = 15 ∨ r = 16 ∨ r = 17 ∨ r = 18 := by omega
  rcases h with rfl | rfl | rfl | rfl | rfl | rfl | rfl | rfl | rfl | rfl | rfl | rfl | rfl | rfl | rfl | rfl | rfl | rfl | rfl <;> omega
theorem leap_not (y : Int) : (([3, 6, 8, 11, 14, 17, 19] : List Int).any fun x => x == Int.fmod (y - 1) 19 + 1) = false ↔ mo (y + 1) = mo y + 12 := by
  have h := leap_iff y
  have h' := mo_next y
  cases hb : (([3, 6, 8, 11, 14, 17, 19] : List Int).any fun x => x == Int.fmod (y - 1) 19 + 1) with
  | true => rw [hb] at h; simp at h; simp; omega
  | false => rw [hb] at h; simp at h; simp; omega
theorem leapB_iff (y : Int) : (([3, 6, 8, 11, 14, 17, 19] : List Int).any fun x => x == Int.fmod (y - 1 - 1) 19 + 1) = true ↔ mo y = mo (y - 1) + 13 := by
  have h := leap_iff (y - 1)
  rwa [show y - 1 + 1 = y by omega] at h
theorem leapB_not (y : Int) : (([3, 6, 8, 11, 14, 17, 19] : List Int).any fun x => x == Int.fmod (y - 1 - 1) 19 + 1) = false ↔ mo y = mo (y - 1) + 12 := by
  have h := leap_not (y - 1)
  rwa [show y - 1 + 1 = y by omega] at h
/-- the moon's day and parts, by cc and qq -/
theorem moon_at (y : Int) : (19440 ≤ (Int.fmod (31524 + 765433 * (235 * Int.fdiv (y - 1) 19 + 12 * Int.fmod (y - 1) 19 + emb (Int.fmod (y - 1) 19))) 25920) ∧ (Int.fdiv (31524 + 765433 * (235 * Int.fdiv (y - 1) 19 + 12 * Int.fmod (y - 1) 19 + emb (Int.fmod (y - 1) 19))) 25920) + 1 = cc (mo y) ∧ qq (mo y) = (Int.fmod (31524 + 765433 * (235 * Int.fdiv (y - 1) 19 + 12 * Int.fmod (y - 1) 19 + emb (Int.fmod (y - 1) 19))) 25920) - 19440) ∨ (¬ 19440 ≤ (Int.fmod (31524 + 765433 * (235 * Int.fdiv (y - 1) 19 + 12 * Int.fmod (y - 1) 19 + emb (Int.fmod (y - 1) 19))) 25920) ∧ (Int.fdiv (31524 + 765433 * (235 * Int.fdiv (y - 1) 19 + 12 * Int.fmod (y - 1) 19 + emb (Int.fmod (y - 1) 19))) 25920) = cc (mo y) ∧ qq (mo y) = (Int.fmod (31524 + 765433 * (235 * Int.fdiv (y - 1) 19 + 12 * Int.fmod (y - 1) 19 + emb (Int.fmod (y - 1) 19))) 25920) + 6480) := by
  rw [fmp, fdp, moons]
  unfold cc qq
  omega
theorem any7 (c : Int) : (([0, 3, 5] : List Int).any fun x => x == Int.fmod c 7) = true ↔ (c % 7 = 0 ∨ c % 7 = 3 ∨ c % 7 = 5) := by
  rw [fm7]
  simp only [List.any_cons, List.any_nil, Bool.or_eq_true, beq_iff_eq, Bool.or_false]
  omega
theorem any7_not (c : Int) (h : (([0, 3, 5] : List Int).any fun x => x == Int.fmod c 7) = false) : ¬ (c % 7 = 0 ∨ c % 7 = 3 ∨ c % 7 = 5) := fun q => by
  rw [(any7 c).mpr q] at h; cases h
theorem gg_on (c : Int) (h : (([0, 3, 5] : List Int).any fun x => x == Int.fmod c 7) = true) : gg c = c := if_pos ((any7 c).mp h)
theorem gg_off (c : Int) (h : (([0, 3, 5] : List Int).any fun x => x == Int.fmod c 7) = false) : gg c = c - 1 := if_neg (any7_not c h)
theorem f_late (y : Int) (h : 19440 ≤ (Int.fmod (31524 + 765433 * (235 * Int.fdiv (y - 1) 19 + 12 * Int.fmod (y - 1) 19 + emb (Int.fmod (y - 1) 19))) 25920)) (q : (([0, 3, 5] : List Int).any fun x => x == Int.fmod ((Int.fdiv (31524 + 765433 * (235 * Int.fdiv (y - 1) 19 + 12 * Int.fmod (y - 1) 19 + emb (Int.fmod (y - 1) 19))) 25920) + 1) 7) = true) : (Int.fdiv (31524 + 765433 * (235 * Int.fdiv (y - 1) 19 + 12 * Int.fmod (y - 1) 19 + emb (Int.fmod (y - 1) 19))) 25920) + 1 = D1 y := by
  have m := moon_at y
  rw [show (Int.fdiv (31524 + 765433 * (235 * Int.fdiv (y - 1) 19 + 12 * Int.fmod (y - 1) 19 + emb (Int.fmod (y - 1) 19))) 25920) + 1 = cc (mo y) by omega] at q ⊢
  rw [D1_gg, gg_on _ q]
theorem f_late' (y : Int) (h : 19440 ≤ (Int.fmod (31524 + 765433 * (235 * Int.fdiv (y - 1) 19 + 12 * Int.fmod (y - 1) 19 + emb (Int.fmod (y - 1) 19))) 25920)) (q : (([0, 3, 5] : List Int).any fun x => x == Int.fmod ((Int.fdiv (31524 + 765433 * (235 * Int.fdiv (y - 1) 19 + 12 * Int.fmod (y - 1) 19 + emb (Int.fmod (y - 1) 19))) 25920) + 1) 7) = false) : (Int.fdiv (31524 + 765433 * (235 * Int.fdiv (y - 1) 19 + 12 * Int.fmod (y - 1) 19 + emb (Int.fmod (y - 1) 19))) 25920) + 1 - 1 = D1 y := by
  have m := moon_at y
  rw [show (Int.fdiv (31524 + 765433 * (235 * Int.fdiv (y - 1) 19 + 12 * Int.fmod (y - 1) 19 + emb (Int.fmod (y - 1) 19))) 25920) + 1 = cc (mo y) by omega] at q ⊢
  rw [D1_gg, gg_off _ q]
theorem f_soon (y : Int) (h : ¬ 19440 ≤ (Int.fmod (31524 + 765433 * (235 * Int.fdiv (y - 1) 19 + 12 * Int.fmod (y - 1) 19 + emb (Int.fmod (y - 1) 19))) 25920)) (q : (([0, 3, 5] : List Int).any fun x => x == Int.fmod (Int.fdiv (31524 + 765433 * (235 * Int.fdiv (y - 1) 19 + 12 * Int.fmod (y - 1) 19 + emb (Int.fmod (y - 1) 19))) 25920) 7) = true) : (Int.fdiv (31524 + 765433 * (235 * Int.fdiv (y - 1) 19 + 12 * Int.fmod (y - 1) 19 + emb (Int.fmod (y - 1) 19))) 25920) = D1 y := by
  have m := moon_at y
  rw [show (Int.fdiv (31524 + 765433 * (235 * Int.fdiv (y - 1) 19 + 12 * Int.fmod (y - 1) 19 + emb (Int.fmod (y - 1) 19))) 25920) = cc (mo y) by omega] at q ⊢
  rw [D1_gg, gg_on _ q]
theorem f_soon' (y : Int) (h : ¬ 19440 ≤ (Int.fmod (31524 + 765433 * (235 * Int.fdiv (y - 1) 19 + 12 * Int.fmod (y - 1) 19 + emb (Int.fmod (y - 1) 19))) 25920)) (q : (([0, 3, 5] : List Int).any fun x => x == Int.fmod (Int.fdiv (31524 + 765433 * (235 * Int.fdiv (y - 1) 19 + 12 * Int.fmod (y - 1) 19 + emb (Int.fmod (y - 1) 19))) 25920) 7) = false) : (Int.fdiv (31524 + 765433 * (235 * Int.fdiv (y - 1) 19 + 12 * Int.fmod (y - 1) 19 + emb (Int.fmod (y - 1) 19))) 25920) - 1 = D1 y := by
  have m := moon_at y
  rw [show (Int.fdiv (31524 + 765433 * (235 * Int.fdiv (y - 1) 19 + 12 * Int.fmod (y - 1) 19 + emb (Int.fmod (y - 1) 19))) 25920) = cc (mo y) by omega] at q ⊢
  rw [D1_gg, gg_off _ q]

theorem two_of (y : Int) (h2 : cc (mo y) % 7 = 2) (hq : 16404 ≤ qq (mo y)) (hm : mo (y + 1) = mo y + 12) : 2 = D2 y := ((D2_two y).mpr (at356 y hm h2 hq)).symm
theorem one_of (y : Int) (h2 : cc (mo y) % 7 = 1) (hq : 23269 ≤ qq (mo y)) (hm : mo y = mo (y - 1) + 13) : 1 = D2 y := ((D2_one y).mpr (at382 y hm h2 hq)).symm
theorem none_of (y : Int) (h2 : ¬ (cc (mo y) % 7 = 2 ∧ 16404 ≤ qq (mo y) ∧ mo (y + 1) = mo y + 12)) (h1 : ¬ (cc (mo y) % 7 = 1 ∧ 23269 ≤ qq (mo y) ∧ mo y = mo (y - 1) + 13)) : 0 = D2 y := by
  have a := onward y
  have b := back y
  have n2 : ¬ D2 y = 2 := fun q => by
    have := (D2_two y).mp q
    omega
  have n1 : ¬ D2 y = 1 := fun q => by
    have := (D2_one y).mp q
    omega
  have := D2_rng y
  omega
theorem s_noon (y : Int) (h : 19440 ≤ (Int.fmod (31524 + 765433 * (235 * Int.fdiv (y - 1) 19 + 12 * Int.fmod (y - 1) 19 + emb (Int.fmod (y - 1) 19))) 25920)) : 0 = D2 y := by
  have m := moon_at y
  have r : (Int.fmod (31524 + 765433 * (235 * Int.fdiv (y - 1) 19 + 12 * Int.fmod (y - 1) 19 + emb (Int.fmod (y - 1) 19))) 25920) < 25920 := by rw [fmp]; omega
  exact none_of y (by omega) (by omega)
theorem s_both (y z : Int) (h : Int.fmod (Int.fdiv (31524 + 765433 * (235 * Int.fdiv (y - 1) 19 + 12 * Int.fmod (y - 1) 19 + emb (Int.fmod (y - 1) 19))) 25920) 7 = 2) (h' : Int.fmod (Int.fdiv (31524 + 765433 * (235 * Int.fdiv (y - 1) 19 + 12 * Int.fmod (y - 1) 19 + emb (Int.fmod (y - 1) 19))) 25920) 7 = 1) : z = D2 y := by omega
theorem s_two (y : Int) (h : ¬ 19440 ≤ (Int.fmod (31524 + 765433 * (235 * Int.fdiv (y - 1) 19 + 12 * Int.fmod (y - 1) 19 + emb (Int.fmod (y - 1) 19))) 25920)) (h2 : Int.fmod (Int.fdiv (31524 + 765433 * (235 * Int.fdiv (y - 1) 19 + 12 * Int.fmod (y - 1) 19 + emb (Int.fmod (y - 1) 19))) 25920) 7 = 2) (hq : 9924 ≤ (Int.fmod (31524 + 765433 * (235 * Int.fdiv (y - 1) 19 + 12 * Int.fmod (y - 1) 19 + emb (Int.fmod (y - 1) 19))) 25920)) (hl : (([3, 6, 8, 11, 14, 17, 19] : List Int).any fun x => x == Int.fmod (y - 1) 19 + 1) = false) : 2 = D2 y := by
  have m := moon_at y
  rw [fm7] at h2
  have e : (Int.fdiv (31524 + 765433 * (235 * Int.fdiv (y - 1) 19 + 12 * Int.fmod (y - 1) 19 + emb (Int.fmod (y - 1) 19))) 25920) = cc (mo y) := by omega
  rw [e] at h2
  exact two_of y h2 (by omega) ((leap_not y).mp hl)
theorem s_leap (y : Int) (h : ¬ 19440 ≤ (Int.fmod (31524 + 765433 * (235 * Int.fdiv (y - 1) 19 + 12 * Int.fmod (y - 1) 19 + emb (Int.fmod (y - 1) 19))) 25920)) (h2 : Int.fmod (Int.fdiv (31524 + 765433 * (235 * Int.fdiv (y - 1) 19 + 12 * Int.fmod (y - 1) 19 + emb (Int.fmod (y - 1) 19))) 25920) 7 = 2) (hl : (([3, 6, 8, 11, 14, 17, 19] : List Int).any fun x => x == Int.fmod (y - 1) 19 + 1) = true) : 0 = D2 y := by
  have m := moon_at y
  rw [fm7] at h2
  have e : (Int.fdiv (31524 + 765433 * (235 * Int.fdiv (y - 1) 19 + 12 * Int.fmod (y - 1) 19 + emb (Int.fmod (y - 1) 19))) 25920) = cc (mo y) := by omega
  rw [e] at h2
  have l := (leap_iff y).mp hl
  exact none_of y (by omega) (by omega)
theorem s_few2 (y : Int) (h : ¬ 19440 ≤ (Int.fmod (31524 + 765433 * (235 * Int.fdiv (y - 1) 19 + 12 * Int.fmod (y - 1) 19 + emb (Int.fmod (y - 1) 19))) 25920)) (h2 : Int.fmod (Int.fdiv (31524 + 765433 * (235 * Int.fdiv (y - 1) 19 + 12 * Int.fmod (y - 1) 19 + emb (Int.fmod (y - 1) 19))) 25920) 7 = 2) (hq : ¬ 9924 ≤ (Int.fmod (31524 + 765433 * (235 * Int.fdiv (y - 1) 19 + 12 * Int.fmod (y - 1) 19 + emb (Int.fmod (y - 1) 19))) 25920)) : 0 = D2 y := by
  have m := moon_at y
  rw [fm7] at h2
  have e : (Int.fdiv (31524 + 765433 * (235 * Int.fdiv (y - 1) 19 + 12 * Int.fmod (y - 1) 19 + emb (Int.fmod (y - 1) 19))) 25920) = cc (mo y) := by omega
  rw [e] at h2
  exact none_of y (by omega) (by omega)
theorem s_one (y : Int) (h : ¬ 19440 ≤ (Int.fmod (31524 + 765433 * (235 * Int.fdiv (y - 1) 19 + 12 * Int.fmod (y - 1) 19 + emb (Int.fmod (y - 1) 19))) 25920)) (h2 : Int.fmod (Int.fdiv (31524 + 765433 * (235 * Int.fdiv (y - 1) 19 + 12 * Int.fmod (y - 1) 19 + emb (Int.fmod (y - 1) 19))) 25920) 7 = 1) (hq : 16789 ≤ (Int.fmod (31524 + 765433 * (235 * Int.fdiv (y - 1) 19 + 12 * Int.fmod (y - 1) 19 + emb (Int.fmod (y - 1) 19))) 25920)) (hl : (([3, 6, 8, 11, 14, 17, 19] : List Int).any fun x => x == Int.fmod (y - 1 - 1) 19 + 1) = true) : 1 = D2 y := by
  have m := moon_at y
  rw [fm7] at h2
  have e : (Int.fdiv (31524 + 765433 * (235 * Int.fdiv (y - 1) 19 + 12 * Int.fmod (y - 1) 19 + emb (Int.fmod (y - 1) 19))) 25920) = cc (mo y) := by omega
  rw [e] at h2
  exact one_of y h2 (by omega) ((leapB_iff y).mp hl)
theorem s_com (y : Int) (h : ¬ 19440 ≤ (Int.fmod (31524 + 765433 * (235 * Int.fdiv (y - 1) 19 + 12 * Int.fmod (y - 1) 19 + emb (Int.fmod (y - 1) 19))) 25920)) (h2 : Int.fmod (Int.fdiv (31524 + 765433 * (235 * Int.fdiv (y - 1) 19 + 12 * Int.fmod (y - 1) 19 + emb (Int.fmod (y - 1) 19))) 25920) 7 = 1) (hl : (([3, 6, 8, 11, 14, 17, 19] : List Int).any fun x => x == Int.fmod (y - 1 - 1) 19 + 1) = false) : 0 = D2 y := by
  have m := moon_at y
  rw [fm7] at h2
  have e : (Int.fdiv (31524 + 765433 * (235 * Int.fdiv (y - 1) 19 + 12 * Int.fmod (y - 1) 19 + emb (Int.fmod (y - 1) 19))) 25920) = cc (mo y) := by omega
  rw [e] at h2
  have l := (leapB_not y).mp hl
  exact none_of y (by omega) (by omega)
theorem s_few1 (y : Int) (h : ¬ 19440 ≤ (Int.fmod (31524 + 765433 * (235 * Int.fdiv (y - 1) 19 + 12 * Int.fmod (y - 1) 19 + emb (Int.fmod (y - 1) 19))) 25920)) (h2 : Int.fmod (Int.fdiv (31524 + 765433 * (235 * Int.fdiv (y - 1) 19 + 12 * Int.fmod (y - 1) 19 + emb (Int.fmod (y - 1) 19))) 25920) 7 = 1) (hq : ¬ 16789 ≤ (Int.fmod (31524 + 765433 * (235 * Int.fdiv (y - 1) 19 + 12 * Int.fmod (y - 1) 19 + emb (Int.fmod (y - 1) 19))) 25920)) : 0 = D2 y := by
  have m := moon_at y
  rw [fm7] at h2
  have e : (Int.fdiv (31524 + 765433 * (235 * Int.fdiv (y - 1) 19 + 12 * Int.fmod (y - 1) 19 + emb (Int.fmod (y - 1) 19))) 25920) = cc (mo y) := by omega
  rw [e] at h2
  exact none_of y (by omega) (by omega)
theorem s_no (y : Int) (h : ¬ 19440 ≤ (Int.fmod (31524 + 765433 * (235 * Int.fdiv (y - 1) 19 + 12 * Int.fmod (y - 1) 19 + emb (Int.fmod (y - 1) 19))) 25920)) (h2 : Int.fmod (Int.fdiv (31524 + 765433 * (235 * Int.fdiv (y - 1) 19 + 12 * Int.fmod (y - 1) 19 + emb (Int.fmod (y - 1) 19))) 25920) 7 ≠ 2) (h1 : Int.fmod (Int.fdiv (31524 + 765433 * (235 * Int.fdiv (y - 1) 19 + 12 * Int.fmod (y - 1) 19 + emb (Int.fmod (y - 1) 19))) 25920) 7 ≠ 1) : 0 = D2 y := by
  have m := moon_at y
  rw [fm7] at h2 h1
  have e : (Int.fdiv (31524 + 765433 * (235 * Int.fdiv (y - 1) 19 + 12 * Int.fmod (y - 1) 19 + emb (Int.fmod (y - 1) 19))) 25920) = cc (mo y) := by omega
  rw [e] at h2 h1
  exact none_of y (by omega) (by omega)

noncomputable def YM (y : Int) : Int := Classical.choose (⟨_, rfl⟩ : ∃ d, d = if Int.fmod (y * 7 + 1) 19 < 7 then (13 : Int) else 12)
theorem ym_def (y : Int) : YM y = if Int.fmod (y * 7 + 1) 19 < 7 then 13 else 12 := Classical.choose_spec (⟨_, rfl⟩ : ∃ d, d = if Int.fmod (y * 7 + 1) 19 < 7 then (13 : Int) else 12)
theorem ym_up (y : Int) (h : Int.fmod (y * 7 + 1) 19 < 7) : 13 = YM y := by rw [ym_def, if_pos h]
theorem ym_on (y : Int) (h : ¬ Int.fmod (y * 7 + 1) 19 < 7) : 12 = YM y := by rw [ym_def, if_neg h]
theorem yd_some (y : Int) : ∃ d, d = D1 (y + 1) + D2 (y + 1) - (D1 y + D2 y) := ⟨_, rfl⟩
noncomputable def YD (y : Int) : Int := Classical.choose (yd_some y)
theorem yd_def (y : Int) : YD y = D1 (y + 1) + D2 (y + 1) - (D1 y + D2 y) := Classical.choose_spec (yd_some y)
theorem yd_is (y : Int) : 347996 + D1 (y + 1) + D2 (y + 1) + 1 + 1 - (347996 + D1 y + D2 y + 1 + 1) = YD y := by rw [yd_def]; omega
theorem same (n : Int) : (n == n) = true := by simp
theorem m_jd (y : Int) (h : 347996 + D1 y + D2 y + 1 + 1 ≠ 347998 + (D1 y + D2 y)) : false = true := absurd (by omega) h
theorem m_to {p : Prop} (y n : Int) (h : Int.fmod (YD y) 10 = n) (h' : Int.fmod (D1 (y + 1) + D2 (y + 1) - (D1 y + D2 y)) 10 ≠ n) : p := absurd h (by rw [yd_def]; exact h')
theorem m_fro {p : Prop} (y n : Int) (h : Int.fmod (YD y) 10 ≠ n) (h' : Int.fmod (D1 (y + 1) + D2 (y + 1) - (D1 y + D2 y)) 10 = n) : p := absurd (by rw [yd_def]; exact h') h
theorem d1_nn (y : Int) : y ≤ 0 ∨ 0 ≤ D1 y := by
  rw [D1_gg]
  unfold gg cc mo
  by_cases h : y ≤ 0
  · exact .inl h
  · refine .inr ?_
    split <;> omega
theorem d2_nn (y : Int) : 0 ≤ D2 y := by
  have := D2_rng y
  omega
end Mine

/-! The head, and the steps of my own -/
namespace Mine
open_top hd for PySem.Challenge.rw_aq6006_01
theorem divmodK {prog : Program} {w : World} {A : Around} {E : Value → Shared → Prop} {s : Shared} {a b : Int} {t u : Tok} {Q : Value → Shared → Prop}
    {h₀ : Heap} {L : Addr} {m : Str → Option Value} {news : List (Addr × Obj)} (F : Fr h₀ L s.heap m) (N : News h₀ L s.heap news) (hb : b ≠ 0)
    (h : ∀ l t1 t2 tk' h', Fr h₀ L h' m → News h₀ L h' ((l, { cls := .type "tuple", data := .seq #[.int (a.fdiv b) t1, .int (a.fmod b) t2] }) :: news) → (∀ p ∈ news, p.1 < l) →
      Q (.ref l) { s with toks := tk', heap := h' })
    (hp : Builtin.divisionGoesByPylong a b = false) :
    wpAny (model prog w) A (call (.builtin "divmod") [.int a t, .int b u]) Q E s :=
  divmod_N F N hb (fun h' F' N' => h _ _ _ _ h' F' N' (fun p hp => Heap.lt_size (N p hp).1)) (Or.inl hp)
theorem tl1 {h₀ h : Heap} {L : Addr} {p : Addr × Obj} {l : List (Addr × Obj)} (N : News h₀ L h (p :: l)) : News h₀ L h l := fun q hq => N q (.tail _ hq)
theorem all_ne {d c : Nat} {l : List (Addr × Obj)} (h : ∀ p ∈ l, p.1 < d) (hc : d ≤ c) : ∀ p ∈ l, p.1 ≠ c := fun p hp => Nat.ne_of_lt (Nat.lt_of_lt_of_le (h p hp) hc)
end Mine
open Mine
local macro_rules | `(tactic| walk_at "eval Call") => `(tactic| (k_here; (first
  | (with_reducible show wpAny _ _ (eval (Expr.Call (Expr.Name (Str.ofString "delay_1") _) _ _ _) _) _ _ _)
  | (with_reducible show wpAny _ _ (eval (Expr.Call (Expr.Name (Str.ofString "delay_2") _) _ _ _) _) _ _ _)
  | (with_reducible show wpAny _ _ (eval (Expr.Call (Expr.Name (Str.ofString "_law_first") _) _ _ _) _) _ _ _)
  | (with_reducible show wpAny _ _ (eval (Expr.Call (Expr.Name (Str.ofString "_law_second") _) _ _ _) _) _ _ _)
  | (with_reducible show wpAny _ _ (eval (Expr.Call (Expr.Name (Str.ofString "_law_year_right") _) _ _ _) _) _ _ _)
  | (with_reducible show wpAny _ _ (eval (Expr.Call (Expr.Name (Str.ofString "_law_months_right") _) _ _ _) _) _ _ _)
  | (with_reducible show wpAny _ _ (eval (Expr.Call (Expr.Name (Str.ofString "_law_common") _) _ _ _) _) _ _ _)
  | (with_reducible show wpAny _ _ (eval (Expr.Call (Expr.Name (Str.ofString "year_days") _) _ _ _) _) _ _ _)
  | (with_reducible show wpAny _ _ (eval (Expr.Call (Expr.Name (Str.ofString "to_jd") _) _ _ _) _) _ _ _)
  | (with_reducible show wpAny _ _ (eval (Expr.Call (Expr.Name (Str.ofString "month_days") _) _ _ _) _) _ _ _)
  | (with_reducible show wpAny _ _ (eval (Expr.Call (Expr.Name (Str.ofString "month_length") _) _ _ _) _) _ _ _)
  | (with_reducible show wpAny _ _ (eval (Expr.Call (Expr.Name (Str.ofString "midnight") _) _ _ _) _) _ _ _)
  | (with_reducible show wpAny _ _ (eval (Expr.Call (Expr.Name (Str.ofString "_law_moon") _) _ _ _) _) _ _ _)
  | (with_reducible show wpAny _ _ (eval (Expr.Call (Expr.Name (Str.ofString "leap") _) _ _ _) _) _ _ _)
  | (with_reducible show wpAny _ _ (eval (Expr.Call (Expr.Name (Str.ofString "year_months") _) _ _ _) _) _ _ _)); with_unfolding_all (refine Call_ ?_); walk_say "OWN CALL"))
local macro_rules | `(tactic| walk_at "execs cons") => `(tactic| (k_here; (with_reducible refine wpAny_execs_cons ?_); (try dsimp only)))
local macro_rules | `(tactic| walk_at "execs nil") => `(tactic| (k_here; (with_reducible refine wpAny_execs_nil ?_); (try dsimp only)))
local macro_rules | `(tactic| k_room) => `(tactic| first | ((try simp only [depth_under_make, depth_under_kw, depth_in1, depth_deeper, depth_caller]); decide) | ktr_room)
local macro_rules | `(tactic| walk_at "call builtin:divmod") => `(tactic| (k_here; (with_reducible show wpAny _ _ (call (Value.builtin _) [Value.int _ _, Value.int _ _]) _ _ _); k_dflt (refine' divmodK ?F ?N ?b ?_ ?p; (case F => k_asm); (case N => k_asm); (case b => decide); (case p => exact PyProof.noPylong_of_log2 (by decide +kernel)); k_whole); intro l' t1' t2' tk' h' F' N' l1'; (try k_lt l1')))
local macro_rules | `(tactic| walk_at "eval ListComp") => `(tactic| (k_here; k_dflt (refine' ListComp_cnt ?F ?hh ?hclos ?hcell ?hkf ?hnames ?hx ?hl ?hr ?hxd ?hrd ?hs ?_; (case F => k_asm); (case hh => with_unfolding_all rfl); (case hclos => with_unfolding_all rfl); (case hcell => decide); (case hkf => rfl); (case hnames => decide); (case hx => rfl); (case hl => intro _; rfl); (case hr => intro _; rfl); (case hxd => decide); (case hrd => decide); (case hs => intro _; rfl)); (try k_fold); walk_say "COUNT"))
local macro_rules | `(tactic| walk_at "CntSrc") => `(tactic| (k_here; k_dflt (refine' CntSrc.intro ?F ?N ?X ?k ?c ?d ?hcl ?hm ?hoc ?_; (case F => k_asm); (case N => k_asm); (case X => k_asm); (case k => k_is); (case c => exact rfl); (case d => exact rfl); (case hcl => rfl); (case hm => k_mem); (case hoc => k_asm)); intro ys' D' h' tk' hy' F' N' o1'; (try simp only [LCg.Off1, and_true] at o1'); (try dsimp only)))
local macro_rules | `(tactic| walk_at "call builtin:len") => `(tactic| (k_here; (with_reducible show wpAny _ _ (call (Value.builtin "len") [Value.ref _]) _ _ _); k_dflt (refine' len_cnt ?N ?m ?y ?_; (case N => k_asm); (case m => k_mem); (case y => with_reducible assumption)); intro t' tk'; (try dsimp only)))
local macro_rules | `(tactic| walk_at "compareOp NotIn int ref") => `(tactic| (k_here; (with_reducible show wpAny _ _ (compareOp CmpOp.NotIn (Value.int _ _) (Value.ref _)) _ _ _); k_dflt (refine' notin_emb ?F ?X ?k ?c ?d ?_; (case F => k_asm); (case X => k_asm); (case k => k_is); (case c => exact rfl); (case d => exact rfl); k_whole)))
local macro_rules | `(tactic| k_all) => `(tactic| (refine all_ne (by assumption) ?_; omega))
/-! Each def of the text once, over any ledger -/
theorem Mine.c_d1 {w : World} {mean : ExcName → Option Value} {mg mb : Str → Option Value} {dp un : Nat} {gd : Option (List Code)} {cn : Str} {cs : Scope} {a : Addr} {ccd : Value} {cl : List (Str × Addr)} {outer : List Env} {A₀ : Around} {base h₀ : Heap} {L : Addr} {m : Str → Option Value} {news : List (Addr × Obj)} {s : Shared} {Q E : Value → Shared → Prop} {v : Int} {tv : Tok} :
    Below A₀ base outer h₀ → Fr h₀ L s.heap m → (hd.heap_39 w.params).In h₀ → News h₀ L s.heap news → Top hd.view_39 (looseW hd.view_39 []) mean mg mb h₀ → cs.kind = .function → dp + 0 + 1 < recursionLimit → un + 8 * (0 + 1) < cLine →
    (∀ (t : Tok) (h' : Heap) (tk' : Nat), (v ≤ 0 ∨ 0 ≤ D1 v) → Fr h₀ L h' m → News h₀ L h' news → Q (.int (D1 v) t) { s with heap := h', toks := tk' }) →
    wpAny (model PySem.Challenge.rw_aq6006_01.row.prog w) (ktrTop dp un gd cn cs L a ccd cl outer) (call (.ref 42) [.int v tv]) Q E s := by
  k_with_none
  k_fill
  k_with "tree" => (with_reducible first | exact d1_up _ (by assumption) | exact d1_on _ (by assumption) | exact d2_two _ (by assumption) | exact d2_one _ (by assumption) (by assumption) | exact d2_nought _ (by assumption) (by assumption) | exact ym_up _ (by assumption) | exact ym_on _ (by assumption) | exact f_late _ (by assumption) (by assumption) | exact f_late' _ (by assumption) (by assumption) | exact f_soon _ (by assumption) (by assumption) | exact f_soon' _ (by assumption) (by assumption) | exact s_noon _ (by assumption) | exact s_both _ _ (by assumption) (by assumption) | exact s_two _ (by assumption) (by assumption) (by assumption) (by assumption) | exact s_leap _ (by assumption) (by assumption) (by assumption) | exact s_few2 _ (by assumption) (by assumption) (by assumption) | exact s_one _ (by assumption) (by assumption) (by assumption) (by assumption) | exact s_com _ (by assumption) (by assumption) (by assumption) | exact s_few1 _ (by assumption) (by assumption) (by assumption) | exact s_no _ (by assumption) (by assumption) (by assumption) | exact yr2 _ | exact yr3 _ | exact yr1_no _ (by assumption) | exact ne_no _ (by assumption) | exact yd_is _ | exact same _ | exact m_jd _ (by assumption) | exact m_to _ 5 (by assumption) (by assumption) | exact m_fro _ 5 (by assumption) (by assumption) | exact m_to _ 3 (by assumption) (by assumption) | exact m_fro _ 3 (by assumption) (by assumption))
  intro B F X N T hk room9 units9 hret
  have hret := fun (t : Tok) (h' : Heap) (tk' : Nat) (F : Fr h₀ L h' m) (N : News h₀ L h' news) => hret t h' tk' (d1_nn v) F N
  refine wpAny_call ?_
  k_dflt cell_enter
  k_steps
  all_goals (refine' cb_retI (Q := Q) hret ?e1 ?e2 ?e3; (case e2 => k_asm); (case e3 => ((rename News _ _ _ _ => nN9); with_reducible first | exact nN9 | exact tl1 (nN9) | exact tl1 (tl1 (nN9)) | exact tl1 (tl1 (tl1 (nN9))) | exact tl1 (tl1 (tl1 (tl1 (nN9)))) | exact tl1 (tl1 (tl1 (tl1 (tl1 (nN9))))) | exact tl1 (tl1 (tl1 (tl1 (tl1 (tl1 (nN9)))))) | exact tl1 (tl1 (tl1 (tl1 (tl1 (tl1 (tl1 (nN9))))))) | exact tl1 (tl1 (tl1 (tl1 (tl1 (tl1 (tl1 (tl1 (nN9)))))))) | exact tl1 (tl1 (tl1 (tl1 (tl1 (tl1 (tl1 (tl1 (tl1 (nN9))))))))) | exact tl1 (tl1 (tl1 (tl1 (tl1 (tl1 (tl1 (tl1 (tl1 (tl1 (nN9)))))))))) | exact tl1 (tl1 (tl1 (tl1 (tl1 (tl1 (tl1 (tl1 (tl1 (tl1 (tl1 (nN9))))))))))) | exact tl1 (tl1 (tl1 (tl1 (tl1 (tl1 (tl1 (tl1 (tl1 (tl1 (tl1 (tl1 (nN9)))))))))))))); (case e1 => ((try dsimp only); (with_reducible first | exact rfl | assumption | exact d1_up _ (by assumption) | exact d1_on _ (by assumption) | exact d2_two _ (by assumption) | exact d2_one _ (by assumption) (by assumption) | exact d2_nought _ (by assumption) (by assumption) | exact ym_up _ (by assumption) | exact ym_on _ (by assumption) | exact f_late _ (by assumption) (by assumption) | exact f_late' _ (by assumption) (by assumption) | exact f_soon _ (by assumption) (by assumption) | exact f_soon' _ (by assumption) (by assumption) | exact s_noon _ (by assumption) | exact s_both _ _ (by assumption) (by assumption) | exact s_two _ (by assumption) (by assumption) (by assumption) (by assumption) | exact s_leap _ (by assumption) (by assumption) (by assumption) | exact s_few2 _ (by assumption) (by assumption) (by assumption) | exact s_one _ (by assumption) (by assumption) (by assumption) (by assumption) | exact s_com _ (by assumption) (by assumption) (by assumption) | exact s_few1 _ (by assumption) (by assumption) (by assumption) | exact s_no _ (by assumption) (by assumption) (by assumption) | exact yr2 _ | exact yr3 _ | exact yr1_no _ (by assumption) | exact ne_no _ (by assumption) | exact yd_is _ | exact same _ | exact m_jd _ (by assumption) | exact m_to _ 5 (by assumption) (by assumption) | exact m_fro _ 5 (by assumption) (by assumption) | exact m_to _ 3 (by assumption) (by assumption) | exact m_fro _ 3 (by assumption) (by assumption)))))
local macro_rules | `(tactic| walk_at "call ref") => `(tactic| (k_here; (k_dflt ((refine' c_d1 ?k1 ?k2 ?k3 ?k4 ?k5 ?kK ?kd ?ku ?_); (case k1 => k_asm); (case k2 => k_asm); (case k3 => k_asm); (case k4 => k_asm); (case k5 => k_asm); (case kK => first | exact rfl | assumption); (case kd => cb_room); (case ku => cb_units); intro t9 h9 tk9 f9 F9 N9; (try dsimp only); (try k_fold)))))
theorem Mine.c_d2 {w : World} {mean : ExcName → Option Value} {mg mb : Str → Option Value} {dp un : Nat} {gd : Option (List Code)} {cn : Str} {cs : Scope} {a : Addr} {ccd : Value} {cl : List (Str × Addr)} {outer : List Env} {A₀ : Around} {base h₀ : Heap} {L : Addr} {m : Str → Option Value} {news : List (Addr × Obj)} {s : Shared} {Q E : Value → Shared → Prop} {v : Int} {tv : Tok} :
    Below A₀ base outer h₀ → Fr h₀ L s.heap m → (hd.heap_39 w.params).In h₀ → News h₀ L s.heap news → Top hd.view_39 (looseW hd.view_39 []) mean mg mb h₀ → cs.kind = .function → dp + 1 + 1 < recursionLimit → un + 8 * (1 + 1) < cLine →
    (∀ (t : Tok) (h' : Heap) (tk' : Nat), (0 ≤ D2 v) → Fr h₀ L h' m → News h₀ L h' news → Q (.int (D2 v) t) { s with heap := h', toks := tk' }) →
    wpAny (model PySem.Challenge.rw_aq6006_01.row.prog w) (ktrTop dp un gd cn cs L a ccd cl outer) (call (.ref 49) [.int v tv]) Q E s := by
  k_with_none
  k_fill
  k_with "tree" => (with_reducible first | exact d1_up _ (by assumption) | exact d1_on _ (by assumption) | exact d2_two _ (by assumption) | exact d2_one _ (by assumption) (by assumption) | exact d2_nought _ (by assumption) (by assumption) | exact ym_up _ (by assumption) | exact ym_on _ (by assumption) | exact f_late _ (by assumption) (by assumption) | exact f_late' _ (by assumption) (by assumption) | exact f_soon _ (by assumption) (by assumption) | exact f_soon' _ (by assumption) (by assumption) | exact s_noon _ (by assumption) | exact s_both _ _ (by assumption) (by assumption) | exact s_two _ (by assumption) (by assumption) (by assumption) (by assumption) | exact s_leap _ (by assumption) (by assumption) (by assumption) | exact s_few2 _ (by assumption) (by assumption) (by assumption) | exact s_one _ (by assumption) (by assumption) (by assumption) (by assumption) | exact s_com _ (by assumption) (by assumption) (by assumption) | exact s_few1 _ (by assumption) (by assumption) (by assumption) | exact s_no _ (by assumption) (by assumption) (by assumption) | exact yr2 _ | exact yr3 _ | exact yr1_no _ (by assumption) | exact ne_no _ (by assumption) | exact yd_is _ | exact same _ | exact m_jd _ (by assumption) | exact m_to _ 5 (by assumption) (by assumption) | exact m_fro _ 5 (by assumption) (by assumption) | exact m_to _ 3 (by assumption) (by assumption) | exact m_fro _ 3 (by assumption) (by assumption))
  intro B F X N T hk room9 units9 hret
  have hret := fun (t : Tok) (h' : Heap) (tk' : Nat) (F : Fr h₀ L h' m) (N : News h₀ L h' news) => hret t h' tk' (d2_nn v) F N
  refine wpAny_call ?_
  k_dflt cell_enter
  k_steps
  all_goals (refine' cb_retI (Q := Q) hret ?e1 ?e2 ?e3; (case e2 => k_asm); (case e3 => ((rename News _ _ _ _ => nN9); with_reducible first | exact nN9 | exact tl1 (nN9) | exact tl1 (tl1 (nN9)) | exact tl1 (tl1 (tl1 (nN9))) | exact tl1 (tl1 (tl1 (tl1 (nN9)))) | exact tl1 (tl1 (tl1 (tl1 (tl1 (nN9))))) | exact tl1 (tl1 (tl1 (tl1 (tl1 (tl1 (nN9)))))) | exact tl1 (tl1 (tl1 (tl1 (tl1 (tl1 (tl1 (nN9))))))) | exact tl1 (tl1 (tl1 (tl1 (tl1 (tl1 (tl1 (tl1 (nN9)))))))) | exact tl1 (tl1 (tl1 (tl1 (tl1 (tl1 (tl1 (tl1 (tl1 (nN9))))))))) | exact tl1 (tl1 (tl1 (tl1 (tl1 (tl1 (tl1 (tl1 (tl1 (tl1 (nN9)))))))))) | exact tl1 (tl1 (tl1 (tl1 (tl1 (tl1 (tl1 (tl1 (tl1 (tl1 (tl1 (nN9))))))))))) | exact tl1 (tl1 (tl1 (tl1 (tl1 (tl1 (tl1 (tl1 (tl1 (tl1 (tl1 (tl1 (nN9)))))))))))))); (case e1 => ((try dsimp only); (with_reducible first | exact rfl | assumption | exact d1_up _ (by assumption) | exact d1_on _ (by assumption) | exact d2_two _ (by assumption) | exact d2_one _ (by assumption) (by assumption) | exact d2_nought _ (by assumption) (by assumption) | exact ym_up _ (by assumption) | exact ym_on _ (by assumption) | exact f_late _ (by assumption) (by assumption) | exact f_late' _ (by assumption) (by assumption) | exact f_soon _ (by assumption) (by assumption) | exact f_soon' _ (by assumption) (by assumption) | exact s_noon _ (by assumption) | exact s_both _ _ (by assumption) (by assumption) | exact s_two _ (by assumption) (by assumption) (by assumption) (by assumption) | exact s_leap _ (by assumption) (by assumption) (by assumption) | exact s_few2 _ (by assumption) (by assumption) (by assumption) | exact s_one _ (by assumption) (by assumption) (by assumption) (by assumption) | exact s_com _ (by assumption) (by assumption) (by assumption) | exact s_few1 _ (by assumption) (by assumption) (by assumption) | exact s_no _ (by assumption) (by assumption) (by assumption) | exact yr2 _ | exact yr3 _ | exact yr1_no _ (by assumption) | exact ne_no _ (by assumption) | exact yd_is _ | exact same _ | exact m_jd _ (by assumption) | exact m_to _ 5 (by assumption) (by assumption) | exact m_fro _ 5 (by assumption) (by assumption) | exact m_to _ 3 (by assumption) (by assumption) | exact m_fro _ 3 (by assumption) (by assumption)))))
local macro_rules | `(tactic| walk_at "call ref") => `(tactic| (k_here; (k_dflt ((refine' c_d2 ?k1 ?k2 ?k3 ?k4 ?k5 ?kK ?kd ?ku ?_); (case k1 => k_asm); (case k2 => k_asm); (case k3 => k_asm); (case k4 => k_asm); (case k5 => k_asm); (case kK => first | exact rfl | assumption); (case kd => cb_room); (case ku => cb_units); intro t9 h9 tk9 f9 F9 N9; (try dsimp only); (try k_fold)))))
theorem Mine.c_ym {w : World} {mean : ExcName → Option Value} {mg mb : Str → Option Value} {dp un : Nat} {gd : Option (List Code)} {cn : Str} {cs : Scope} {a : Addr} {ccd : Value} {cl : List (Str × Addr)} {outer : List Env} {A₀ : Around} {base h₀ : Heap} {L : Addr} {m : Str → Option Value} {news : List (Addr × Obj)} {s : Shared} {Q E : Value → Shared → Prop} {v : Int} {tv : Tok} :
    Below A₀ base outer h₀ → Fr h₀ L s.heap m → (hd.heap_39 w.params).In h₀ → News h₀ L s.heap news → Top hd.view_39 (looseW hd.view_39 []) mean mg mb h₀ → cs.kind = .function → dp + 1 + 1 < recursionLimit → un + 8 * (1 + 1) < cLine →
    (∀ (t : Tok) (h' : Heap) (tk' : Nat), Fr h₀ L h' m → News h₀ L h' news → Q (.int (YM v) t) { s with heap := h', toks := tk' }) →
    wpAny (model PySem.Challenge.rw_aq6006_01.row.prog w) (ktrTop dp un gd cn cs L a ccd cl outer) (call (.ref 35) [.int v tv]) Q E s := by
  k_with_none
  k_fill
  k_with "tree" => (with_reducible first | exact d1_up _ (by assumption) | exact d1_on _ (by assumption) | exact d2_two _ (by assumption) | exact d2_one _ (by assumption) (by assumption) | exact d2_nought _ (by assumption) (by assumption) | exact ym_up _ (by assumption) | exact ym_on _ (by assumption) | exact f_late _ (by assumption) (by assumption) | exact f_late' _ (by assumption) (by assumption) | exact f_soon _ (by assumption) (by assumption) | exact f_soon' _ (by assumption) (by assumption) | exact s_noon _ (by assumption) | exact s_both _ _ (by assumption) (by assumption) | exact s_two _ (by assumption) (by assumption) (by assumption) (by assumption) | exact s_leap _ (by assumption) (by assumption) (by assumption) | exact s_few2 _ (by assumption) (by assumption) (by assumption) | exact s_one _ (by assumption) (by assumption) (by assumption) (by assumption) | exact s_com _ (by assumption) (by assumption) (by assumption) | exact s_few1 _ (by assumption) (by assumption) (by assumption) | exact s_no _ (by assumption) (by assumption) (by assumption) | exact yr2 _ | exact yr3 _ | exact yr1_no _ (by assumption) | exact ne_no _ (by assumption) | exact yd_is _ | exact same _ | exact m_jd _ (by assumption) | exact m_to _ 5 (by assumption) (by assumption) | exact m_fro _ 5 (by assumption) (by assumption) | exact m_to _ 3 (by assumption) (by assumption) | exact m_fro _ 3 (by assumption) (by assumption))
  intro B F X N T hk room9 units9 hret
  refine wpAny_call ?_
  k_dflt cell_enter
  k_steps
  all_goals (refine' cb_retI (Q := Q) hret ?e1 ?e2 ?e3; (case e2 => k_asm); (case e3 => ((rename News _ _ _ _ => nN9); with_reducible first | exact nN9 | exact tl1 (nN9) | exact tl1 (tl1 (nN9)) | exact tl1 (tl1 (tl1 (nN9))) | exact tl1 (tl1 (tl1 (tl1 (nN9)))) | exact tl1 (tl1 (tl1 (tl1 (tl1 (nN9))))) | exact tl1 (tl1 (tl1 (tl1 (tl1 (tl1 (nN9)))))) | exact tl1 (tl1 (tl1 (tl1 (tl1 (tl1 (tl1 (nN9))))))) | exact tl1 (tl1 (tl1 (tl1 (tl1 (tl1 (tl1 (tl1 (nN9)))))))) | exact tl1 (tl1 (tl1 (tl1 (tl1 (tl1 (tl1 (tl1 (tl1 (nN9))))))))) | exact tl1 (tl1 (tl1 (tl1 (tl1 (tl1 (tl1 (tl1 (tl1 (tl1 (nN9)))))))))) | exact tl1 (tl1 (tl1 (tl1 (tl1 (tl1 (tl1 (tl1 (tl1 (tl1 (tl1 (nN9))))))))))) | exact tl1 (tl1 (tl1 (tl1 (tl1 (tl1 (tl1 (tl1 (tl1 (tl1 (tl1 (tl1 (nN9)))))))))))))); (case e1 => ((try dsimp only); (with_reducible first | exact rfl | assumption | exact d1_up _ (by assumption) | exact d1_on _ (by assumption) | exact d2_two _ (by assumption) | exact d2_one _ (by assumption) (by assumption) | exact d2_nought _ (by assumption) (by assumption) | exact ym_up _ (by assumption) | exact ym_on _ (by assumption) | exact f_late _ (by assumption) (by assumption) | exact f_late' _ (by assumption) (by assumption) | exact f_soon _ (by assumption) (by assumption) | exact f_soon' _ (by assumption) (by assumption) | exact s_noon _ (by assumption) | exact s_both _ _ (by assumption) (by assumption) | exact s_two _ (by assumption) (by assumption) (by assumption) (by assumption) | exact s_leap _ (by assumption) (by assumption) (by assumption) | exact s_few2 _ (by assumption) (by assumption) (by assumption) | exact s_one _ (by assumption) (by assumption) (by assumption) (by assumption) | exact s_com _ (by assumption) (by assumption) (by assumption) | exact s_few1 _ (by assumption) (by assumption) (by assumption) | exact s_no _ (by assumption) (by assumption) (by assumption) | exact yr2 _ | exact yr3 _ | exact yr1_no _ (by assumption) | exact ne_no _ (by assumption) | exact yd_is _ | exact same _ | exact m_jd _ (by assumption) | exact m_to _ 5 (by assumption) (by assumption) | exact m_fro _ 5 (by assumption) (by assumption) | exact m_to _ 3 (by assumption) (by assumption) | exact m_fro _ 3 (by assumption) (by assumption)))))
local macro_rules | `(tactic| walk_at "call ref") => `(tactic| (k_here; (k_dflt ((refine' c_ym ?k1 ?k2 ?k3 ?k4 ?k5 ?kK ?kd ?ku ?_); (case k1 => k_asm); (case k2 => k_asm); (case k3 => k_asm); (case k4 => k_asm); (case k5 => k_asm); (case kK => first | exact rfl | assumption); (case kd => cb_room); (case ku => cb_units); intro t9 h9 tk9 F9 N9; (try dsimp only); (try k_fold)))))
theorem Mine.c_f {w : World} {mean : ExcName → Option Value} {mg mb : Str → Option Value} {dp un : Nat} {gd : Option (List Code)} {cn : Str} {cs : Scope} {a : Addr} {ccd : Value} {cl : List (Str × Addr)} {outer : List Env} {A₀ : Around} {base h₀ : Heap} {L : Addr} {m : Str → Option Value} {news : List (Addr × Obj)} {s : Shared} {Q E : Value → Shared → Prop} {v : Int} {tv : Tok} :
    Below A₀ base outer h₀ → Fr h₀ L s.heap m → (hd.heap_39 w.params).In h₀ → News h₀ L s.heap news → Top hd.view_39 (looseW hd.view_39 []) mean mg mb h₀ → cs.kind = .function → dp + 3 + 1 < recursionLimit → un + 8 * (3 + 1) < cLine →
    (∀ (t : Tok) (h' : Heap) (tk' : Nat), Fr h₀ L h' m → News h₀ L h' news → Q (.int (D1 v) t) { s with heap := h', toks := tk' }) →
    wpAny (model PySem.Challenge.rw_aq6006_01.row.prog w) (ktrTop dp un gd cn cs L a ccd cl outer) (call (.ref 105) [.int v tv]) Q E s := by
  k_with_none
  k_fill
  k_with "tree" => (with_reducible first | exact d1_up _ (by assumption) | exact d1_on _ (by assumption) | exact d2_two _ (by assumption) | exact d2_one _ (by assumption) (by assumption) | exact d2_nought _ (by assumption) (by assumption) | exact ym_up _ (by assumption) | exact ym_on _ (by assumption) | exact f_late _ (by assumption) (by assumption) | exact f_late' _ (by assumption) (by assumption) | exact f_soon _ (by assumption) (by assumption) | exact f_soon' _ (by assumption) (by assumption) | exact s_noon _ (by assumption) | exact s_both _ _ (by assumption) (by assumption) | exact s_two _ (by assumption) (by assumption) (by assumption) (by assumption) | exact s_leap _ (by assumption) (by assumption) (by assumption) | exact s_few2 _ (by assumption) (by assumption) (by assumption) | exact s_one _ (by assumption) (by assumption) (by assumption) (by assumption) | exact s_com _ (by assumption) (by assumption) (by assumption) | exact s_few1 _ (by assumption) (by assumption) (by assumption) | exact s_no _ (by assumption) (by assumption) (by assumption) | exact yr2 _ | exact yr3 _ | exact yr1_no _ (by assumption) | exact ne_no _ (by assumption) | exact yd_is _ | exact same _ | exact m_jd _ (by assumption) | exact m_to _ 5 (by assumption) (by assumption) | exact m_fro _ 5 (by assumption) (by assumption) | exact m_to _ 3 (by assumption) (by assumption) | exact m_fro _ 3 (by assumption) (by assumption))
  intro B F X N T hk room9 units9 hret
  refine wpAny_call ?_
  k_dflt cell_enter
  k_steps
  all_goals (refine' cb_retI (Q := Q) hret ?e1 ?e2 ?e3; (case e2 => k_asm); (case e3 => ((rename News _ _ _ _ => nN9); with_reducible first | exact nN9 | exact tl1 (nN9) | exact tl1 (tl1 (nN9)) | exact tl1 (tl1 (tl1 (nN9))) | exact tl1 (tl1 (tl1 (tl1 (nN9)))) | exact tl1 (tl1 (tl1 (tl1 (tl1 (nN9))))) | exact tl1 (tl1 (tl1 (tl1 (tl1 (tl1 (nN9)))))) | exact tl1 (tl1 (tl1 (tl1 (tl1 (tl1 (tl1 (nN9))))))) | exact tl1 (tl1 (tl1 (tl1 (tl1 (tl1 (tl1 (tl1 (nN9)))))))) | exact tl1 (tl1 (tl1 (tl1 (tl1 (tl1 (tl1 (tl1 (tl1 (nN9))))))))) | exact tl1 (tl1 (tl1 (tl1 (tl1 (tl1 (tl1 (tl1 (tl1 (tl1 (nN9)))))))))) | exact tl1 (tl1 (tl1 (tl1 (tl1 (tl1 (tl1 (tl1 (tl1 (tl1 (tl1 (nN9))))))))))) | exact tl1 (tl1 (tl1 (tl1 (tl1 (tl1 (tl1 (tl1 (tl1 (tl1 (tl1 (tl1 (nN9)))))))))))))); (case e1 => ((try dsimp only); (with_reducible first | exact rfl | assumption | exact d1_up _ (by assumption) | exact d1_on _ (by assumption) | exact d2_two _ (by assumption) | exact d2_one _ (by assumption) (by assumption) | exact d2_nought _ (by assumption) (by assumption) | exact ym_up _ (by assumption) | exact ym_on _ (by assumption) | exact f_late _ (by assumption) (by assumption) | exact f_late' _ (by assumption) (by assumption) | exact f_soon _ (by assumption) (by assumption) | exact f_soon' _ (by assumption) (by assumption) | exact s_noon _ (by assumption) | exact s_both _ _ (by assumption) (by assumption) | exact s_two _ (by assumption) (by assumption) (by assumption) (by assumption) | exact s_leap _ (by assumption) (by assumption) (by assumption) | exact s_few2 _ (by assumption) (by assumption) (by assumption) | exact s_one _ (by assumption) (by assumption) (by assumption) (by assumption) | exact s_com _ (by assumption) (by assumption) (by assumption) | exact s_few1 _ (by assumption) (by assumption) (by assumption) | exact s_no _ (by assumption) (by assumption) (by assumption) | exact yr2 _ | exact yr3 _ | exact yr1_no _ (by assumption) | exact ne_no _ (by assumption) | exact yd_is _ | exact same _ | exact m_jd _ (by assumption) | exact m_to _ 5 (by assumption) (by assumption) | exact m_fro _ 5 (by assumption) (by assumption) | exact m_to _ 3 (by assumption) (by assumption) | exact m_fro _ 3 (by assumption) (by assumption)))))
local macro_rules | `(tactic| walk_at "call ref") => `(tactic| (k_here; (k_dflt ((refine' c_f ?k1 ?k2 ?k3 ?k4 ?k5 ?kK ?kd ?ku ?_); (case k1 => k_asm); (case k2 => k_asm); (case k3 => k_asm); (case k4 => k_asm); (case k5 => k_asm); (case kK => first | exact rfl | assumption); (case kd => cb_room); (case ku => cb_units); intro t9 h9 tk9 F9 N9; (try dsimp only); (try k_fold)))))
theorem Mine.c_s {w : World} {mean : ExcName → Option Value} {mg mb : Str → Option Value} {dp un : Nat} {gd : Option (List Code)} {cn : Str} {cs : Scope} {a : Addr} {ccd : Value} {cl : List (Str × Addr)} {outer : List Env} {A₀ : Around} {base h₀ : Heap} {L : Addr} {m : Str → Option Value} {news : List (Addr × Obj)} {s : Shared} {Q E : Value → Shared → Prop} {v : Int} {tv : Tok} :
    Below A₀ base outer h₀ → Fr h₀ L s.heap m → (hd.heap_39 w.params).In h₀ → News h₀ L s.heap news → Top hd.view_39 (looseW hd.view_39 []) mean mg mb h₀ → cs.kind = .function → dp + 3 + 1 < recursionLimit → un + 8 * (3 + 1) < cLine →
    (∀ (t : Tok) (h' : Heap) (tk' : Nat), Fr h₀ L h' m → News h₀ L h' news → Q (.int (D2 v) t) { s with heap := h', toks := tk' }) →
    wpAny (model PySem.Challenge.rw_aq6006_01.row.prog w) (ktrTop dp un gd cn cs L a ccd cl outer) (call (.ref 112) [.int v tv]) Q E s := by
  k_with_none
  k_fill
  k_with "tree" => (with_reducible first | exact d1_up _ (by assumption) | exact d1_on _ (by assumption) | exact d2_two _ (by assumption) | exact d2_one _ (by assumption) (by assumption) | exact d2_nought _ (by assumption) (by assumption) | exact ym_up _ (by assumption) | exact ym_on _ (by assumption) | exact f_late _ (by assumption) (by assumption) | exact f_late' _ (by assumption) (by assumption) | exact f_soon _ (by assumption) (by assumption) | exact f_soon' _ (by assumption) (by assumption) | exact s_noon _ (by assumption) | exact s_both _ _ (by assumption) (by assumption) | exact s_two _ (by assumption) (by assumption) (by assumption) (by assumption) | exact s_leap _ (by assumption) (by assumption) (by assumption) | exact s_few2 _ (by assumption) (by assumption) (by assumption) | exact s_one _ (by assumption) (by assumption) (by assumption) (by assumption) | exact s_com _ (by assumption) (by assumption) (by assumption) | exact s_few1 _ (by assumption) (by assumption) (by assumption) | exact s_no _ (by assumption) (by assumption) (by assumption) | exact yr2 _ | exact yr3 _ | exact yr1_no _ (by assumption) | exact ne_no _ (by assumption) | exact yd_is _ | exact same _ | exact m_jd _ (by assumption) | exact m_to _ 5 (by assumption) (by assumption) | exact m_fro _ 5 (by assumption) (by assumption) | exact m_to _ 3 (by assumption) (by assumption) | exact m_fro _ 3 (by assumption) (by assumption))
  intro B F X N T hk room9 units9 hret
  refine wpAny_call ?_
  k_dflt cell_enter
  k_steps
  all_goals (refine' cb_retI (Q := Q) hret ?e1 ?e2 ?e3; (case e2 => k_asm); (case e3 => ((rename News _ _ _ _ => nN9); with_reducible first | exact nN9 | exact tl1 (nN9) | exact tl1 (tl1 (nN9)) | exact tl1 (tl1 (tl1 (nN9))) | exact tl1 (tl1 (tl1 (tl1 (nN9)))) | exact tl1 (tl1 (tl1 (tl1 (tl1 (nN9))))) | exact tl1 (tl1 (tl1 (tl1 (tl1 (tl1 (nN9)))))) | exact tl1 (tl1 (tl1 (tl1 (tl1 (tl1 (tl1 (nN9))))))) | exact tl1 (tl1 (tl1 (tl1 (tl1 (tl1 (tl1 (tl1 (nN9)))))))) | exact tl1 (tl1 (tl1 (tl1 (tl1 (tl1 (tl1 (tl1 (tl1 (nN9))))))))) | exact tl1 (tl1 (tl1 (tl1 (tl1 (tl1 (tl1 (tl1 (tl1 (tl1 (nN9)))))))))) | exact tl1 (tl1 (tl1 (tl1 (tl1 (tl1 (tl1 (tl1 (tl1 (tl1 (tl1 (nN9))))))))))) | exact tl1 (tl1 (tl1 (tl1 (tl1 (tl1 (tl1 (tl1 (tl1 (tl1 (tl1 (tl1 (nN9)))))))))))))); (case e1 => ((try dsimp only); (with_reducible first | exact rfl | assumption | exact d1_up _ (by assumption) | exact d1_on _ (by assumption) | exact d2_two _ (by assumption) | exact d2_one _ (by assumption) (by assumption) | exact d2_nought _ (by assumption) (by assumption) | exact ym_up _ (by assumption) | exact ym_on _ (by assumption) | exact f_late _ (by assumption) (by assumption) | exact f_late' _ (by assumption) (by assumption) | exact f_soon _ (by assumption) (by assumption) | exact f_soon' _ (by assumption) (by assumption) | exact s_noon _ (by assumption) | exact s_both _ _ (by assumption) (by assumption) | exact s_two _ (by assumption) (by assumption) (by assumption) (by assumption) | exact s_leap _ (by assumption) (by assumption) (by assumption) | exact s_few2 _ (by assumption) (by assumption) (by assumption) | exact s_one _ (by assumption) (by assumption) (by assumption) (by assumption) | exact s_com _ (by assumption) (by assumption) (by assumption) | exact s_few1 _ (by assumption) (by assumption) (by assumption) | exact s_no _ (by assumption) (by assumption) (by assumption) | exact yr2 _ | exact yr3 _ | exact yr1_no _ (by assumption) | exact ne_no _ (by assumption) | exact yd_is _ | exact same _ | exact m_jd _ (by assumption) | exact m_to _ 5 (by assumption) (by assumption) | exact m_fro _ 5 (by assumption) (by assumption) | exact m_to _ 3 (by assumption) (by assumption) | exact m_fro _ 3 (by assumption) (by assumption)))))
local macro_rules | `(tactic| walk_at "call ref") => `(tactic| (k_here; (k_dflt ((refine' c_s ?k1 ?k2 ?k3 ?k4 ?k5 ?kK ?kd ?ku ?_); (case k1 => k_asm); (case k2 => k_asm); (case k3 => k_asm); (case k4 => k_asm); (case k5 => k_asm); (case kK => first | exact rfl | assumption); (case kd => cb_room); (case ku => cb_units); intro t9 h9 tk9 F9 N9; (try dsimp only); (try k_fold)))))
theorem Mine.c_yd {w : World} {mean : ExcName → Option Value} {mg mb : Str → Option Value} {dp un : Nat} {gd : Option (List Code)} {cn : Str} {cs : Scope} {a : Addr} {ccd : Value} {cl : List (Str × Addr)} {outer : List Env} {A₀ : Around} {base h₀ : Heap} {L : Addr} {m : Str → Option Value} {news : List (Addr × Obj)} {s : Shared} {Q E : Value → Shared → Prop} {v : Int} {tv : Tok} :
    Below A₀ base outer h₀ → Fr h₀ L s.heap m → (hd.heap_39 w.params).In h₀ → News h₀ L s.heap news → Top hd.view_39 (looseW hd.view_39 []) mean mg mb h₀ → cs.kind = .function → 1 ≤ v → dp + 4 + 1 < recursionLimit → un + 8 * (4 + 1) < cLine →
    (∀ (t : Tok) (h' : Heap) (tk' : Nat), Fr h₀ L h' m → News h₀ L h' news → Q (.int (YD v) t) { s with heap := h', toks := tk' }) →
    wpAny (model PySem.Challenge.rw_aq6006_01.row.prog w) (ktrTop dp un gd cn cs L a ccd cl outer) (call (.ref 56) [.int v tv]) Q E s := by
  k_with_none
  k_fill
  k_with "tree" => (with_reducible first | exact d1_up _ (by assumption) | exact d1_on _ (by assumption) | exact d2_two _ (by assumption) | exact d2_one _ (by assumption) (by assumption) | exact d2_nought _ (by assumption) (by assumption) | exact ym_up _ (by assumption) | exact ym_on _ (by assumption) | exact f_late _ (by assumption) (by assumption) | exact f_late' _ (by assumption) (by assumption) | exact f_soon _ (by assumption) (by assumption) | exact f_soon' _ (by assumption) (by assumption) | exact s_noon _ (by assumption) | exact s_both _ _ (by assumption) (by assumption) | exact s_two _ (by assumption) (by assumption) (by assumption) (by assumption) | exact s_leap _ (by assumption) (by assumption) (by assumption) | exact s_few2 _ (by assumption) (by assumption) (by assumption) | exact s_one _ (by assumption) (by assumption) (by assumption) (by assumption) | exact s_com _ (by assumption) (by assumption) (by assumption) | exact s_few1 _ (by assumption) (by assumption) (by assumption) | exact s_no _ (by assumption) (by assumption) (by assumption) | exact yr2 _ | exact yr3 _ | exact yr1_no _ (by assumption) | exact ne_no _ (by assumption) | exact yd_is _ | exact same _ | exact m_jd _ (by assumption) | exact m_to _ 5 (by assumption) (by assumption) | exact m_fro _ 5 (by assumption) (by assumption) | exact m_to _ 3 (by assumption) (by assumption) | exact m_fro _ 3 (by assumption) (by assumption))
  intro B F X N T hk hp room9 units9 hret
  refine wpAny_call ?_
  k_dflt cell_enter
  k_steps
  all_goals (refine' cb_retI (Q := Q) hret ?e1 ?e2 ?e3; (case e2 => k_asm); (case e3 => ((rename News _ _ _ _ => nN9); with_reducible first | exact nN9 | exact tl1 (nN9) | exact tl1 (tl1 (nN9)) | exact tl1 (tl1 (tl1 (nN9))) | exact tl1 (tl1 (tl1 (tl1 (nN9)))) | exact tl1 (tl1 (tl1 (tl1 (tl1 (nN9))))) | exact tl1 (tl1 (tl1 (tl1 (tl1 (tl1 (nN9)))))) | exact tl1 (tl1 (tl1 (tl1 (tl1 (tl1 (tl1 (nN9))))))) | exact tl1 (tl1 (tl1 (tl1 (tl1 (tl1 (tl1 (tl1 (nN9)))))))) | exact tl1 (tl1 (tl1 (tl1 (tl1 (tl1 (tl1 (tl1 (tl1 (nN9))))))))) | exact tl1 (tl1 (tl1 (tl1 (tl1 (tl1 (tl1 (tl1 (tl1 (tl1 (nN9)))))))))) | exact tl1 (tl1 (tl1 (tl1 (tl1 (tl1 (tl1 (tl1 (tl1 (tl1 (tl1 (nN9))))))))))) | exact tl1 (tl1 (tl1 (tl1 (tl1 (tl1 (tl1 (tl1 (tl1 (tl1 (tl1 (tl1 (nN9)))))))))))))); (case e1 => ((try dsimp only); (with_reducible first | exact rfl | assumption | exact d1_up _ (by assumption) | exact d1_on _ (by assumption) | exact d2_two _ (by assumption) | exact d2_one _ (by assumption) (by assumption) | exact d2_nought _ (by assumption) (by assumption) | exact ym_up _ (by assumption) | exact ym_on _ (by assumption) | exact f_late _ (by assumption) (by assumption) | exact f_late' _ (by assumption) (by assumption) | exact f_soon _ (by assumption) (by assumption) | exact f_soon' _ (by assumption) (by assumption) | exact s_noon _ (by assumption) | exact s_both _ _ (by assumption) (by assumption) | exact s_two _ (by assumption) (by assumption) (by assumption) (by assumption) | exact s_leap _ (by assumption) (by assumption) (by assumption) | exact s_few2 _ (by assumption) (by assumption) (by assumption) | exact s_one _ (by assumption) (by assumption) (by assumption) (by assumption) | exact s_com _ (by assumption) (by assumption) (by assumption) | exact s_few1 _ (by assumption) (by assumption) (by assumption) | exact s_no _ (by assumption) (by assumption) (by assumption) | exact yr2 _ | exact yr3 _ | exact yr1_no _ (by assumption) | exact ne_no _ (by assumption) | exact yd_is _ | exact same _ | exact m_jd _ (by assumption) | exact m_to _ 5 (by assumption) (by assumption) | exact m_fro _ 5 (by assumption) (by assumption) | exact m_to _ 3 (by assumption) (by assumption) | exact m_fro _ 3 (by assumption) (by assumption)))))
local macro_rules | `(tactic| walk_at "call ref") => `(tactic| (k_here; (k_dflt ((refine' c_yd ?k1 ?k2 ?k3 ?k4 ?k5 ?kK ?kp ?kd ?ku ?_); (case k1 => k_asm); (case k2 => k_asm); (case k3 => k_asm); (case k4 => k_asm); (case k5 => k_asm); (case kK => first | exact rfl | assumption); (case kp => first | trivial | ((try dsimp only); first | assumption | omega | l_fact)); (case kd => cb_room); (case ku => cb_units); intro t9 h9 tk9 F9 N9; (try dsimp only); (try k_fold)))))
theorem Mine.c_yr {w : World} {mean : ExcName → Option Value} {mg mb : Str → Option Value} {dp un : Nat} {gd : Option (List Code)} {cn : Str} {cs : Scope} {a : Addr} {ccd : Value} {cl : List (Str × Addr)} {outer : List Env} {A₀ : Around} {base h₀ : Heap} {L : Addr} {m : Str → Option Value} {news : List (Addr × Obj)} {s : Shared} {Q E : Value → Shared → Prop} {v : Int} {tv : Tok} :
    Below A₀ base outer h₀ → Fr h₀ L s.heap m → (hd.heap_39 w.params).In h₀ → News h₀ L s.heap news → Top hd.view_39 (looseW hd.view_39 []) mean mg mb h₀ → cs.kind = .function → dp + 8 + 1 < recursionLimit → un + 8 * (8 + 1) < cLine →
    (∀ (t : Tok) (h' : Heap) (tk' : Nat), Fr h₀ L h' m → News h₀ L h' news → Q (.bool true) { s with heap := h', toks := tk' }) →
    wpAny (model PySem.Challenge.rw_aq6006_01.row.prog w) (ktrTop dp un gd cn cs L a ccd cl outer) (call (.ref 119) [.int v tv]) Q E s := by
  k_with_none
  k_fill
  k_with "tree" => (with_reducible first | exact d1_up _ (by assumption) | exact d1_on _ (by assumption) | exact d2_two _ (by assumption) | exact d2_one _ (by assumption) (by assumption) | exact d2_nought _ (by assumption) (by assumption) | exact ym_up _ (by assumption) | exact ym_on _ (by assumption) | exact f_late _ (by assumption) (by assumption) | exact f_late' _ (by assumption) (by assumption) | exact f_soon _ (by assumption) (by assumption) | exact f_soon' _ (by assumption) (by assumption) | exact s_noon _ (by assumption) | exact s_both _ _ (by assumption) (by assumption) | exact s_two _ (by assumption) (by assumption) (by assumption) (by assumption) | exact s_leap _ (by assumption) (by assumption) (by assumption) | exact s_few2 _ (by assumption) (by assumption) (by assumption) | exact s_one _ (by assumption) (by assumption) (by assumption) (by assumption) | exact s_com _ (by assumption) (by assumption) (by assumption) | exact s_few1 _ (by assumption) (by assumption) (by assumption) | exact s_no _ (by assumption) (by assumption) (by assumption) | exact yr2 _ | exact yr3 _ | exact yr1_no _ (by assumption) | exact ne_no _ (by assumption) | exact yd_is _ | exact same _ | exact m_jd _ (by assumption) | exact m_to _ 5 (by assumption) (by assumption) | exact m_fro _ 5 (by assumption) (by assumption) | exact m_to _ 3 (by assumption) (by assumption) | exact m_fro _ 3 (by assumption) (by assumption))
  intro B F X N T hk room9 units9 hret
  refine wpAny_call ?_
  k_dflt cell_enter
  k_steps
  all_goals (refine' cb_retB (Q := Q) hret ?e1 ?e2 ?e3; (case e2 => k_asm); (case e3 => ((rename News _ _ _ _ => nN9); with_reducible first | exact nN9 | exact tl1 (nN9) | exact tl1 (tl1 (nN9)) | exact tl1 (tl1 (tl1 (nN9))) | exact tl1 (tl1 (tl1 (tl1 (nN9)))) | exact tl1 (tl1 (tl1 (tl1 (tl1 (nN9))))) | exact tl1 (tl1 (tl1 (tl1 (tl1 (tl1 (nN9)))))) | exact tl1 (tl1 (tl1 (tl1 (tl1 (tl1 (tl1 (nN9))))))) | exact tl1 (tl1 (tl1 (tl1 (tl1 (tl1 (tl1 (tl1 (nN9)))))))) | exact tl1 (tl1 (tl1 (tl1 (tl1 (tl1 (tl1 (tl1 (tl1 (nN9))))))))) | exact tl1 (tl1 (tl1 (tl1 (tl1 (tl1 (tl1 (tl1 (tl1 (tl1 (nN9)))))))))) | exact tl1 (tl1 (tl1 (tl1 (tl1 (tl1 (tl1 (tl1 (tl1 (tl1 (tl1 (nN9))))))))))) | exact tl1 (tl1 (tl1 (tl1 (tl1 (tl1 (tl1 (tl1 (tl1 (tl1 (tl1 (tl1 (nN9)))))))))))))); (case e1 => ((try dsimp only); (with_reducible first | exact rfl | assumption | exact d1_up _ (by assumption) | exact d1_on _ (by assumption) | exact d2_two _ (by assumption) | exact d2_one _ (by assumption) (by assumption) | exact d2_nought _ (by assumption) (by assumption) | exact ym_up _ (by assumption) | exact ym_on _ (by assumption) | exact f_late _ (by assumption) (by assumption) | exact f_late' _ (by assumption) (by assumption) | exact f_soon _ (by assumption) (by assumption) | exact f_soon' _ (by assumption) (by assumption) | exact s_noon _ (by assumption) | exact s_both _ _ (by assumption) (by assumption) | exact s_two _ (by assumption) (by assumption) (by assumption) (by assumption) | exact s_leap _ (by assumption) (by assumption) (by assumption) | exact s_few2 _ (by assumption) (by assumption) (by assumption) | exact s_one _ (by assumption) (by assumption) (by assumption) (by assumption) | exact s_com _ (by assumption) (by assumption) (by assumption) | exact s_few1 _ (by assumption) (by assumption) (by assumption) | exact s_no _ (by assumption) (by assumption) (by assumption) | exact yr2 _ | exact yr3 _ | exact yr1_no _ (by assumption) | exact ne_no _ (by assumption) | exact yd_is _ | exact same _ | exact m_jd _ (by assumption) | exact m_to _ 5 (by assumption) (by assumption) | exact m_fro _ 5 (by assumption) (by assumption) | exact m_to _ 3 (by assumption) (by assumption) | exact m_fro _ 3 (by assumption) (by assumption)))))
local macro_rules | `(tactic| walk_at "call ref") => `(tactic| (k_here; (k_dflt ((refine' c_yr ?k1 ?k2 ?k3 ?k4 ?k5 ?kK ?kd ?ku ?_); (case k1 => k_asm); (case k2 => k_asm); (case k3 => k_asm); (case k4 => k_asm); (case k5 => k_asm); (case kK => first | exact rfl | assumption); (case kd => cb_room); (case ku => cb_units); intro t9 h9 tk9 F9 N9; (try dsimp only); (try k_fold)))))
theorem Mine.c_mr {w : World} {mean : ExcName → Option Value} {mg mb : Str → Option Value} {dp un : Nat} {gd : Option (List Code)} {cn : Str} {cs : Scope} {a : Addr} {ccd : Value} {cl : List (Str × Addr)} {outer : List Env} {A₀ : Around} {base h₀ : Heap} {L : Addr} {m : Str → Option Value} {news : List (Addr × Obj)} {s : Shared} {Q E : Value → Shared → Prop} {v : Int} {tv : Tok} :
    Below A₀ base outer h₀ → Fr h₀ L s.heap m → (hd.heap_39 w.params).In h₀ → News h₀ L s.heap news → Top hd.view_39 (looseW hd.view_39 []) mean mg mb h₀ → cs.kind = .function → 1 ≤ v → dp + 12 + 1 < recursionLimit → un + 8 * (12 + 1) < cLine →
    (∀ (t : Tok) (h' : Heap) (tk' : Nat), Fr h₀ L h' m → News h₀ L h' news → Q (.bool true) { s with heap := h', toks := tk' }) →
    wpAny (model PySem.Challenge.rw_aq6006_01.row.prog w) (ktrTop dp un gd cn cs L a ccd cl outer) (call (.ref 126) [.int v tv]) Q E s := by
  k_with_none
  k_fill
  k_with "tree" => (with_reducible first | exact d1_up _ (by assumption) | exact d1_on _ (by assumption) | exact d2_two _ (by assumption) | exact d2_one _ (by assumption) (by assumption) | exact d2_nought _ (by assumption) (by assumption) | exact ym_up _ (by assumption) | exact ym_on _ (by assumption) | exact f_late _ (by assumption) (by assumption) | exact f_late' _ (by assumption) (by assumption) | exact f_soon _ (by assumption) (by assumption) | exact f_soon' _ (by assumption) (by assumption) | exact s_noon _ (by assumption) | exact s_both _ _ (by assumption) (by assumption) | exact s_two _ (by assumption) (by assumption) (by assumption) (by assumption) | exact s_leap _ (by assumption) (by assumption) (by assumption) | exact s_few2 _ (by assumption) (by assumption) (by assumption) | exact s_one _ (by assumption) (by assumption) (by assumption) (by assumption) | exact s_com _ (by assumption) (by assumption) (by assumption) | exact s_few1 _ (by assumption) (by assumption) (by assumption) | exact s_no _ (by assumption) (by assumption) (by assumption) | exact yr2 _ | exact yr3 _ | exact yr1_no _ (by assumption) | exact ne_no _ (by assumption) | exact yd_is _ | exact same _ | exact m_jd _ (by assumption) | exact m_to _ 5 (by assumption) (by assumption) | exact m_fro _ 5 (by assumption) (by assumption) | exact m_to _ 3 (by assumption) (by assumption) | exact m_fro _ 3 (by assumption) (by assumption))
  intro B F X N T hk hp room9 units9 hret
  refine wpAny_call ?_
  k_dflt cell_enter
  k_steps
  all_goals (refine' cb_retB (Q := Q) hret ?e1 ?e2 ?e3; (case e2 => k_asm); (case e3 => ((rename News _ _ _ _ => nN9); with_reducible first | exact nN9 | exact tl1 (nN9) | exact tl1 (tl1 (nN9)) | exact tl1 (tl1 (tl1 (nN9))) | exact tl1 (tl1 (tl1 (tl1 (nN9)))) | exact tl1 (tl1 (tl1 (tl1 (tl1 (nN9))))) | exact tl1 (tl1 (tl1 (tl1 (tl1 (tl1 (nN9)))))) | exact tl1 (tl1 (tl1 (tl1 (tl1 (tl1 (tl1 (nN9))))))) | exact tl1 (tl1 (tl1 (tl1 (tl1 (tl1 (tl1 (tl1 (nN9)))))))) | exact tl1 (tl1 (tl1 (tl1 (tl1 (tl1 (tl1 (tl1 (tl1 (nN9))))))))) | exact tl1 (tl1 (tl1 (tl1 (tl1 (tl1 (tl1 (tl1 (tl1 (tl1 (nN9)))))))))) | exact tl1 (tl1 (tl1 (tl1 (tl1 (tl1 (tl1 (tl1 (tl1 (tl1 (tl1 (nN9))))))))))) | exact tl1 (tl1 (tl1 (tl1 (tl1 (tl1 (tl1 (tl1 (tl1 (tl1 (tl1 (tl1 (nN9)))))))))))))); (case e1 => ((try dsimp only); (with_reducible first | exact rfl | assumption | exact d1_up _ (by assumption) | exact d1_on _ (by assumption) | exact d2_two _ (by assumption) | exact d2_one _ (by assumption) (by assumption) | exact d2_nought _ (by assumption) (by assumption) | exact ym_up _ (by assumption) | exact ym_on _ (by assumption) | exact f_late _ (by assumption) (by assumption) | exact f_late' _ (by assumption) (by assumption) | exact f_soon _ (by assumption) (by assumption) | exact f_soon' _ (by assumption) (by assumption) | exact s_noon _ (by assumption) | exact s_both _ _ (by assumption) (by assumption) | exact s_two _ (by assumption) (by assumption) (by assumption) (by assumption) | exact s_leap _ (by assumption) (by assumption) (by assumption) | exact s_few2 _ (by assumption) (by assumption) (by assumption) | exact s_one _ (by assumption) (by assumption) (by assumption) (by assumption) | exact s_com _ (by assumption) (by assumption) (by assumption) | exact s_few1 _ (by assumption) (by assumption) (by assumption) | exact s_no _ (by assumption) (by assumption) (by assumption) | exact yr2 _ | exact yr3 _ | exact yr1_no _ (by assumption) | exact ne_no _ (by assumption) | exact yd_is _ | exact same _ | exact m_jd _ (by assumption) | exact m_to _ 5 (by assumption) (by assumption) | exact m_fro _ 5 (by assumption) (by assumption) | exact m_to _ 3 (by assumption) (by assumption) | exact m_fro _ 3 (by assumption) (by assumption)))))
local macro_rules | `(tactic| walk_at "call ref") => `(tactic| (k_here; (k_dflt ((refine' c_mr ?k1 ?k2 ?k3 ?k4 ?k5 ?kK ?kp ?kd ?ku ?_); (case k1 => k_asm); (case k2 => k_asm); (case k3 => k_asm); (case k4 => k_asm); (case k5 => k_asm); (case kK => first | exact rfl | assumption); (case kp => first | trivial | ((try dsimp only); first | assumption | omega | l_fact)); (case kd => cb_room); (case ku => cb_units); intro t9 h9 tk9 F9 N9; (try dsimp only); (try k_fold)))))
/-! The law -/
theorem PySem.Challenge.cw_aq6006_01_holds : PySem.Challenge.rw_aq6006_01.Holds := by
  k_with_none
  k_with "tree" => (with_reducible rfl)
  k_with "pyIter ref" => k_search (fun _ => True)
  exact hd (by k_go)
