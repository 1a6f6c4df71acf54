import PyProof.Rows.All
import Wide.All
import OpenK.AllK
import Wide.FinOn
import PySem.Challenge.RW_pk0011_01
set_option Elab.async false

section TTop1
open PySem PySem.W PyProof.Rows
set_option maxRecDepth 100000
set_option maxHeartbeats 8000000
namespace Mine
open_top hd for PySem.Challenge.rw_pk0011_01
end Mine
end TTop1

theorem Mine.calm : True := by
  w_top off
  trivial

section TLeft1
open PySem PySem.W PyProof.Rows PySem.Calls
set_option maxRecDepth 1000000
set_option maxHeartbeats 0
namespace Mine
theorem heap_adr : ∀ P, [2, 3, 6, 15, 17, 18, 20, 21, 22, 24, 25, 27, 28, 29, 31, 32, 34, 35, 36, 39, 40, 41, 43, 44, 46, 47, 48, 50, 51, 53, 54, 55, 58, 59] = (hd.heap_39 P).map (·.1) := fun _ => by kernel_rfl
noncomputable def hk : Hook := kmHook hd.heap_39 [2, 3, 6, 15, 17, 18, 20, 21, 22, 24, 25, 27, 28, 29, 31, 32, 34, 35, 36, 39, 40, 41, 43, 44, 46, 47, 48, 50, 51, 53, 54, 55, 58, 59] heap_adr [42]
theorem left0 : LeftO PySem.Challenge.rw_pk0011_01.row.prog hd.view_39 [] (fun s => xlAt hd.view_39 [] s && recOk (RowW.records PySem.Challenge.rw_pk0011_01.row.toRowW) s) hk.obs hk.val 880 := fun w => by kernel_rfl
end Mine
end TLeft1

section TB1
open PySem PySem.W PyProof.Rows PySem.Calls
set_option maxRecDepth 100000
set_option maxHeartbeats 8000000
namespace Mine

abbrev Pg : Program := PySem.Challenge.rw_pk0011_01.row.prog

/-- one written Around, above all that the law reaches -/
abbrev Ar (d u : Nat) : Around := { handled := none, depth := d, frames := none, guards := none, units := u }

theorem up {α : Type} {M : Model} {A : Around} {t : Sem α} {Q : α → Shared → Prop} {E : Value → Shared → Prop} {s : Shared} {d u : Nat}
    (h : wpAny M (Ar d u) t Q E s) (hh : A.handled = none) (hd : A.depth ≤ d) (hu : A.units ≤ u) : wpAny M A t Q E s :=
  fun Γ p hΓ => h Γ p ⟨hΓ.1.trans hh, Nat.le_trans hΓ.2.1 hd, fun _ e => (nomatch e), fun _ e => (nomatch e), Nat.le_trans hΓ.2.2.2.2 hu⟩

/-- what a call needs of the heap -/
structure Gd (w : World) (mg mb : Str → Option Value) (h : Heap) : Prop where
  X : (hd.heap_39 w.params).In h
  T : ∃ p loose mean, Top p loose mean mg mb h

abbrev Kp (h h' : Heap) : Prop := ∀ b o, h.get? b = some o → h'.get? b = some o

theorem enter {w : World} {A : Around} {Q : Value → Shared → Prop} {E : Value → Shared → Prop} {s : Shared} {p : Program} {loose : List Str} {mean : ExcName → Option Value} {mg mb : Str → Option Value}
    {name qual : Str} {params : Arguments} {body : List Stmt} {scope : Scope} {dV kV doc pm cdv ct oc : Value} {an od : Option Addr} {osl : Array (Option Value)} {f : Addr} {vals : List Value} {binds : List (Str × Value)}
    (X : (hd.heap_39 w.params).In s.heap) (T : Top p loose mean mg mb s.heap)
    (ho : (hd.heap_39 w.params).lookup f = some ⟨oc, od, .func (fnOf name qual params body scope dV kV doc pm an cdv ct), osl⟩) (hcd : codeIn (hd.heap_39 w.params) cdv qual = true) (hroom : A.depth < recursionLimit)
    (hbind : BindsTo s (fnOf name qual params body scope dV kV doc pm an cdv ct) ⟨vals, []⟩ binds) (hloc : ∀ y ∈ binds, scope.names.lookup y.1 = some .local)
    (h : ∀ L h₁, Fr s.heap L h₁ (fun y => binds.reverse.lookup y) →
      wpAny (model Pg w) (A.deeper (envOf qual scope L f cdv)) (execs body (envOf qual scope L f cdv))
        (fun fl s' => Q (match fl with | .ret v => v | _ => .none) s') (fun _ _ => False)
        { s with heap := h₁, toks := s.toks + binds.length })
    (hco : scope.isCoroutine = false) (hgen : scope.isGenerator = false) (hk : scope.kind = .function)
    (hcell : ∀ x ∈ scope.names, x.2 ≠ .cell) : wpAny (model Pg w) A (call (.ref f) vals) Q E s := by
  refine wpAny_call (codeAny_call_def (fd := fnOf name qual params body scope dV kV doc pm an cdv ct) (body := body) (binds := binds) hroom (X _ _ ho) rfl T.nolimit (codeRec_of X hcd) rfl hbind hcell hloc (fun h₁ hns hk₁ => ?_) hco hgen hk)
  exact wpAny_mono (h s.heap.objs.size h₁ ⟨hns, hk₁, Nat.le_refl _⟩) (fun fl s' hl => hl) fun _ _ y => y.elim

end Mine
end TB1

section TB2
open PySem PySem.W PyProof.Rows PySem.Calls
set_option maxRecDepth 100000
set_option maxHeartbeats 8000000
namespace Mine
theorem loopN {prog : Program} {w : World} {A : Around} {E : Value → Shared → Prop} {s : Shared} {env : Env} {h₀ : Heap} {target : Expr} {body : List Stmt} {Q : Flow → Shared → Prop}
    {I : Addr} {fp wr : List Addr} {n : Nat} {P Md : Nat → Value → Heap → Prop} {St : Nat → Heap → Prop} {m₀ : Str → Option Value} {news fix : List (Addr × Obj)}
    (W : KTurns prog w A target I fp wr n P Md St) (hLf : env.locals ∉ fp) (hwr : ∀ b ∈ wr, h₀.get? b = none)
    (hst : St 0 s.heap) (F : Fr h₀ env.locals s.heap m₀) (N : News h₀ env.locals s.heap (news ++ fix))
    (hnf : ∀ p ∈ news, p.1 ∉ fp) (hfw : ∀ p ∈ fix, p.1 ∉ wr) (hnx : ∀ p ∈ news, ∀ q ∈ fix, q.1 ≠ p.1)
    (J : Nat → (Str → Option Value) → List (Addr × Obj) → Prop) (hj : J 0 m₀ news)
    (turn : ∀ i v m₁ news₁ h tk own, i < n → P i v h → news₁.map (·.1) = news.map (·.1) → OwnOff own (news.map (·.1)) → (∀ p ∈ fix, p ∈ own) → J i m₁ news₁ → Fr h₀ env.locals h m₁ → News h₀ env.locals h (news₁ ++ own) →
      wpAny (model prog w) A (assign target env v) (fun _ s₂ => wpAny (model prog w) A (execs body env) (InvPostN h₀ env.locals (J (i + 1)) own (news.map (·.1)) { s with heap := h, toks := tk } Q) E s₂) E { s with heap := h, toks := tk })
    (done : ∀ m₁ news₁ h tk, J n m₁ news₁ → news₁.map (·.1) = news.map (·.1) → Fr h₀ env.locals h m₁ → News h₀ env.locals h (news₁ ++ fix) → Q .next { s with heap := h, toks := tk }) :
    TurnsAt prog w A h₀ env target body Q E (.ref I) s := by
  let J' : Nat → (Str → Option Value) → List (Addr × Obj) → Prop := fun i m nw => ∃ news₁, nw = news₁ ++ fix ∧ news₁.map (·.1) = news.map (·.1) ∧ J i m news₁
  have adrN : ∀ {news₁ : List (Addr × Obj)}, news₁.map (·.1) = news.map (·.1) → ∀ p ∈ news₁, ∃ q ∈ news, q.1 = p.1 := fun e p hp => by
    have h1 : p.1 ∈ news.map (·.1) := e ▸ List.mem_map.mpr ⟨p, hp, rfl⟩
    obtain ⟨q, hq, e'⟩ := List.mem_map.mp h1
    exact ⟨q, hq, e'⟩
  have offW : ∀ {news₁ : List (Addr × Obj)}, news₁.map (·.1) = news.map (·.1) → ∀ p ∈ news₁ ++ fix, p.1 ∉ wr := fun e p hp hw => by
    rcases List.mem_append.mp hp with h1 | h1
    · obtain ⟨q, hq, e'⟩ := adrN e p h1
      exact hnf q hq (W.sub _ (e' ▸ hw))
    · exact hfw p h1 hw
  refine ⟨I, fp, wr, n, P, Md, St, m₀, news ++ fix, J', rfl, W, hLf, hwr, offW rfl, hst, F, N, ⟨news, rfl, rfl, hj⟩, ?_, ?_⟩
  · rintro i v m₁ nw h₁ tk₁ own₀ hi hP ⟨news₁, rfl, hadr, hJ⟩ _ hown _ _ _ F₁ N₁
    have hoff : OwnOff (own₀ ++ fix) (news.map (·.1)) := fun p hp b hb => by
      obtain ⟨q, hq, rfl⟩ := List.mem_map.mp hb
      rcases List.mem_append.mp hp with h1 | h1
      · exact fun e => hnf q hq (e ▸ hown p h1)
      · exact hnx q hq p h1
    have N₂ : News h₀ env.locals h₁ (news₁ ++ (own₀ ++ fix)) := fun p hp => N₁ p (by
      rcases List.mem_append.mp hp with h1 | h1
      · exact List.mem_append_right _ (List.mem_append_left _ h1)
      · rcases List.mem_append.mp h1 with h2 | h2
        · exact List.mem_append_left _ h2
        · exact List.mem_append_right _ (List.mem_append_right _ h2))
    refine wpAny_mono (turn i v m₁ news₁ h₁ tk₁ (own₀ ++ fix) hi hP hadr hoff (fun p hp => List.mem_append_right _ hp) hJ F₁ N₂) (fun _ s₂ h2 => wpAny_mono h2 (fun f s₃ p => ?_) fun _ _ e => e) fun _ _ e => e
    have fin : InvEndN h₀ env.locals (J (i + 1)) (own₀ ++ fix) (news.map (·.1)) { s with heap := h₁, toks := tk₁ } s₃ → LoopStepU h₀ env.locals wr own₀ (J' (i + 1)) { s with heap := h₁, toks := tk₁ } .next s₃ := by
      rintro ⟨h', tk, m', news', nx, e, F', N', hn, ho, ha, hm⟩
      refine ⟨rfl, h', tk, m', nx ++ fix, e, F', fun p hp => N' p ?_, offW ha, nx, rfl, ha, hm⟩
      rcases List.mem_append.mp hp with h1 | h1
      · exact ho p (List.mem_append_left _ h1)
      · rcases List.mem_append.mp h1 with h2 | h2
        · exact hn p h2
        · exact ho p (List.mem_append_right _ h2)
    cases f with
    | ret v => exact .ret p
    | brk => exact .brk p
    | next => exact .next (fin p)
    | cont => exact .cont (fin p)
  · rintro h' tk m' nw F' N' _ ⟨news₁, rfl, ha, hJ⟩
    exact done m' news₁ h' tk hJ ha F' N'

end Mine
end TB2

section TB3
open PySem PySem.W PyProof.Rows PySem.Calls
set_option maxRecDepth 100000
set_option maxHeartbeats 8000000
namespace Mine
theorem KTurns.nm {prog : Program} {w : World} {A : Around} {x : Str} {px : Pos} {I : Addr} {fp wr : List Addr} {n : Nat} {P : Nat → Value → Prop} {St : Nat → Heap → Prop} (W : Walks prog w A I fp wr n P St) :
    KTurns prog w A (.Name x px) I fp wr n (fun i v _ => P i v) (fun i v h => P i v ∧ St (i + 1) h) St :=
  KTurns.ofWalks W fun _ _ _ _ _ _ h => wpAny_pure h

theorem zip_loop {prog : Program} {w : World} {A : Around} {E : Value → Shared → Prop} {s : Shared} {env : Env} {h₀ : Heap} {elts : List Expr} {k : Nat} {pos : Pos} {body : List Stmt} {Q : Flow → Shared → Prop}
    {a b : Addr} {xs ys : Array Value} {m₀ : Str → Option Value}
    (hh : A.handled = none) (F : Fr h₀ env.locals s.heap m₀) (ha : h₀.IsList a xs) (hb : h₀.IsList b ys)
    (J : Nat → (Str → Option Value) → Prop) (hj : J 0 m₀)
    (hn : (assignEach elts env).length = 2) (hstar : (assignEach elts env).findIdx? (·.1) = none)
    (turn : ∀ i x y m₁ h tk own, xs[i]? = some x → ys[i]? = some y → J i m₁ → Fr h₀ env.locals h m₁ → News h₀ env.locals h own →
      wpAny (model prog w) A (assignInOrder ((assignEach elts env).map (·.2)) [x, y]) (fun _ s₂ => wpAny (model prog w) A (execs body env) (InvPostN h₀ env.locals (fun m _ => J (i + 1) m) own [] { s with heap := h, toks := tk } Q) E s₂) E { s with heap := h, toks := tk })
    (done : ∀ m₁ h tk, J (min xs.size ys.size) m₁ → Fr h₀ env.locals h m₁ → Q .next { s with heap := h, toks := tk }) :
    wpAny (model prog w) A (call (.type "zip") [.ref a, .ref b]) (fun xv s₁ => wpAny (model prog w) A (pyIter xv) (fun it s₂ => TurnsAt prog w A h₀ env (.Tuple elts k pos) body Q E it s₂) E s₁) E s := by
  have hla : s.heap.IsList a xs := ha.at fun o e => F.keep _ o e
  have hlb : s.heap.IsList b ys := hb.at fun o e => F.keep _ o e
  have la : a < s.heap.objs.size := by obtain ⟨_, e, _⟩ := hla; exact Heap.lt_size e
  have lb : b < s.heap.objs.size := by obtain ⟨_, e, _⟩ := hlb; exact Heap.lt_size e
  have lL : env.locals < s.heap.objs.size := F.ns.lt
  have la0 : a < h₀.objs.size := by obtain ⟨_, e, _⟩ := ha; exact Heap.lt_size e
  have lb0 : b < h₀.objs.size := by obtain ⟨_, e, _⟩ := hb; exact Heap.lt_size e
  have hab := F.above
  refine call_zip_2 hla hlb fun h' hz hTI hTO hi1 hi2 hsz hk => ?_
  refine wpAny_pyIter_zip hz ?_
  have D : ZipApart (s.heap.objs.size + 4) (s.heap.objs.size + 2) (s.heap.objs.size + 3) s.heap.objs.size (s.heap.objs.size + 1) a b := by
    constructor <;> (simp only [Addr] at *; omega)
  have old : ∀ j, s.heap.objs.size ≤ j → h₀.get? j = none := fun j hj => Heap.get?_none_of_le (Nat.le_trans F.above (Nat.le_trans (Nat.le_of_lt lL) hj))
  refine loopN (s := { s with heap := h' }) (news := []) (fix := []) (m₀ := m₀) (KTurns.ofWalksU (WalksT.zip2 hh _ _ _ _ _ _ _ D xs ys).toU) ?_ ?_ ⟨hz, hTI, ⟨_, _, hTO⟩, hi1, hi2, hla.at fun o e => hk _ o e, hlb.at fun o e => hk _ o e⟩ ⟨F.ns.keeps hk, fun b o e => hk b o (F.keep b o e), F.above⟩
    (fun p hp => nomatch hp) (fun p hp => nomatch hp) (fun p hp => nomatch hp) (fun p hp => nomatch hp) (fun i m _ => J i m) hj ?_ ?_
  · intro hm
    simp only [List.mem_cons, List.not_mem_nil, or_false] at hm
    simp only [Addr] at *
    omega
  · intro c hc
    simp only [List.mem_cons, List.not_mem_nil, or_false] at hc
    refine old c ?_
    simp only [Addr] at *
    omega
  · rintro i v m₁ news₁ h tk own hi ⟨Tp, vals, rfl, ⟨x, y, hx, hy, rfl⟩, hT⟩ hadr hoff _ hJ F₁ N₁
    have e : news₁ = [] := by cases news₁ with | nil => rfl | cons _ _ => cases hadr
    subst e
    exact unpackN_ F₁ N₁ hT hh hn hstar fun h'' F'' N'' => turn i x y m₁ h'' tk own hx hy hJ F'' N''
  · intro m₁ news₁ h tk hJ _ F' _
    exact done m₁ h tk hJ F'
end Mine
end TB3

section TAh
open PySem PySem.W PyProof.Rows PySem.Calls
set_option maxRecDepth 100000
set_option maxHeartbeats 8000000
namespace Mine
theorem fill : (PySem.Challenge.rw_pk0011_01 = PySem.Challenge.rw_pk0011_01) ∧ hd.heap_39 = hd.heap_39 := by
  k_fill
  exact ⟨rfl, rfl⟩
def ahead (bent : List Int) : Bool → List Int → List Int → Bool
  | back, x :: xs, y :: ys => if x = y then ahead bent (if x ∈ bent then !back else back) xs ys else (decide (x < y)) != back
  | _, _, _ => false

theorem ahead_ne {nc na nb : List Int} {bk : Bool} {i : Nat} {x y : Int} (hx : na[i]? = some x) (hy : nb[i]? = some y) (hne : x ≠ y) : ahead nc bk (na.drop i) (nb.drop i) = (decide (x < y) != bk) := by
  obtain ⟨hi, rfl⟩ := List.getElem?_eq_some_iff.mp hx
  obtain ⟨hj, rfl⟩ := List.getElem?_eq_some_iff.mp hy
  rw [List.drop_eq_getElem_cons hi, List.drop_eq_getElem_cons hj, ahead, if_neg hne]
theorem ahead_in {nc na nb : List Int} {bk : Bool} {i : Nat} {x : Int} (hx : na[i]? = some x) (hy : nb[i]? = some x) (hin : (nc.any fun z => z == x) = true) : ahead nc bk (na.drop i) (nb.drop i) = ahead nc (!bk) (na.drop (i + 1)) (nb.drop (i + 1)) := by
  obtain ⟨hi, ex⟩ := List.getElem?_eq_some_iff.mp hx
  obtain ⟨hj, ey⟩ := List.getElem?_eq_some_iff.mp hy
  have hm : x ∈ nc := by simpa using hin
  rw [List.drop_eq_getElem_cons hi, List.drop_eq_getElem_cons hj, ahead, if_pos (ex.trans ey.symm), ex, if_pos hm]
theorem ahead_out {nc na nb : List Int} {bk : Bool} {i : Nat} {x : Int} (hx : na[i]? = some x) (hy : nb[i]? = some x) (hin : (nc.any fun z => z == x) = false) : ahead nc bk (na.drop i) (nb.drop i) = ahead nc bk (na.drop (i + 1)) (nb.drop (i + 1)) := by
  obtain ⟨hi, ex⟩ := List.getElem?_eq_some_iff.mp hx
  obtain ⟨hj, ey⟩ := List.getElem?_eq_some_iff.mp hy
  have hm : ¬ x ∈ nc := fun h => by
    have := List.any_eq_false.mp hin x h
    simp at this
  rw [List.drop_eq_getElem_cons hi, List.drop_eq_getElem_cons hj, ahead, if_pos (ex.trans ey.symm), ex, if_neg hm]
theorem ahead_end {nc na nb : List Int} {bk : Bool} : ahead nc bk (na.drop (min na.length nb.length)) (nb.drop (min na.length nb.length)) = false := by
  rcases Nat.le_total na.length nb.length with h | h
  · rw [Nat.min_eq_left h, List.drop_length]; simp [ahead]
  · rw [Nat.min_eq_right h, List.drop_length]; cases na.drop nb.length <;> simp [ahead]

local macro_rules | `(tactic| walk_at "eval Name") => `(tactic| (k_here; k_dflt (refine' ld ?k1 ?k2 ?_; (case k1 => k_asm); (case k2 => assumption); k_whole)))

theorem ahead_t {w : World} {Q E : Value → Shared → Prop} {s : Shared} {p : Program} {loose : List Str} {mean : ExcName → Option Value} {mg mb : Str → Option Value} {a b c : Addr} {va vb vc : List Value} {na nb nc : List Int}
   (X : (hd.heap_39 w.params).In s.heap) (T : Top p loose mean mg mb s.heap) (ha : s.heap.IsList a va.toArray) (hb : s.heap.IsList b vb.toArray) (hc : s.heap.IsList c vc.toArray)
   (ia : IntsAre va na) (ib : IntsAre vb nb) (ic : IntsAre vc nc) (hQ : ∀ h' tk, Kp s.heap h' → Q (.bool (ahead nc false na nb)) { s with heap := h', toks := tk }) :
   wpAny (model Pg w) (Ar 500 100) (call (.ref 35) [.ref a, .ref b, .ref c]) Q E s := by
  refine' enter (binds := [(Str.ofString "one", .ref a), (Str.ofString "other", .ref b), (Str.ofString "bent", .ref c)]) X T ?k6 ?k7 ?k8 ?k9 ?kB ?_ ?c2 ?c3 ?c4 ?c5
  case k6 => k_is
  case k7 => k_is
  case k8 => decide
  case k9 => exact BindsTo.of_eq rfl
  case kB => exact locs rfl
  case c2 => exact rfl
  case c3 => exact rfl
  case c4 => exact rfl
  case c5 => decide
  intro L h₁ F
  have N : News s.heap L h₁ [] := News.nil
  try dsimp only
  walk1; walk1; walk1; walk1; walk1
  rename Fr _ _ _ _ => F
  refine For_turns F ?_ (hE := PassesOwn.never)
  walk1
  walk1
  walk1
  walk1
  walk1
  walk1
  walk1
  walk1
  have hlen := ia.length
  refine zip_loop rfl F ha hb (fun i m => m (Str.ofString "bent") = some (.ref c) ∧ ∃ bk, m (Str.ofString "back") = some (.bool bk) ∧ ahead nc false na nb = ahead nc bk (na.drop i) (nb.drop i)) ⟨rfl, false, rfl, rfl⟩ rfl rfl ?_ ?_
  · rintro i x y m₁ h tk own hx hy ⟨hm1, bk, hm2, hbk⟩ F N
    obtain ⟨nx, tx, rfl, hnx⟩ := ia.at i x (by simpa using hx)
    obtain ⟨ny, ty, rfl, hny⟩ := ib.at i y (by simpa using hy)
    repeat' (first | walk1 | (dsimp only; walk1))
    · rename_i hne
      rw [← ahead_ne hnx hny hne, ← hbk]
      exact hQ _ _ (Fr.keep (by assumption))
    · rename_i hin _ _ _
      subst ny
      rename Fr _ _ _ _ => F'
      rename News _ _ _ _ => N'
      exact InvEndN.intro (nx := []) F' N' ⟨hm1, !bk, rfl, hbk.trans (ahead_in hnx hny hin)⟩ rfl (fun _ hp => nomatch hp) fun _ hp => hp
    · rename_i hin
      subst ny
      rename Fr _ _ _ _ => F'
      rename News _ _ _ _ => N'
      exact InvEndN.intro (nx := []) F' N' ⟨hm1, bk, hm2, hbk.trans (ahead_out hnx hny hin)⟩ rfl (fun _ hp => nomatch hp) fun _ hp => hp
  · rintro m₁ h tk ⟨_, bk, _, hJ⟩ F
    repeat' (first | walk1 | (dsimp only; walk1))
    dsimp only
    rw [← ahead_end (bk := bk) (nc := nc) (na := na) (nb := nb), ← ia.length, ← ib.length]
    simp only [List.size_toArray] at hJ
    rw [← hJ]
    exact hQ _ _ F.keep
end Mine
end TAh

section TG1
open PySem PySem.W PyProof.Rows PySem.Calls
set_option maxRecDepth 100000
set_option maxHeartbeats 8000000
namespace Mine
/-- the wp at one context -/
def wG {α : Type} (M : Model) (Γ : Ctx) (t : Sem α) (Q : α → Shared → Prop) (E : Value → Shared → Prop) (s : Shared) : Prop :=
  ∀ p, Sem.wp M Γ t (fun a _ s' => Q a s') (fun e _ s' => E e s') p s

def badIds : List String := Builtin.Bytes.decodersThatHold ++ ["bytearray.__contains__", "bytearray.__mod__", "bytearray.__rmod__", "_struct.pack_into.held", "bytearray.find.held"]
def okc : Code → Bool
  | .builtin id _ => !badIds.contains id
  | _ => true
def Clean (Γ : Ctx) : Prop := ∀ c ∈ Γ.code :: Γ.below.map (·.1), okc c = true

section
variable {α β : Type} {M : Model} {A : Around} {Γ : Ctx} {E : Value → Shared → Prop} {s : Shared}
theorem wG.any {t : Sem α} {Q : α → Shared → Prop} (hΓ : Γ.In A) (h : wpAny M A t Q E s) : wG M Γ t Q E s := fun p => h Γ p hΓ
theorem wG.bind {m : Sem α} {f : α → Sem β} {Q : β → Shared → Prop} (h : wG M Γ m (fun a s' => wG M Γ (f a) Q E s') E s) : wG M Γ (m >>= f) Q E s := fun p => by
  rw [Sem.wp_bind']
  exact Sem.wp_mono M Γ m (fun a p' s' h' => h' p') (fun _ _ _ h' => h') p s (h p)
theorem wG.bindA {m : Sem α} {f : α → Sem β} {Q : β → Shared → Prop} (hΓ : Γ.In A) (h : wpAny M A m (fun a s' => wG M Γ (f a) Q E s') E s) : wG M Γ (m >>= f) Q E s := wG.bind (wG.any hΓ h)
theorem wG.mono {t : Sem α} {Q Q' : α → Shared → Prop} {E' : Value → Shared → Prop} (h : wG M Γ t Q E s) (hQ : ∀ a s, Q a s → Q' a s) (hE : ∀ e s, E e s → E' e s) : wG M Γ t Q' E' s :=
  fun p => Sem.wp_mono M Γ t (fun a _ s => hQ a s) (fun e _ s => hE e s) p s (h p)
theorem wG.pure {a : α} {Q : α → Shared → Prop} (h : Q a s) : wG M Γ (pure a) Q E s := fun _ => h
theorem wG.holding {vs : List Value} {m : Sem α} {Q : α → Shared → Prop} (h : wG M Γ m Q E s) : wG M Γ (holding vs m) Q E s := fun p => by rw [Sem.wp_holding]; exact h p
theorem wG.keep {vs : List Value} {m : Sem α} {Q : α → Shared → Prop} (h : wG M Γ m Q E s) : wG M Γ (m.keep vs) Q E s := fun p => by rw [Sem.wp_keep]; exact h p
theorem wG.of_eq {t t' : Sem α} {Q : α → Shared → Prop} (e : t = t') (h : wG M Γ t' Q E s) : wG M Γ t Q E s := e ▸ h
theorem wG.onRaise {m : Sem α} {k : Value → Sem Unit} {Q : α → Shared → Prop} (h : wG M Γ m Q (fun _ _ => False) s) : wG M Γ (m.onRaise k) Q E s := fun p => by
  rw [Sem.wp_onRaise]
  exact Sem.wp_mono M Γ m (fun _ _ _ h' => h') (fun _ _ _ h' => h'.elim) p s (h p)
end

theorem Clean.enter {Γ : Ctx} {c : Code} {h : Option Value} {p : Pos} (hc : Clean Γ) (ok : okc c = true) : Clean (Γ.enter c h p) := by
  intro d hd
  have hd' : d ∈ c :: Γ.code :: Γ.below.map (·.1) := hd
  rcases List.mem_cons.mp hd' with rfl | hd'
  · exact ok
  · exact hc d hd'
theorem Clean.goto {Γ : Ctx} {c : Code} (hc : Clean Γ) (ok : okc c = true) : Clean (Γ.goto c) := by
  intro d hd
  have hd' : d ∈ c :: Γ.below.map (·.1) := hd
  rcases List.mem_cons.mp hd' with rfl | hd'
  · exact ok
  · exact hc d (List.mem_cons_of_mem _ hd')

/-- a code at one context -/
theorem codeG {M : Model} {A : Around} {Γ : Ctx} {c : Code} {R : Result → Shared → Prop} {s : Shared} (hc : Γ.code = c) (hB : Γ.Below A)
    (h : wpAny M (A.under c) (M.den c) (fun fin s' => match fin with | .done f => R (.ok f) s' | .again c' => c'.quiet = true ∧ ∀ p', wpCode M (Γ.goto c') R p' s')
      (fun e s' => R (.error e) s') s) (p : Pos) : wpCode M Γ R p s := by
  rw [wpCode_iff_wp, hc]
  refine Sem.wp_mono M Γ _ (fun fin p' s' h' => ?_) (fun _ _ _ h' => h') p s (h Γ p (hc ▸ hB.in))
  cases fin with
  | done f => exact h'
  | again c' => exact ⟨h'.1, h'.2 p'⟩
/-- the same, its tree at the context -/
theorem codeGG {M : Model} {Γ : Ctx} {c : Code} {R : Result → Shared → Prop} {s : Shared} (hc : Γ.code = c)
    (h : wG M Γ (M.den c) (fun fin s' => match fin with | .done f => R (.ok f) s' | .again c' => c'.quiet = true ∧ ∀ p', wpCode M (Γ.goto c') R p' s')
      (fun e s' => R (.error e) s') s) (p : Pos) : wpCode M Γ R p s := by
  rw [wpCode_iff_wp, hc]
  refine Sem.wp_mono M Γ _ (fun fin p' s' h' => ?_) (fun _ _ _ h' => h') p s (h p)
  cases fin with
  | done f => exact h'
  | again c' => exact ⟨h'.1, h'.2 p'⟩

theorem wG_runValue {M : Model} {Γ : Ctx} {c : Code} {Q : Value → Shared → Prop} {E : Value → Shared → Prop} {s : Shared}
    (h : ∀ p, wpCode M (Γ.enter c none p) (fun r s' => match r with | .ok (.ret v) => Q v s' | .ok _ => False | .error e => E e s') p s) : wG M Γ (runValue c) Q E s := fun p => by
  rw [Sem.wp_runValue]; exact h p
theorem wG_run {M : Model} {Γ : Ctx} {c : Code} {Q : Flow → Shared → Prop} {E : Value → Shared → Prop} {s : Shared}
    (h : ∀ p, wpCode M (Γ.enter c none p) (fun r s' => match r with | .ok f => Q f s' | .error e => E e s') p s) : wG M Γ (run c) Q E s := fun p => by
  rw [Sem.wp_run]; exact h p

theorem mark_none {A : Around} (hh : A.handled = none) : A.mark none = A := by
  obtain ⟨a, b, c, d, e⟩ := A
  rfl

/-- a function's own text, at a context -/
theorem codeG_func {prog : Program} {w : World} {Γ : Ctx} {body : List Stmt} {env : Env} {R : Result → Shared → Prop} {s : Shared} (hc : Γ.code = .func body env)
    (h : wG (model prog w) Γ (execs body env) (fun f s' => R (.ok (.ret (match f with | .ret v => v | _ => .none))) s') (fun _ _ => False) s) (p : Pos) : wpCode (model prog w) Γ R p s := by
  refine codeGG hc ?_ p
  show wG _ _ (do point; match ← (execs body env).onRaise (leaving env) with | .ret v => ret v | _ => ret .none) _ _ s
  refine wG.bind (fun _ => ?_)
  show wG _ _ (do match ← (execs body env).onRaise (leaving env) with | .ret v => ret v | _ => ret .none) _ _ s
  refine wG.bind (wG.onRaise (wG.mono h (fun f s' h' => ?_) fun _ _ x => x))
  cases f <;> exact wG.pure h'

/-- a def called, at a clean context -/
theorem wG_call_fn {prog : Program} {w : World} {A : Around} {Γ : Ctx} {a : Addr} {vals : List Value} {o : Obj} {fd : FuncData} {body : List Stmt} {Q : Value → Shared → Prop} {E : Value → Shared → Prop} {s : Shared}
    (hΓ : Γ.In A) (hcl : Clean Γ) (hroom : A.depth < recursionLimit)
    (ho : s.heap.get? a = some o) (hd' : o.data = .func fd) (hco : fd.scope.isCoroutine = false) (hgen : fd.scope.isGenerator = false) (hbody : fd.body = .stmts body) (hcd : s.heap.CodeRec fd.code fd.qualname)
    (h : wpAny (model prog w) A.in1 (bindArgs fd ⟨vals, []⟩) (fun binds s₁ =>
      wpAny (model prog w) A.in1 (newFunctionEnv fd.scope fd.globals fd.closure binds (fd.qualname ++ ".<locals>.") (some a) fd.code none fd.builtins)
        (fun env s₂ => s₂.heap.NoLimit ∧ ∀ Γ', Γ'.In (A.deeper env) → Clean Γ' → wG (model prog w) Γ' (execs body env) (fun f s' => Q (match f with | .ret v => v | _ => .none) s') (fun _ _ => False) s₂) E s₁) E s) :
    wG (model prog w) Γ (call (.ref a) vals) Q E s := by
  refine wG_runValue fun p => ?_
  have hB : (Γ.enter (.call (.ref a) ⟨vals, []⟩) none p).Below (A.mark none) := hΓ.enter _ none p (by intro x; cases x)
  refine codeG rfl hB ?_ p
  show wpAny _ (A.mark none).in1 (callAny (.ref a) ⟨vals, []⟩) _ _ s
  simp only [callAny]
  refine wpAny_bind (wpAny_load ho ?_)
  obtain ⟨c, oc, vs, tq, hc, hoc, hdc, hq⟩ := hcd
  simp only [hd', callFunction, hco, hgen, hbody, hc]
  rw [hc] at h
  refine wpAny_bind (m := field (.ref c) 1) (wpAny_field hoc hdc hq (wpAny_bind (wpAny_pure ?_)))
  refine wpAny_bind (wpAny_mono (show wpAny _ (A.mark none).in1 _ _ _ _ from h) (fun binds s₁ h₁ => wpAny_bind (wpAny_mono (show wpAny _ (A.mark none).in1 _ _ _ _ from h₁) (fun env s₂ h₂ => wpAny_bind (wpAny_enterFrame h₂.1 (show (A.mark none).in1.depth < _ from hroom)
    (wpAny_pure (And.intro rfl fun p' => ?_)))) fun _ _ h' => h')) fun _ _ h' => h')
  refine codeG_func rfl ?_ p'
  refine wG.mono (h₂.2 _ ?_ ((hcl.enter rfl).goto rfl)) (fun f s' x => ?_) fun _ _ x => x
  · exact (hB.goto (.func body env)).in
  · exact x
end Mine
end TG1

section TY1
open PySem PySem.W PyProof.Rows PySem.Calls
set_option maxRecDepth 1000000
set_option maxHeartbeats 8000000
namespace Mine
namespace Ba
theorem mro : mroOf (.type "bytearray") = pure [.type "bytearray", .type "object"] := by rw [mroOf_type]; kernel_rfl
theorem lookup_new : typeLookup (.type "bytearray") "__new__" = pure (some (.builtin "bytearray.__new__")) := by rw [typeLookup_type, builtinLookup_eq_fast]; kernel_rfl
theorem slot_init : Slot "bytearray" "__init__" "bytearray.__init__" :=
  .of (owner := "bytearray") (n := "__init__") (by rw [typeLookup_type, builtinLookup_eq_fast]; kernel_rfl) (by decide +kernel) (by decide +kernel) (by decide +kernel)
    (by first | exact .inl (by decide +kernel) | exact .inr (by decide +kernel)) (by rw [isSubtype_type]; kernel_rfl)
theorem called : TypeCalled "bytearray" "bytearray.__new__" "bytearray.__init__" :=
  ⟨by decide +kernel, by decide +kernel, ⟨_, _, mro⟩, madeBy_type mro lookup_new (by decide +kernel), by decide +kernel, by rw [isSubtype_type]; kernel_rfl, slot_init⟩
theorem typeCall_1 (a : Value) : checkTypeCall "bytearray" ⟨[a], []⟩ = pure () := by kernel_rfl
theorem newCall_1 (a : Value) : checkBuiltinCall "bytearray.__new__" ⟨[.type "bytearray", a], []⟩ = pure () := by kernel_rfl
theorem plain_new : plainId "bytearray.__new__" = true := by decide +kernel
theorem plain_init : plainId "bytearray.__init__" = true := by decide +kernel
theorem entry_new : entryFor table "bytearray.__new__" = some Builtin.«list.__new__» :=
  entryFor_alias (id' := "list.__new__") (by rw [fastTable_eq_tree]; kernel_rfl) (by first | rfl | decide +kernel) (by decide +kernel) (by rw [fastTable_eq_tree]; kernel_rfl)
theorem entry_init : entryFor table "bytearray.__init__" = some Builtin.«bytearray.__init__» := entryFor_of_tree (by kernel_rfl)
theorem owner_new : ("bytearray.__new__".splitOn ".__new__").headD "" = "bytearray" := by simp +decide [String.splitOn, String.splitOnAux]
theorem sub_self : isSubtype (.type "bytearray") (.type "bytearray") = pure true := by rw [isSubtype_type]; kernel_rfl
theorem bind1 (v : Value) : Builtin.Bytes.bindOptional "bytearray.__init__" "bytearray" ["source", "encoding", "errors"] [v] [] = pure [some v, none, none] := by kernel_rfl
end Ba

section
variable {prog : Program} {w : World} {A : Around} {E : Value → Shared → Prop} {s : Shared}
abbrev baObj (b : Array UInt8) : Obj := { cls := .type "bytearray", data := .bytearray b }
theorem code_ba_new (a : Value) {Q₁ : Value → Shared → Prop}
    (h : Q₁ (.ref s.heap.objs.size) { s with heap := s.heap.push (baObj #[]) }) :
    codeAny (model prog w) A (.call (.builtin "bytearray.__new__") ⟨[.type "bytearray", a], []⟩) (wants Q₁ E) s := by
  refine codeAny_of_tree ?_
  show wpAny _ A.in1 (do checkBuiltinCall "bytearray.__new__" ⟨[.type "bytearray", a], []⟩; again (.builtin "bytearray.__new__" ⟨[.type "bytearray", a], []⟩)) _ _ s
  refine wpAny_bind (wpAny_of_eq (Ba.newCall_1 a) (wpAny_pure ⟨plainId_quiet Ba.plain_new _, codeAny_builtin_stack Ba.entry_new rfl fun p st => ?_⟩))
  rw [Around.under_plainId Ba.plain_new _]
  have hsub := Ba.sub_self
  have hown := Ba.owner_new
  obtain ⟨hp, g, d, tk, os⟩ := s
  simp only [hown]
  wp_walk
  exact h
end
end Mine
end TY1

section TY2
open PySem PySem.W PyProof.Rows PySem.Calls
set_option maxRecDepth 1000000
set_option maxHeartbeats 8000000
namespace Mine
namespace Ba
theorem lookup_rel : typeLookup (.type "bytearray") "__release_buffer__" = pure (some (.builtin "bytearray.__release_buffer__")) := by rw [typeLookup_type, builtinLookup_eq_fast]; kernel_rfl
theorem lookup_index : typeLookup (.type "int") "__index__" = pure (some (.builtin "int.__index__")) := by rw [typeLookup_type, builtinLookup_eq_fast]; kernel_rfl
theorem rel_ends : ("bytearray.__release_buffer__".endsWith ("." ++ "__release_buffer__")) = true := by decide +kernel
theorem rel_drop : ("bytearray.__release_buffer__".dropRight ("__release_buffer__".length + 1)) = "bytearray" := by decide +kernel
end Ba
section
variable {M : Model} {A : Around} {Γ : Ctx} {E : Value → Shared → Prop} {s : Shared}
theorem okc_builtin {id : String} {a : Args} : okc (.builtin id a) = !badIds.contains id := rfl
theorem bad_not {id : String} (hid : (!badIds.contains id) = true) : Builtin.Bytes.decodersThatHold.contains id = false := by
  cases q : Builtin.Bytes.decodersThatHold.contains id with
  | false => rfl
  | true =>
    have : badIds.contains id = true := by
      unfold badIds
      simp only [List.contains_iff_mem] at q ⊢
      exact List.mem_append_left _ q
    rw [this] at hid
    cases hid
theorem any_ok {l : List (Code × Pos)} {f : Code × Pos → Bool} (hl : ∀ x ∈ l, okc x.1 = true) (hf : ∀ c p, okc c = true → f (c, p) = false) : l.any f = false := by
  rw [List.any_eq_false]
  rintro ⟨c, q⟩ hx
  rw [hf c q (hl _ hx)]
  exact Bool.false_ne_true
theorem wG_exported {self : Value} {Q : Bool → Shared → Prop} (hcl : Clean Γ) (h : Q false s) : wG M Γ (Builtin.Bytes.exported self) Q E s := fun p => by
  unfold Builtin.Bytes.exported
  rw [Sem.wp_bind']
  show Sem.wp M Γ (.stack .pure) _ _ p s
  rw [Sem.wp_stack]
  show Q (List.any ((Γ.code, p) :: Γ.below) _) s
  rw [any_ok (l := (Γ.code, p) :: Γ.below) (fun x hx => hcl _ (by
      rcases List.mem_cons.mp hx with e | e
      · cases e; exact List.mem_cons_self
      · exact List.mem_cons_of_mem _ (List.mem_map.mpr ⟨_, e, rfl⟩))) fun c q hc => ?_]
  · exact h
  · split
    · rename_i heq; cases heq; rw [okc_builtin] at hc; exact absurd hc (by decide +kernel)
    · rename_i heq; cases heq; rw [okc_builtin] at hc; exact absurd hc (by decide +kernel)
    · rename_i heq; cases heq; rw [okc_builtin] at hc; exact absurd hc (by decide +kernel)
    · rename_i heq; cases heq; rw [okc_builtin] at hc; exact absurd hc (by decide +kernel)
    · rename_i heq; cases heq; rw [okc_builtin] at hc; exact absurd hc (by decide +kernel)
    · rename_i heq
      cases heq
      rw [okc_builtin] at hc
      rw [bad_not hc, Bool.and_false]
    · rfl

theorem wG_if_false {α : Type} {c : Bool} {a b : Sem α} {Q : α → Shared → Prop} (hc : c = false) (h : wG M Γ b Q E s) : wG M Γ (if c = true then a else b) Q E s := by
  subst hc
  exact h
theorem ba_ownRelease {B : Addr} {Q : Bool → Shared → Prop} (hT : s.TypeIs (.ref B) "bytearray") (h : Q false s) : wpAny M A (Builtin.Bytes.ownRelease (.ref B)) Q E s := by
  unfold Builtin.Bytes.ownRelease Builtin.Bytes.slotIsOwn
  refine wpAny_bind (wpAny_bind (wpAny_specialOf hT Ba.lookup_rel ?_))
  dsimp only
  refine bm_if_false (by rw [Ba.rel_ends]; rfl) ?_
  rw [Ba.rel_drop]
  exact wpAny_isInstance hT Ba.sub_self (wpAny_pure h)
theorem ba_write {B : Addr} {b : Array UInt8} {f : Array UInt8 → Array UInt8} {Q : Unit → Shared → Prop} (hB : s.heap.get? B = some (baObj b)) (hz : (f b).size ≤ sizeLine)
    (h : ∀ h', h'.get? B = some (baObj (f b)) → Heap.SameBut B s.heap h' → Q () { s with heap := h' }) : wpAny M A (updateBytearray B f) Q E s := by
  unfold updateBytearray
  refine wpAny_bind (wpAny_load hB ?_)
  show wpAny _ _ (update B (Obj.mapBytearray f) >>= fun _ => lookBehind B) _ _ _
  refine wpAny_bind (wpAny_update hB ?_)
  have hB₂ : (s.heap.update B (Obj.mapBytearray f)).get? B = some (baObj (f b)) := Heap.get?_update_self (Obj.mapBytearray f) hB rfl
  refine wpAny_lookBehind hB₂ ?_ (h _ hB₂ (Heap.SameBut.update ..))
  show (if (f b).size > sizeLine then some "bytearray:memory" else none) = none
  rw [if_neg (Nat.not_lt.mpr hz)]
/-- bytearray(n): the object is laid; at a clean context -/
theorem wG_ba_init {B : Addr} {n : Int} {t : Tok} {Q : Shared → Prop} (hΓ : Γ.In A) (hcl : Clean Γ) (hB : s.heap.get? B = some (baObj #[])) (h0 : 0 ≤ n) (hsz : n.toNat ≤ sizeLine)
    (hQ : ∀ h', h'.get? B = some (baObj (Array.replicate n.toNat 0)) → Heap.SameBut B s.heap h' → Q { s with heap := h' }) :
    wG M Γ (Builtin.«bytearray.__init__» ⟨[.ref B, .int n t], []⟩) (fun fin s' => fin = .done (.ret .none) ∧ Q s') E s := by
  have hT : s.TypeIs (.ref B) "bytearray" := ⟨_, hB, rfl⟩
  unfold Builtin.«bytearray.__init__»
  refine wG.bindA hΓ (ba_ownRelease hT ?_)
  refine wG_if_false rfl ?_
  refine wG.bindA hΓ (wpAny_of_eq (Ba.bind1 _) ?_)
  refine wG.bindA hΓ (wpAny_of_eq (a := ()) rfl ?_)
  refine wG.bindA hΓ (wpAny_of_eq (a := ()) rfl ?_)
  refine wG.bind ?_
  show wG M Γ (Builtin.Bytes.exported (.ref B) >>= _) _ _ _
  refine wG.bind (wG_exported hcl ?_)
  refine wG.any hΓ ?_
  show wpAny M A (do let n ← Builtin.Bytes.exportsOf (.ref B); pure (decide (n > 0))) _ _ _
  unfold Builtin.Bytes.exportsOf
  refine wpAny_bind (wpAny_bind (wpAny_load hB (wpAny_pure (wpAny_pure ?_))))
  refine wG.any hΓ ?_
  refine bm_if_false rfl ?_
  refine wpAny_bind ?_
  show wpAny _ _ (updateBytearray B (fun _ => #[])) _ _ _
  refine ba_write hB (by simp) fun h₁ hB₁ hs₁ => ?_
  dsimp only
  refine wpAny_bind (wpAny_of_eq (a := none) rfl ?_)
  refine bm_if_false rfl ?_
  refine wpAny_bind (wpAny_of_eq (a := ()) rfl ?_)
  refine wpAny_bind (wpAny_specialOf (typeIs_int _ _ _) Ba.lookup_index ?_)
  refine bm_if_true rfl ?_
  refine wpAny_bind (wpAny_of_eq (a := .ok n) rfl ?_)
  dsimp only
  have hz : n.toNat ≤ 16777216 := by rw [← sizeLine_eq]; exact hsz
  have hfi : Builtin.Bytes.fitsIndex n = true := by
    unfold Builtin.Bytes.fitsIndex
    simp only [Bool.and_eq_true, decide_eq_true_eq]
    omega
  have hmax : (n == 2 ^ 63 - 1) = false := by
    rw [beq_eq_false_iff_ne]
    omega
  have htl : Builtin.Bytes.tooLong n.toNat = false := by
    unfold Builtin.Bytes.tooLong
    rw [decide_eq_false_iff_not]
    omega
  rw [hfi]
  refine bm_if_false rfl ?_
  rw [if_neg (by omega)]
  refine bm_if_false hmax ?_
  refine bm_if_false htl ?_
  refine wpAny_bind (wpAny_rule ?_)
  by_cases hp : n > 0
  · rw [if_pos hp]
    refine wpAny_bind ?_
    show wpAny _ _ (updateBytearray B (fun _ => Array.replicate n.toNat 0)) _ _ _
    refine ba_write hB₁ (by rw [Array.size_replicate]; exact hsz) fun h₂ hB₂ hs₂ => ?_
    exact wpAny_pure ⟨rfl, hQ h₂ hB₂ (hs₁.trans hs₂)⟩
  · rw [if_neg hp]
    have e0 : n.toNat = 0 := by omega
    refine wpAny_pure ⟨rfl, hQ h₁ (by rw [e0]; exact hB₁) hs₁⟩
end
end Mine
end TY2

section TY3
open PySem PySem.W PyProof.Rows PySem.Calls
set_option maxRecDepth 1000000
set_option maxHeartbeats 8000000
namespace Mine
section
variable {prog : Program} {w : World} {A : Around} {Γ : Ctx} {E : Value → Shared → Prop} {s : Shared}
theorem codeGG_builtin {id : String} {args : Args} {b : Builtin} {R : Result → Shared → Prop} (hb : entryFor table id = some b) (hc : Γ.code = .builtin id args)
    (h : wG (model prog w) Γ (b args) (fun fin s' => match fin with | .done f => R (.ok f) s' | .again c' => c'.quiet = true ∧ ∀ p', wpCode (model prog w) (Γ.goto c') R p' s')
      (fun e s' => R (.error e) s') s) (p : Pos) : wpCode (model prog w) Γ R p s := by
  refine codeGG hc ?_ p
  have hden : (model prog w).den (.builtin id args) = b args := by
    show (match entryFor table id with | some b => b args | none => unsupported ((withoutEnding? id "#data").getD id)) = _
    rw [hb]
  rw [hden]
  exact h

theorem ok_type_call {a : Args} : okc (.builtin "type.__call__" a) = true := by rw [okc_builtin]; decide +kernel
theorem ok_ba_init {a : Args} : okc (.builtin "bytearray.__init__" a) = true := by rw [okc_builtin]; decide +kernel
theorem args_ba_init {B : Addr} {n : Int} {t : Tok} : argsOk "bytearray.__init__" ⟨[.ref B, .int n t], []⟩ := by
  unfold argsOk
  kernel_rfl
theorem wG_call_bytearray {n : Int} {t : Tok} {Q : Value → Shared → Prop} (hΓ : Γ.In A) (hcl : Clean Γ) (h0 : 0 ≤ n) (hsz : n.toNat ≤ sizeLine)
    (hQ : ∀ B h', s.heap.objs.size ≤ B → h'.get? B = some (baObj (Array.replicate n.toNat 0)) → Kp s.heap h' → Q (.ref B) { s with heap := h' }) :
    wG (model prog w) Γ (call (.type "bytearray") [.int n t]) Q E s := by
  refine wG_runValue fun p => ?_
  have hB : (Γ.enter (.call (.type "bytearray") ⟨[.int n t], []⟩) none p).Below (A.mark none) := hΓ.enter _ none p (by intro x; cases x)
  refine codeG rfl hB ?_ p
  show wpAny _ (A.mark none).in1 (callAny (.type "bytearray") ⟨[.int n t], []⟩) _ _ s
  refine wpAny_pure ⟨Code.quiet_builtin _ (by decide +kernel), fun p' => ?_⟩
  refine codeGG_builtin F.entry_type_call rfl ?_ p'
  have hΓ₂ : ((Γ.enter (.call (.type "bytearray") ⟨[.int n t], []⟩) none p).goto (.builtin "type.__call__" ⟨[.type "bytearray", .int n t], []⟩)).In ((A.mark none).in1) := (hB.goto (.builtin "type.__call__" ⟨[.type "bytearray", .int n t], []⟩)).in
  have hcl₂ : Clean ((Γ.enter (.call (.type "bytearray") ⟨[.int n t], []⟩) none p).goto (.builtin "type.__call__" ⟨[.type "bytearray", .int n t], []⟩)) := (hcl.enter rfl).goto ok_type_call
  generalize ((Γ.enter (.call (.type "bytearray") ⟨[.int n t], []⟩) none p).goto (.builtin "type.__call__" ⟨[.type "bytearray", .int n t], []⟩)) = Γ₂ at hΓ₂ hcl₂ ⊢
  unfold Builtin.«type.__call__»
  dsimp only
  refine wG_if_false (by decide +kernel) ?_
  refine wG_if_false Ba.called.canCreate ?_
  refine wG.bindA hΓ₂ (wpAny_of_eq (Ba.typeCall_1 _) ?_)
  refine wG.bindA hΓ₂ (wpAny_of_eq Ba.mro ?_)
  refine wG_if_false rfl ?_
  refine wG.bindA hΓ₂ (wpAny_of_eq Ba.called.made ?_)
  dsimp only
  refine wG.bindA hΓ₂ (wpAny_pure ?_)
  refine wG.bindA hΓ₂ (wpAny_holding (wpAny_call (codeAny_mono (code_ba_new (E := E) (.int n t) (Q₁ := fun v s' => v = .ref s.heap.objs.size ∧ s' = { s with heap := s.heap.push (baObj #[]) }) ⟨rfl, rfl⟩) fun r s₁ hr => ?_)))
  cases r with
  | error e => exact hr
  | ok fl =>
    cases fl with
    | ret obj =>
      obtain ⟨rfl, rfl⟩ := hr
      have hBa : (s.heap.push (baObj #[])).get? s.heap.objs.size = some (baObj #[]) := Heap.get?_push_size _ rfl
      have hT : ({ s with heap := s.heap.push (baObj #[]) } : Shared).TypeIs (.ref s.heap.objs.size) "bytearray" := ⟨_, hBa, rfl⟩
      dsimp only
      refine wG.bindA hΓ₂ (wpAny_isInstance hT Ba.sub_self ?_)
      refine wG_if_false rfl ?_
      refine wG.bind (wG.holding ?_)
      unfold callSpecial?
      refine wG.bindA hΓ₂ (wpAny_specialOf hT Ba.slot_init.lookup ?_)
      dsimp only
      refine wG.holding ?_
      refine wG.bindA hΓ₂ (wpAny_of_eq (Ba.slot_init.bind _) ?_)
      dsimp only
      refine wG.bind (wG_runValue fun p₂ => ?_)
      have hB₂ : (Γ₂.enter (.call (.builtin "bytearray.__init__") ⟨[.ref s.heap.objs.size, .int n t], []⟩) none p₂).Below ((A.mark none).in1.mark none) := hΓ₂.enter _ none p₂ (by intro x; cases x)
      refine codeG (c := .call (.builtin "bytearray.__init__") ⟨[.ref s.heap.objs.size, .int n t], []⟩) rfl hB₂ ?_ p₂
      show wpAny _ ((A.mark none).in1.mark none).in1 (do checkBuiltinCall "bytearray.__init__" ⟨[.ref s.heap.objs.size, .int n t], []⟩; again (.builtin "bytearray.__init__" ⟨[.ref s.heap.objs.size, .int n t], []⟩)) _ _ _
      refine wpAny_bind (Ba.slot_init.check _ _ _ _ _ _ _ _ hT args_ba_init ?_)
      refine wpAny_pure ⟨plainId_quiet Ba.plain_init _, fun p₃ => ?_⟩
      refine codeGG_builtin Ba.entry_init rfl ?_ p₃
      refine wG.mono (wG_ba_init (Q := fun s' => ∃ h', s' = { s with heap := h' } ∧ h'.get? s.heap.objs.size = some (baObj (Array.replicate n.toNat 0)) ∧ Kp s.heap h')
        (hB₂.goto (.builtin "bytearray.__init__" ⟨[.ref s.heap.objs.size, .int n t], []⟩)).in ((hcl₂.enter rfl).goto ok_ba_init) hBa h0 hsz fun h' e hs => ⟨h', rfl, e, fun b o x => ?_⟩) (fun fin s' x => ?_) fun e s' (x : E e s') => x
      · exact hs.extBut b o (Nat.ne_of_lt (Heap.lt_size x)) (Heap.get?_push_of_some _ x)
      · obtain ⟨rfl, h', rfl, e, hk⟩ := x
        dsimp only
        refine wG.pure ?_
        dsimp only
        refine wG_if_false rfl ?_
        exact wG.pure (hQ _ h' (Nat.le_refl _) e hk)
    | _ => exact hr.elim
end
end Mine
end TY3

section TY4
open PySem PySem.W PyProof.Rows PySem.Calls
set_option maxRecDepth 1000000
set_option maxHeartbeats 8000000
namespace Mine
namespace Ba
theorem slot_setitem : Slot "bytearray" "__setitem__" "bytearray.__setitem__" :=
  .of (owner := "bytearray") (n := "__setitem__") (by rw [typeLookup_type, builtinLookup_eq_fast]; kernel_rfl) (by decide +kernel) (by decide +kernel) (by decide +kernel)
    (by first | exact .inl (by decide +kernel) | exact .inr (by decide +kernel)) (by rw [isSubtype_type]; kernel_rfl)
theorem entry_setitem : entryFor table "bytearray.__setitem__" = some Builtin.«bytearray.__setitem__» := entryFor_of_tree (by kernel_rfl)
theorem args_setitem (a b c : Value) : argsOk "bytearray.__setitem__" ⟨[a, b, c], []⟩ := by unfold argsOk; kernel_rfl
theorem no_bytes : typeLookup (.type "bytearray") "__bytes__" = pure none := by rw [typeLookup_type, builtinLookup_eq_fast]; kernel_rfl
theorem lookup_noindex : typeLookup (.type "bytearray") "__index__" = pure none := by rw [typeLookup_type, builtinLookup_eq_fast]; kernel_rfl
theorem lookup_buf : typeLookup (.type "bytearray") "__buffer__" = pure (some (.builtin "bytearray.__buffer__")) := by rw [typeLookup_type, builtinLookup_eq_fast]; kernel_rfl
theorem buf_ends : ("bytearray.__buffer__".endsWith ("." ++ "__buffer__")) = true := by decide +kernel
theorem buf_drop : ("bytearray.__buffer__".dropRight ("__buffer__".length + 1)) = "bytearray" := by decide +kernel
end Ba
section
variable {prog : Program} {w : World} {A : Around} {E : Value → Shared → Prop} {s : Shared}
theorem ba_setItem {B : Addr} {b : Array UInt8} {k v : Int} {t u : Tok} {Q : Unit → Shared → Prop} (hB : s.heap.get? B = some (baObj b)) (h0 : 0 ≤ k) (hk : k < b.size) (hz : b.size ≤ sizeLine) (v0 : 0 ≤ v) (v1 : v < 256)
    (hQ : ∀ h', h'.get? B = some (baObj (b.setIfInBounds k.toNat v.toNat.toUInt8)) → Heap.SameBut B s.heap h' → Q () { s with heap := h' }) :
    wpAny (model prog w) A (setItem (.ref B) (.int k t) (.int v u)) Q E s := by
  have hT : s.TypeIs (.ref B) "bytearray" := ⟨_, hB, rfl⟩
  have hz' : b.size ≤ 16777216 := by rw [← sizeLine_eq]; exact hz
  unfold setItem
  try with_reducible refine wpAny_holding ?_
  first | refine wpAny_bind (wpAny_pure ?_) | skip
  refine wpAny_bind (wpAny_sequenceKey hT (by decide) ?_)
  refine wpAny_bind (wpAny_callSpecial?_slot (name := Str.ofString "__setitem__") hT Ba.slot_setitem
    (wpAny_call_entry Ba.slot_setitem hT Ba.entry_setitem ?_ (Ba.args_setitem _ _ _)))
  unfold Builtin.«bytearray.__setitem__»
  dsimp only
  refine bm_if_false rfl ?_
  unfold Builtin.Bytes.subscript?
  refine wpAny_bind (wpAny_bind (wpAny_specialOf (typeIs_int _ _ _) Ba.lookup_index ?_))
  refine bm_if_false rfl ?_
  refine wpAny_bind (wpAny_of_eq (rfl : asIndex (.int k t) = pure k) ?_)
  have hfi : Builtin.Bytes.fitsIndex k = true := by
    unfold Builtin.Bytes.fitsIndex
    simp only [Bool.and_eq_true, decide_eq_true_eq]
    omega
  rw [hfi]
  refine bm_if_false rfl ?_
  refine wpAny_pure ?_
  dsimp only
  unfold Builtin.Bytes.byteValue
  refine wpAny_bind (wpAny_bind (wpAny_of_eq (rfl : asIndex (.int v u) = pure v) ?_))
  refine bm_if_false (by simp only [Bool.or_eq_false_iff, decide_eq_false_iff_not]; omega) ?_
  refine wpAny_pure ?_
  unfold Builtin.Bytes.payload Builtin.Bytes.payload?
  refine wpAny_bind (wpAny_bind (wpAny_bind (wpAny_load hB ?_)))
  refine wpAny_pure (wpAny_pure ?_)
  have hsi : seqIndex? k b.size = some k.toNat := by
    unfold seqIndex?
    dsimp only
    have e : (if k < 0 then k + (b.size : Int) else k) = k := if_neg (by omega)
    rw [e, if_pos (by simp only [Bool.and_eq_true, decide_eq_true_eq]; omega)]
  rw [hsi]
  dsimp only
  refine wpAny_bind ?_
  show wpAny _ _ (updateBytearray B (·.setIfInBounds k.toNat v.toNat.toUInt8)) _ _ _
  exact ba_write hB (by rw [Array.size_setIfInBounds]; exact hz) fun h₁ hB₁ hs₁ => wpAny_pure ⟨.none, rfl, wpAny_pure (hQ h₁ hB₁ hs₁)⟩

theorem ba_new {B : Addr} {b : Array UInt8} {Q : Value → Shared → Prop} (hB : s.heap.get? B = some (baObj b)) (hz : b.size ≤ sizeLine)
    (hQ : ∀ t k, Q (.bytes b t) { s with toks := k }) :
    codeAny (model prog w) A (.call (.builtin "bytes.__new__") ⟨[.type "bytes", .ref B], []⟩) (wants Q E) s := by
  refine codeAny_of_tree ?_
  show wpAny _ A.in1 (do checkBuiltinCall "bytes.__new__" ⟨[.type "bytes", .ref B], []⟩; again (.builtin "bytes.__new__" ⟨[.type "bytes", .ref B], []⟩)) _ _ s
  refine wpAny_bind (wpAny_of_eq (F.bm_newCall _) (wpAny_pure ⟨plainId_quiet F.bm_plain _, codeAny_builtin F.bm_entry ?_⟩))
  rw [Around.under_plainId F.bm_plain _]
  have hT : s.TypeIs (.ref B) "bytearray" := ⟨_, hB, rfl⟩
  unfold Builtin.«bytes.__new__»
  refine wpAny_bind (wpAny_of_eq (a := true) rfl ?_)
  refine bm_if_false rfl ?_
  refine wpAny_bind (wpAny_of_eq F.bm_sub ?_)
  refine bm_if_false rfl ?_
  refine wpAny_bind (wpAny_of_eq (F.bm_bind _) ?_)
  refine wpAny_bind (wpAny_of_eq (a := ()) rfl ?_)
  refine wpAny_bind (wpAny_of_eq (a := ()) rfl ?_)
  refine bm_if_false rfl ?_
  refine wpAny_bind (wpAny_specialOf hT Ba.no_bytes ?_)
  refine wpAny_bind (wpAny_bind ?_)
  show wpAny _ _ (load B >>= _) _ _ _
  refine wpAny_bind (wpAny_load hB ?_)
  refine wpAny_pure (wpAny_pure ?_)
  refine bm_if_false rfl ?_
  refine wpAny_bind (wpAny_specialOf hT Ba.lookup_noindex ?_)
  refine bm_if_true rfl ?_
  first
    | show wpAny _ _ (Builtin.Bytes.buffer? "bytes.__new__" (.ref B) true >>= _) _ _ _
    | (refine wpAny_bind ?_; show wpAny _ _ (Builtin.Bytes.buffer? "bytes.__new__" (.ref B) true >>= _) _ _ _)
  refine wpAny_bind ?_
  unfold Builtin.Bytes.buffer?
  refine wpAny_bind (wpAny_specialOf hT Ba.lookup_buf ?_)
  dsimp only
  unfold Builtin.Bytes.slotIsOwn
  refine wpAny_bind (wpAny_bind (wpAny_specialOf hT Ba.lookup_buf ?_))
  dsimp only
  refine bm_if_false (by rw [Ba.buf_ends]; rfl) ?_
  rw [Ba.buf_drop]
  refine wpAny_isInstance hT Ba.sub_self ?_
  refine bm_if_false rfl ?_
  refine wpAny_bind (wpAny_specialOf hT Ba.lookup_buf ?_)
  show wpAny _ _ (Builtin.Bytes.ownRelease (.ref B) >>= _) _ _ _
  refine wpAny_bind (ba_ownRelease hT ?_)
  refine bm_if_false rfl ?_
  unfold Builtin.Bytes.payload Builtin.Bytes.payload?
  refine wpAny_bind (wpAny_bind (wpAny_bind (wpAny_load hB ?_)))
  refine wpAny_pure (wpAny_pure (wpAny_pure ?_))
  try dsimp only
  refine wpAny_bind (wpAny_rule ?_)
  refine wpAny_bind (wpAny_mkBytes ?_ hz)
  show wpAny _ _ (if (Value.type "bytes" == Value.type "bytes") = true then _ else _) _ _ _
  refine bm_if_true (by decide) ?_
  first
    | exact wpAny_pure (hQ _ _)
    | exact wpAny_bind (wpAny_pure (wpAny_pure (hQ _ _)))

theorem call_bytes_ba {B : Addr} {b : Array UInt8} {Q : Value → Shared → Prop} (hB : s.heap.get? B = some (baObj b)) (hz : b.size ≤ sizeLine)
    (hQ : ∀ t k, Q (.bytes b t) { s with toks := k }) : wpAny (model prog w) A (call (.type "bytes") [.ref B]) Q E s := by
  refine callType_codes (Q₁ := fun obj s₁ => s₁.TypeIs obj "bytes" ∧ Q obj s₁) F.bm_called (F.bm_typeCall _) F.entry_object_init
    (ba_new hB hz fun t k => ⟨PySem.W.typeIs_bytes _ _ _, hQ t k⟩) fun obj s₁ h₁ => ?_
  exact ⟨h₁.1, F.args_object_init_2 obj _, object_init_meets F.bm_called.init.lookup F.bm_called.made (by decide) prog w A.in1 _ s₁ ⟨h₁.1, rfl, h₁.2⟩⟩
end
end Mine
end TY4

section TG2
open PySem PySem.W PyProof.Rows PySem.Calls
set_option maxRecDepth 100000
set_option maxHeartbeats 8000000
namespace Mine
theorem enterG {w : World} {A : Around} {Γ : Ctx} {Q : Value → Shared → Prop} {E : Value → Shared → Prop} {s : Shared} {p : Program} {loose : List Str} {mean : ExcName → Option Value} {mg mb : Str → Option Value}
    {name qual : Str} {params : Arguments} {body : List Stmt} {scope : Scope} {dV kV doc pm cdv ct oc : Value} {an od : Option Addr} {osl : Array (Option Value)} {f : Addr} {vals : List Value} {binds : List (Str × Value)}
    (hΓ : Γ.In A) (hcl : Clean Γ)
    (X : (hd.heap_39 w.params).In s.heap) (T : Top p loose mean mg mb s.heap)
    (ho : (hd.heap_39 w.params).lookup f = some ⟨oc, od, .func (fnOf name qual params body scope dV kV doc pm an cdv ct), osl⟩) (hcd : codeIn (hd.heap_39 w.params) cdv qual = true) (hroom : A.depth < recursionLimit)
    (hbind : BindsTo s (fnOf name qual params body scope dV kV doc pm an cdv ct) ⟨vals, []⟩ binds) (hloc : ∀ y ∈ binds, scope.names.lookup y.1 = some .local)
    (h : ∀ Γ' L h₁, Γ'.In (A.deeper (envOf qual scope L f cdv)) → Clean Γ' → Fr s.heap L h₁ (fun y => binds.reverse.lookup y) →
      wG (model Pg w) Γ' (execs body (envOf qual scope L f cdv))
        (fun fl s' => Q (match fl with | .ret v => v | _ => .none) s') (fun _ _ => False)
        { s with heap := h₁, toks := s.toks + binds.length })
    (hco : scope.isCoroutine = false) (hgen : scope.isGenerator = false) (hk : scope.kind = .function)
    (hcell : ∀ x ∈ scope.names, x.2 ≠ .cell) : wG (model Pg w) Γ (call (.ref f) vals) Q E s := by
  refine wG_call_fn (fd := fnOf name qual params body scope dV kV doc pm an cdv ct) (body := body) hΓ hcl hroom (X _ _ ho) rfl hco hgen rfl (codeRec_of X hcd) (hbind _ _ _ _ ?_)
  refine wpAny_newFunctionEnv hcell hloc (fun h₀ hns₀ hsb₀ => ⟨T.nolimit.fresh _ hsb₀, fun Γ' hΓ' hcl' => ?_⟩) hk
  exact h Γ' s.heap.objs.size h₀ hΓ' hcl' ⟨hns₀, fun b o e => hsb₀.extBut b o (Nat.ne_of_lt (Heap.lt_size e)) (Heap.get?_push_of_some _ e), Nat.le_refl _⟩

section
variable {M : Model} {A : Around} {Γ : Ctx} {E : Value → Shared → Prop} {s : Shared} {env : Env}
theorem wG_execs_cons {st : Stmt} {rest : List Stmt} {Q : Flow → Shared → Prop} (h : wG M Γ (exec st env) (fun f s' => match f with | .next => wG M Γ (execs rest env) Q E s' | f => Q f s') E s) :
    wG M Γ (execs (st :: rest) env) Q E s := fun p => by
  rw [execs_cons, Sem.wp_bind']
  refine Sem.wp_mono M Γ _ (fun f p' s' h' => ?_) (fun _ _ _ h' => h') _ _ (h p)
  cases f <;> first | exact h' p' | exact h'
/-- a statement of the library's own walk, then on at the context -/
theorem wG_execs_any {st : Stmt} {rest : List Stmt} {Q : Flow → Shared → Prop} (hΓ : Γ.In A) (h : wpAny M A (exec st env) (fun f s' => match f with | .next => wG M Γ (execs rest env) Q E s' | f => Q f s') E s) :
    wG M Γ (execs (st :: rest) env) Q E s := wG_execs_cons (wG.any hΓ h)
theorem wG_Assign_Name {x : Str} {pos' : Pos} {value : Expr} {pos : Pos} {Q : Flow → Shared → Prop} (hΓ : Γ.In A)
    (h : wG M Γ (eval value env) (fun v s₁ => wpAny M A (storeName env x v) (fun _ => Q .next) E s₁) E s)
    (hs : swapsWith value (some (.Name x pos')) pos.line env = pure false := by rfl) :
    wG M Γ (exec (.Assign [.Name x pos'] value pos) env) Q E s := fun p => by
  simp only [exec_Assign_Name env x pos' value pos hs, Sem.wp_bind', Sem.wp_cmd_standAt, Sem.wp_bindName, Sem.wp_pure']
  exact Sem.wp_mono M Γ _ (fun v _ s₁ h₁ => h₁ Γ _ hΓ) (fun _ _ _ h' => h') _ _ (h _)
/-- a call: the callee and the arguments by the library's walk, the call at the context -/
theorem wG_callWith {P : Heap → Prop} {pos : Pos} {f : Value} {args : List (Bool × Sem Value)} {Q : Value → Shared → Prop} (hΓ : Γ.In A) (hplain : args.any (·.1) = false)
    (hk : ∀ h, P h → ∃ k, (k = Keeper.frame ∨ k = Keeper.machine ∨ k = Keeper.boundFrame) ∧ Looks M h (keeperOf f) k)
    (h : wpAny M A (evalArgs f true args []) (fun a s₁ => P s₁.heap ∧ wG M Γ (call f ([] ++ a.pos) a.kw) Q E s₁) E s) : wG M Γ (callWith pos f [] args []) Q E s := by
  unfold callWith
  refine wG.bindA hΓ (wpAny_holding (wpAny_mono h (fun a s₁ h₁ => ?_) fun _ _ x => x))
  refine wG.bindA hΓ (wpAny_standAt ?_)
  obtain ⟨k, hk', L⟩ := hk _ h₁.1
  have hpl : (args.any (·.1) || ([] : List (Option Str × Sem Value)).any (·.1.isNone)) = false := by rw [hplain]; rfl
  simp only [hpl]
  refine wG.bindA hΓ (L.here ?_)
  have tail : ∀ {t : Sem Value}, wG M Γ t Q E s₁ → wG M Γ (t >>= fun r => holding [r] point >>= fun _ => pure r) Q E s₁ :=
    fun ht => wG.bind (wG.mono ht (fun r s₂ hr => wG.bindA hΓ (wpAny_holding (wpAny_point (wG.pure hr)))) fun _ _ x => x)
  have marked (mk : Value) : wG M Γ (callMarked mk f ([] ++ a.pos) a.kw) Q E s₁ := by unfold callMarked; exact wG.keep h₁.2
  rcases hk' with rfl | rfl | rfl <;> dsimp only <;> first | exact tail h₁.2 | (split <;> first | exact tail h₁.2 | exact tail (marked _))
end
end Mine
end TG2

section TG3
open PySem PySem.W PyProof.Rows PySem.Calls
set_option maxRecDepth 100000
set_option maxHeartbeats 8000000
namespace Mine
section
variable {M : Model} {A : Around} {Γ : Ctx} {E : Value → Shared → Prop} {s : Shared} {env : Env}
theorem wG_Call {id : Str} {p pos : Pos} {args : List Expr} {Q : Value → Shared → Prop} (hΓ : Γ.In A)
    (h : wpAny M A (eval (.Name id p) env) (fun f s₁ => wG M Γ (callWith pos f [] (backTo pos (starEach args env)) []) Q E s₁) E s) :
    wG M Γ (eval (.Call (.Name id p) args [] pos) env) Q E s := by
  show wG M Γ (do callWith pos (← eval (.Name id p) env) [] (backTo pos (starEach args env)) (backToKw pos (keywordEach [] env))) Q E s
  exact wG.bindA hΓ h
theorem wG_callWith_K {K : Frag} {f : Value} {pos : Pos} {e : Expr} {rest : List Expr} {Q : Value → Shared → Prop} (hΓ : Γ.In A) (hk : keepIn K f = true)
    (h : wpAny M A (spliced (backTo pos (starEach (e :: rest) env))) (fun vs s₁ => K.In s₁.heap ∧ wG M Γ (call f vs) Q E s₁) E s)
    (he : starEach (e :: rest) env = (false, eval e env) :: starEach rest env := by rfl) (hplain : (backTo pos (starEach rest env)).any (·.1) = false := by rfl) :
    wG M Γ (callWith pos f [] (backTo pos (starEach (e :: rest) env)) []) Q E s := by
  rw [he] at h ⊢
  exact wG_callWith hΓ (by show (false || (backTo pos (starEach rest env)).any (·.1)) = false; rw [hplain]; rfl) (keeps_K hk) (evalArgs_plain h)
theorem wG_callWith_T {T : String} {pos : Pos} {e : Expr} {rest : List Expr} {Q : Value → Shared → Prop} (hΓ : Γ.In A)
    (h : wpAny M A (spliced (backTo pos (starEach (e :: rest) env))) (fun vs s₁ => wG M Γ (call (.type T) vs) Q E s₁) E s)
    (he : starEach (e :: rest) env = (false, eval e env) :: starEach rest env := by rfl) (hplain : (backTo pos (starEach rest env)).any (·.1) = false := by rfl) :
    wG M Γ (callWith pos (.type T) [] (backTo pos (starEach (e :: rest) env)) []) Q E s := by
  rw [he] at h ⊢
  exact wG_callWith (P := fun _ => True) hΓ (by show (false || (backTo pos (starEach rest env)).any (·.1)) = false; rw [hplain]; rfl)
    (fun _ _ => ⟨.machine, .inr (.inl rfl), Looks.of_pure rfl⟩) (evalArgs_plain (wpAny_mono h (fun _ _ x => ⟨trivial, x⟩) fun _ _ x => x))
end

theorem range_turns {prog : Program} {w : World} {A : Around} {E : Value → Shared → Prop} {s : Shared} {env : Env} {h₀ : Heap} {x : Str} {px : Pos} {body : List Stmt} {Q : Flow → Shared → Prop}
    {r : Addr} {a b c : Int} {t u v : Tok} {n : Nat} {m₀ : Str → Option Value} {news fix : List (Addr × Obj)}
    (hh : A.handled = none) (hr : IsRange s.heap r a b c t u v) (hsmall : Builtin.Range.small a b c = true) (hn : Builtin.Range.rangeSize a b c = (n : Int)) (F : Fr h₀ env.locals s.heap m₀) (N : News h₀ env.locals s.heap (news ++ fix))
    (hnx : ∀ p ∈ news, ∀ q ∈ fix, q.1 ≠ p.1)
    (J : Nat → (Str → Option Value) → List (Addr × Obj) → Prop) (hj : J 0 m₀ news)
    (turn : ∀ i t₁ m₁ news₁ h tk own, i < n → news₁.map (·.1) = news.map (·.1) → OwnOff own (news.map (·.1)) → (∀ p ∈ fix, p ∈ own) → J i m₁ news₁ → Fr h₀ env.locals h m₁ → News h₀ env.locals h (news₁ ++ own) →
      wpAny (model prog w) A (assign (.Name x px) env (.int (a + i * c) t₁)) (fun _ s₂ => wpAny (model prog w) A (execs body env) (InvPostN h₀ env.locals (J (i + 1)) own (news.map (·.1)) { s with heap := h, toks := tk } Q) E s₂) E { s with heap := h, toks := tk })
    (done : ∀ m₁ news₁ h tk, J n m₁ news₁ → news₁.map (·.1) = news.map (·.1) → Fr h₀ env.locals h m₁ → News h₀ env.locals h (news₁ ++ fix) → Q .next { s with heap := h, toks := tk }) :
    wpAny (model prog w) A (pyIter (.ref r)) (fun it s₂ => TurnsAt prog w A h₀ env (.Name x px) body Q E it s₂) E s := by
  have lL : env.locals < s.heap.objs.size := F.ns.lt
  refine wpAny_pyIter_range hr hsmall ?_
  have old : h₀.get? s.heap.objs.size = none := Heap.get?_none_of_le (Nat.le_trans F.above (Nat.le_of_lt lL))
  refine loopN (s := { s with heap := s.heap.push { cls := .type "range_iterator", data := .fields #[rawInt a, rawInt (Builtin.Range.rangeSize a b c), rawInt c] } }) (m₀ := m₀) (news := news) (fix := fix)
    (KTurns.nm (Walks.range hh s.heap.objs.size a c n)) ?_ ?_ ?_ (F.push _) (fun p hp => ⟨Heap.get?_push_of_some _ (N p hp).1, (N p hp).2⟩) ?_ ?_ hnx J hj ?_ ?_
  · intro hm
    rw [List.mem_singleton.mp hm] at lL
    exact absurd lL (Nat.lt_irrefl _)
  · intro b hb
    rw [List.mem_singleton.mp hb]
    exact old
  · show IsRangeIter _ _ _ _ _
    have e1 : a + ((0 : Nat) : Int) * c = a := by simp
    have e2 : (n : Int) - ((0 : Nat) : Int) = n := by simp
    rw [e1, e2, ← hn]
    exact Heap.get?_push_size _ rfl
  · intro p hp hm
    have := Heap.lt_size (N p (List.mem_append_left _ hp)).1
    rw [List.mem_singleton.mp hm] at this
    exact absurd this (Nat.lt_irrefl _)
  · intro p hp hm
    have := Heap.lt_size (N p (List.mem_append_right _ hp)).1
    rw [List.mem_singleton.mp hm] at this
    exact absurd this (Nat.lt_irrefl _)
  · rintro i v m₁ news₁ h tk own hi ⟨t₁, rfl⟩ hadr hoff hfix hJ F₁ N₁
    exact turn i t₁ m₁ news₁ h tk own hi hadr hoff hfix hJ F₁ N₁
  · intro m₁ news₁ h tk hJ ha F' N'
    exact done m₁ news₁ h tk hJ ha F' N'
end Mine
end TG3

section TB4
open PySem PySem.W PyProof.Rows PySem.Calls
set_option maxRecDepth 100000
set_option maxHeartbeats 8000000
namespace Mine
theorem Fr.kp {h₀ h h' : Heap} {L : Addr} {m : Str → Option Value} (F : Fr h₀ L h m) (hk : Kp h h') : Fr h₀ L h' m := ⟨F.ns.keeps hk, fun b o e => hk b o (F.keep b o e), F.above⟩
theorem News.kp {h₀ h h' : Heap} {L : Addr} {news : List (Addr × Obj)} (N : News h₀ L h news) (hk : Kp h h') : News h₀ L h' news := fun p hp => ⟨hk _ _ (N p hp).1, (N p hp).2⟩
theorem News.add {h₀ h h' : Heap} {L a : Addr} {o : Obj} {m : Str → Option Value} {news : List (Addr × Obj)} (F : Fr h₀ L h m) (N : News h₀ L h news) (hk : Kp h h') (hsz : h.objs.size ≤ a) (ho : h'.get? a = some o) : News h₀ L h' ((a, o) :: news) := by
  intro p hp
  rcases List.mem_cons.mp hp with rfl | hp
  · exact ⟨ho, Nat.ne_of_gt (Nat.lt_of_lt_of_le F.ns.lt hsz), Heap.get?_none_of_le (Nat.le_trans F.above (Nat.le_trans (Nat.le_of_lt F.ns.lt) hsz))⟩
  · exact ⟨hk _ _ (N p hp).1, (N p hp).2⟩
theorem News.add' {h₀ h h' : Heap} {L a : Addr} {o : Obj} {m : Str → Option Value} {news : List (Addr × Obj)} (F : Fr h₀ L h m) (N : News h₀ L h news) (hk : Kp h h') (hsz : h.get? a = none) (ho : h'.get? a = some o) : News h₀ L h' ((a, o) :: news) := by
  intro p hp
  rcases List.mem_cons.mp hp with rfl | hp
  · refine ⟨ho, fun e => ?_, ?_⟩
    · obtain ⟨oL, _, _, hL, _⟩ := F.ns
      rw [show a = L from e, hL] at hsz
      cases hsz
    · cases q : h₀.get? a with
      | none => rfl
      | some o' => rw [F.keep _ _ q] at hsz; cases hsz
  · exact ⟨hk _ _ (N p hp).1, (N p hp).2⟩
theorem News.off {h₀ h : Heap} {L a : Addr} {news : List (Addr × Obj)} (N : News h₀ L h news) (hsz : h.get? a = none) : ∀ p ∈ news, p.1 ≠ a := fun p hp e => by
  have := (N p hp).1
  rw [e, hsz] at this
  cases this
theorem none_of_le {h : Heap} {a : Addr} (hsz : h.objs.size ≤ a) : h.get? a = none := Heap.get?_none_of_le hsz
theorem News.lt {h₀ h : Heap} {L : Addr} {news : List (Addr × Obj)} {a : Addr} (N : News h₀ L h news) (hsz : h.objs.size ≤ a) : ∀ p ∈ news, p.1 < a := fun p hp => Nat.lt_of_lt_of_le (Heap.lt_size (N p hp).1) hsz
/-- one object of the ledger's head changed -/
theorem News.put {h₀ h h' : Heap} {L a : Addr} {o o' : Obj} {news : List (Addr × Obj)} (N : News h₀ L h ((a, o) :: news)) (hne : ∀ p ∈ news, p.1 ≠ a) (hs : Heap.SameBut a h h') (ho : h'.get? a = some o') : News h₀ L h' ((a, o') :: news) := by
  intro p hp
  rcases List.mem_cons.mp hp with rfl | hp
  · exact ⟨ho, (N _ (.head _)).2⟩
  · exact ⟨(hs.2 _ (hne p hp)).trans (N p (.tail _ hp)).1, (N p (.tail _ hp)).2⟩
theorem Fr.put {h₀ h h' : Heap} {L a : Addr} {o : Obj} {m : Str → Option Value} {news : List (Addr × Obj)} (F : Fr h₀ L h m) (N : News h₀ L h news) (hm : (a, o) ∈ news) (hs : Heap.SameBut a h h') : Fr h₀ L h' m := F.update N hm hs

theorem News.sub {h₀ h h' : Heap} {L a : Addr} {o o' : Obj} {news news' : List (Addr × Obj)} (N : News h₀ L h news) (hm : (a, o) ∈ news) (hs : Heap.SameBut a h h') (ho : h'.get? a = some o')
    (hsub : ∀ p ∈ news', p = (a, o') ∨ (p ∈ news ∧ p.1 ≠ a)) : News h₀ L h' news' := by
  intro p hp
  rcases hsub p hp with rfl | ⟨h1, h2⟩
  · exact ⟨ho, (N _ hm).2⟩
  · exact ⟨(hs.2 _ h2).trans (N p h1).1, (N p h1).2⟩
theorem append_led {prog : Program} {w : World} {A : Around} {E : Value → Shared → Prop} {s : Shared} {a : Addr} {items : List Value} {k : Nat} {x : Value} {Q : Value → Shared → Prop} (hg : s.heap.get? a = some (listOf items.toArray k)) (hz : items.length ≤ sizeLine)
    (h : ∀ h' k', h'.get? a = some (listOf (items ++ [x]).toArray k') → Heap.SameBut a s.heap h' → Q .none { s with heap := h' }) : wpAny (model prog w) A (call (.builtin "list.append") [.ref a, x]) Q E s :=
  wpAny_list_append_plain ⟨k, hg⟩ (fun h' ⟨k', e⟩ hs => h h' k' (by rw [e]; simp) hs) (by simpa using hz)
theorem filt_pos {α : Type} {ns : List α} {i : Nat} {n : α} {P : α → Bool} (hn : ns[i]? = some n) (h : P n = true) : (ns.take (i + 1)).filter P = (ns.take i).filter P ++ [n] := by
  rw [List.take_add_one, hn, List.filter_append]; simp [h]
theorem filt_neg {α : Type} {ns : List α} {i : Nat} {n : α} {P : α → Bool} (hn : ns[i]? = some n) (h : P n = false) : (ns.take (i + 1)).filter P = (ns.take i).filter P := by
  rw [List.take_add_one, hn, List.filter_append]; simp [h]

/-- the wide steps of plain text, up to what wants a rule of one's own -/
theorem rangeSize_pos {a b c : Int} {n : Nat} (hc : 0 < c) (h : b = a + n * c) : Builtin.Range.rangeSize a b c = n := by
  unfold Builtin.Range.rangeSize
  rw [if_pos hc]
  subst h
  by_cases h0 : n = 0
  · subst h0
    rw [if_neg (by simp)]
    rfl
  · have hp : 0 < (n : Int) * c := Int.mul_pos (by omega) hc
    rw [if_pos (by omega)]
    have e : a + (n : Int) * c - a - 1 = (c - 1) + ((n : Int) - 1) * c := by rw [Int.sub_mul]; omega
    rw [e, Int.add_mul_ediv_right _ _ (by omega), Int.ediv_eq_zero_of_lt (by omega) (by omega)]
    omega
theorem small_pos {a b c : Int} {n : Nat} (hc : 0 < c) (h : Builtin.Range.rangeSize a b c = n) (ha : -(2 ^ 62) ≤ a) (ha' : a < 2 ^ 62) (hb : -(2 ^ 62) ≤ b) (hb' : b < 2 ^ 62) (hc' : c < 2 ^ 61) (hn : n < 2 ^ 61) : Builtin.Range.small a b c = true := by
  unfold Builtin.Range.small
  rw [h]
  simp only [Builtin.Range.rangeFitsLong, Bool.and_eq_true, Bool.or_eq_true, decide_eq_true_eq, beq_iff_eq]
  rw [if_pos hc]
  simp only [Bool.and_eq_true, decide_eq_true_eq]
  omega
end Mine
end TB4

section TBs
open PySem PySem.W PyProof.Rows PySem.Calls
set_option maxRecDepth 100000
set_option maxHeartbeats 8000000
namespace Mine
theorem fillB : (PySem.Challenge.rw_pk0011_01 = PySem.Challenge.rw_pk0011_01) ∧ hd.heap_39 = hd.heap_39 := by
  k_fill
  exact ⟨rfl, rfl⟩
theorem bytes_item {prog : Program} {w : World} {A : Around} {E : Value → Shared → Prop} {s : Shared} {d : Array UInt8} {i : Int} {j : Nat} {c : UInt8} {t ui : Tok} {value slice : Expr} {Q : Value → Shared → Prop} (hfit : d.size ≤ 1099511627776) (hj : i = (j : Int)) (hc : d[j]? = some c)
    (h : Q (.int c.toNat s.toks) { s with toks := s.toks + 1 })
    (hs : subscripted slice false (.bytes d t) (.int i ui) = operate [.bytes d t, .int i ui] (getItem (.bytes d t) (.int i ui)) := by with_unfolding_all rfl)
    (ht : ∀ r, letTemporaryGo value (.bytes d t) r = pure () := by intro _; with_unfolding_all rfl) : wpAny (model prog w) A (subscriptTail value slice (.bytes d t) (.int i ui)) Q E s := by
  obtain ⟨x⟩ := d
  subst hj
  have hc' : x[j]? = some c := by simpa using hc
  obtain ⟨hlt, e⟩ := List.getElem?_eq_some_iff.mp hc'
  exact bytes_item_K (x := x) (by simpa using hfit) (by omega) (by omega) (by rw [Int.toNat_natCast, List.getD_eq_getElem?_getD, hc']; rfl) h hs ht
def Sw (d : Array UInt8) (W k j : Nat) (b : Array UInt8) : Prop := b.size = d.size ∧ (∀ k' < k, ∀ j' < W, b[k' * W + (W - 1 - j')]? = d[k' * W + j']?) ∧ (∀ j' < j, b[k * W + (W - 1 - j')]? = d[k * W + j']?)
theorem Sw.next {d b : Array UInt8} {W k : Nat} (h : Sw d W k W b) : Sw d W (k + 1) 0 b :=
  ⟨h.1, fun k' hk' j' hj' => by
    rcases Nat.lt_succ_iff_lt_or_eq.mp hk' with h1 | h1
    · exact h.2.1 k' h1 j' hj'
    · subst h1; exact h.2.2 j' hj', fun _ h => absurd h (Nat.not_lt_zero _)⟩
theorem Sw.step {d b : Array UInt8} {W k j : Nat} {x : UInt8} (h : Sw d W k j b) (hj : j < W) (hk : k * W + W ≤ d.size) (hx : d[k * W + j]? = some x) : Sw d W k (j + 1) (b.setIfInBounds (k * W + (W - 1 - j)) x) := by
  refine ⟨by rw [Array.size_setIfInBounds]; exact h.1, fun k' hk' j' hj' => ?_, fun j' hj' => ?_⟩
  · rw [Array.getElem?_setIfInBounds_ne]
    · exact h.2.1 k' hk' j' hj'
    · have : (k' + 1) * W ≤ k * W := Nat.mul_le_mul_right _ hk'
      rw [Nat.add_mul] at this
      omega
  · rcases Nat.lt_succ_iff_lt_or_eq.mp hj' with h1 | h1
    · rw [Array.getElem?_setIfInBounds_ne (by omega)]
      exact h.2.2 j' h1
    · subst h1
      rw [Array.getElem?_setIfInBounds_self_of_lt (by rw [h.1]; omega), hx]
local macro_rules | `(tactic| walk_at "eval Name") => `(tactic| (k_here; k_dflt (refine' ld ?k1 ?k2 ?_; (case k1 => k_asm); (case k2 => assumption); k_whole)))

local macro_rules | `(tactic| walk_at "mine.steps") => `(tactic| repeat' (first | ((fail_if_success (with_reducible show wpAny _ _ (exec (Stmt.For _ _ _ _ _) _) _ _ _)); (fail_if_success (with_reducible show wpAny _ _ (call (Value.type "range") _) _ _ _)); first | walk1 | (dsimp only; walk1))))
theorem byteswap_spec {w : World} {Γ : Ctx} {Q E : Value → Shared → Prop} {s : Shared} {p : Program} {loose : List Str} {mean : ExcName → Option Value} {mg mb : Str → Option Value} {d : Array UInt8} {td tw : Tok} {W Kn : Nat}
   (hΓ : Γ.In (Ar 500 100)) (hcl : Clean Γ) (X : (hd.heap_39 w.params).In s.heap) (T : Top p loose mean mg mb s.heap) (hW : 0 < W) (hW4 : W ≤ 4096) (hd : d.size = Kn * W) (hz : d.size ≤ 4096)
   (hQ : ∀ R t h' tk, Kp s.heap h' → R.size = d.size → (∀ k < Kn, ∀ j < W, R[k * W + (W - 1 - j)]? = d[k * W + j]?) → Q (.bytes R t) { s with heap := h', toks := tk }) :
   wG (model Pg w) Γ (call (.ref 21) [.bytes d td, .int W tw]) Q E s := by
  refine' enterG (binds := [(Str.ofString "data", .bytes d td), (Str.ofString "width", .int W tw)]) hΓ hcl X T ?k6 ?k7 ?k8 ?k9 ?kB ?_ ?c2 ?c3 ?c4 ?c5
  case k6 => k_is
  case k7 => k_is
  case k8 => decide
  case k9 => exact BindsTo.of_eq rfl
  case kB => exact locs rfl
  case c2 => exact rfl
  case c3 => exact rfl
  case c4 => exact rfl
  case c5 => decide
  intro Γ' L h₁ hΓ' hcl' F
  have N : News s.heap L h₁ [] := News.nil
  refine wG_execs_cons ?_
  refine wG_Assign_Name hΓ' ?_
  refine wG_Call hΓ' ?_
  walk_at "mine.steps"
  refine wG_callWith_T hΓ' ?_
  walk_at "mine.steps"
  rename Fr _ _ _ _ => F
  rename News _ _ _ _ => N
  refine wG_call_bytearray hΓ' hcl' (by omega) (by rw [sizeLine_eq]; simp; omega) fun B h₂ hB0 hB hk => ?_
  have hLB : L ≠ B := Nat.ne_of_lt (Nat.lt_of_lt_of_le F.ns.lt hB0)
  replace N := News.add F N hk hB0 hB
  replace F := Fr.kp F hk
  walk_at "mine.steps"
  refine wG.any hΓ' ?_
  rename Fr _ _ _ _ => F
  rename News _ _ _ _ => N
  refine wpAny_execs_cons ?_
  refine For_turns F ?_ (hE := PassesOwn.never)
  walk_at "mine.steps"
  rename Fr _ _ _ _ => F
  rename News _ _ _ _ => N
  refine call_range_3 (by omega) ?_ (Or.inl (PyProof.noPylong_small (by omega)))
  have hrs : Builtin.Range.rangeSize 0 (d.size : Int) (W : Int) = (Kn : Int) := rangeSize_pos (by omega) (by rw [hd]; simp)
  have hKn : Kn ≤ 4096 := by
    have : Kn * 1 ≤ Kn * W := Nat.mul_le_mul_left _ hW
    omega
  refine range_turns (news := [(B, baObj (Array.replicate ((d.size : Int)).toNat 0))]) (fix := []) rfl (IsRange.new ..) (small_pos (by omega) hrs (by omega) (by omega) (by omega) (by omega) (by omega) (by omega)) hrs (F.push _)
    (News.kp N fun b o e => Heap.get?_push_of_some _ e) (fun _ _ _ hq => nomatch hq)
    (fun i m news => m (Str.ofString "data") = some (.bytes d td) ∧ m (Str.ofString "width") = some (.int W tw) ∧ m (Str.ofString "swapped_data") = some (.ref B) ∧ ∃ b, news = [(B, baObj b)] ∧ Sw d W i 0 b)
    ⟨rfl, rfl, rfl, _, rfl, by simp, fun _ h => absurd h (Nat.not_lt_zero _), fun _ h => absurd h (Nat.not_lt_zero _)⟩ ?_ ?_
  · rintro i t₁ m₁ news₁ h tk own hi hadr hoff _ ⟨hm1, hm2, hm3, b, rfl, hb⟩ F N
    dsimp only [List.map, List.cons_append, List.nil_append] at *
    walk_at "mine.steps"
    rename Fr _ _ _ _ => F
    rename News _ _ _ _ => N
    refine For_turns F ?_ (hE := PassesOwn.never)
    walk_at "mine.steps"
    rename Fr _ _ _ _ => F
    rename News _ _ _ _ => N
    refine call_range_1 ?_
    have hrs2 : Builtin.Range.rangeSize 0 (W : Int) 1 = (W : Int) := rangeSize_pos (by omega) (by simp)
    have hkW : i * W + W ≤ d.size := by
      have : (i + 1) * W ≤ Kn * W := Nat.mul_le_mul_right _ hi
      rw [Nat.add_mul] at this
      omega
    refine range_turns (news := [(B, baObj b)]) (fix := own) rfl (IsRange.new ..) (small_pos (by omega) hrs2 (by omega) (by omega) (by omega) (by omega) (by omega) (by omega)) hrs2 (F.push _)
      (News.kp N fun b o e => Heap.get?_push_of_some _ e) (fun p hp q hq => ?_)
      (fun j m news => m (Str.ofString "data") = some (.bytes d td) ∧ m (Str.ofString "width") = some (.int W tw) ∧ m (Str.ofString "swapped_data") = some (.ref B) ∧ m (Str.ofString "i") = some (.int (0 + i * W) t₁) ∧ ∃ b, news = [(B, baObj b)] ∧ Sw d W i j b)
      ⟨hm1, hm2, hm3, rfl, b, rfl, hb⟩ ?_ ?_
    · rw [List.mem_singleton.mp hp]
      exact hoff q hq B (List.mem_singleton.mpr rfl)
    · rintro j t₂ m₂ news₂ h2 tk2 own2 hj hadr2 hoff2 hsub2 ⟨hn1, hn2, hn3, hn4, b2, rfl, hb2⟩ F N
      dsimp only [List.map, List.cons_append, List.nil_append] at *
      walk_at "mine.steps"
      rename Fr _ _ _ _ => F
      rename News _ _ _ _ => N
      have hlt : i * W + j < d.size := by omega
      have hcx : d[i * W + j]? = some d[i * W + j] := Array.getElem?_eq_getElem hlt
      refine bytes_item (j := i * W + j) (by omega) (by push_cast; omega) hcx ?_
      walk_at "mine.steps"
      dsimp only
      rename Fr _ _ _ _ => F
      rename News _ _ _ _ => N
      have hg := (N (B, baObj b2) (.head _)).1
      have hidx : (0 + (i : Int) * W + W - 1 - (0 + (j : Int) * 1)).toNat = i * W + (W - 1 - j) := by
        have : ((i * W : Nat) : Int) = (i : Int) * W := by push_cast; rfl
        omega
      have hnn : 0 ≤ (0 + (i : Int) * W + W - 1 - (0 + (j : Int) * 1)) := by
        have : ((i * W : Nat) : Int) = (i : Int) * W := by push_cast; rfl
        omega
      have hb2z : b2.size = d.size := hb2.1
      refine ba_setItem hg hnn (by omega) (by rw [hb2z, sizeLine_eq]; omega) (by omega) (by have := (d[i * W + j]).toNat_lt; omega) fun h3 hg3 hs3 => ?_
      rw [hidx, Int.toNat_natCast, show (d[i * W + j]).toNat.toUInt8 = d[i * W + j] from UInt8.ofNat_toNat] at hg3
      have F3 := Fr.put F N (.head _) hs3
      have N3 := News.put N (fun p hp => hoff2 p hp B (List.mem_singleton.mpr rfl)) hs3 hg3
      walk_at "mine.steps"
      refine InvEndN.intro (nx := [(B, baObj _)]) F3 N3 ?_ rfl (fun p hp => by rw [List.mem_singleton.mp hp]; exact .head _) fun p hp => .tail _ hp
      exact ⟨hn1, hn2, hn3, hn4, _, rfl, hb2.step hj hkW hcx⟩
    · rintro m₂ news₂ h2 tk2 ⟨hn1, hn2, hn3, hn4, b2, rfl, hb2⟩ hadr2 F N
      walk_at "mine.steps"
      rename Fr _ _ _ _ => F
      rename News _ _ _ _ => N
      refine InvEndN.intro (nx := [(B, baObj b2)]) F N ?_ rfl (fun p hp => List.mem_append_left _ hp) fun p hp => List.mem_append_right _ hp
      exact ⟨hn1, hn2, hn3, b2, rfl, hb2.next⟩
  · rintro m₁ news₁ h tk ⟨hm1, hm2, hm3, b, rfl, hb⟩ hadr F N
    walk_at "mine.steps"
    rename Fr _ _ _ _ => F
    rename News _ _ _ _ => N
    have hg := (N (B, baObj b) (.head _)).1
    refine call_bytes_ba hg (by rw [hb.1, sizeLine_eq]; omega) fun t k => ?_
    exact hQ b t _ _ F.keep hb.1 hb.2.1
end Mine
end TBs

section TSp
open PySem PySem.W PyProof.Rows PySem.Calls
set_option maxRecDepth 100000
set_option maxHeartbeats 8000000
namespace Mine
theorem fillS : (PySem.Challenge.rw_pk0011_01 = PySem.Challenge.rw_pk0011_01) ∧ hd.heap_39 = hd.heap_39 := by
  k_fill
  exact ⟨rfl, rfl⟩
theorem list_turns {prog : Program} {w : World} {A : Around} {E : Value → Shared → Prop} {s : Shared} {env : Env} {h₀ : Heap} {x : Str} {px : Pos} {body : List Stmt} {Q : Flow → Shared → Prop}
    {l : Addr} {items : Array Value} {m₀ : Str → Option Value} {news fix : List (Addr × Obj)}
    (hh : A.handled = none) (hl : s.heap.IsList l items) (hnl : ∀ p ∈ news, p.1 ≠ l) (hlL : l ≠ env.locals) (F : Fr h₀ env.locals s.heap m₀) (N : News h₀ env.locals s.heap (news ++ fix))
    (hnx : ∀ p ∈ news, ∀ q ∈ fix, q.1 ≠ p.1)
    (J : Nat → (Str → Option Value) → List (Addr × Obj) → Prop) (hj : J 0 m₀ news)
    (turn : ∀ i v m₁ news₁ h tk own, items[i]? = some v → news₁.map (·.1) = news.map (·.1) → OwnOff own (news.map (·.1)) → (∀ p ∈ fix, p ∈ own) → J i m₁ news₁ → Fr h₀ env.locals h m₁ → News h₀ env.locals h (news₁ ++ own) →
      wpAny (model prog w) A (assign (.Name x px) env v) (fun _ s₂ => wpAny (model prog w) A (execs body env) (InvPostN h₀ env.locals (J (i + 1)) own (news.map (·.1)) { s with heap := h, toks := tk } Q) E s₂) E { s with heap := h, toks := tk })
    (done : ∀ m₁ news₁ h tk, J items.size m₁ news₁ → news₁.map (·.1) = news.map (·.1) → Fr h₀ env.locals h m₁ → News h₀ env.locals h (news₁ ++ fix) → Q .next { s with heap := h, toks := tk }) :
    wpAny (model prog w) A (pyIter (.ref l)) (fun it s₂ => TurnsAt prog w A h₀ env (.Name x px) body Q E it s₂) E s := by
  have lL : env.locals < s.heap.objs.size := F.ns.lt
  have ll : l < s.heap.objs.size := by obtain ⟨_, e, _⟩ := hl; exact Heap.lt_size e
  refine wpAny_pyIter_list hl ?_
  have old : h₀.get? s.heap.objs.size = none := Heap.get?_none_of_le (Nat.le_trans F.above (Nat.le_of_lt lL))
  refine loopN (s := { s with heap := s.heap.push { cls := .type "list_iterator", data := .fields #[.ref l, .int 0 0] } }) (m₀ := m₀) (news := news) (fix := fix)
    (KTurns.nm (Walks.list hh s.heap.objs.size l (Nat.ne_of_lt ll) items)) ?_ ?_ ⟨⟨_, Heap.get?_push_size _ rfl, rfl, rfl⟩, hl.at fun o e => Heap.get?_push_of_some _ e⟩ (F.push _) (fun p hp => ⟨Heap.get?_push_of_some _ (N p hp).1, (N p hp).2⟩) ?_ ?_ hnx J hj ?_ ?_
  · intro hm
    rcases List.mem_cons.mp hm with e | e
    · exact absurd lL (e ▸ Nat.lt_irrefl _)
    · exact hlL (List.mem_singleton.mp e).symm
  · intro b hb
    rw [List.mem_singleton.mp hb]
    exact old
  · intro p hp hm
    rcases List.mem_cons.mp hm with e | e
    · exact absurd (Heap.lt_size (N p (List.mem_append_left _ hp)).1) (e ▸ Nat.lt_irrefl _)
    · exact hnl p hp (List.mem_singleton.mp e)
  · intro p hp hm
    have := Heap.lt_size (N p (List.mem_append_right _ hp)).1
    rw [List.mem_singleton.mp hm] at this
    exact absurd this (Nat.lt_irrefl _)
  · rintro i v m₁ news₁ h tk own hi hP hadr hoff hfix hJ F₁ N₁
    exact turn i v m₁ news₁ h tk own hP hadr hoff hfix hJ F₁ N₁
  · intro m₁ news₁ h tk hJ ha F' N'
    exact done m₁ news₁ h tk hJ ha F' N'

theorem callWith_fn {M : Model} {A : Around} {E : Value → Shared → Prop} {s : Shared} {env : Env} {pos : Pos} {f : Addr} {o : Obj} {fd : FuncData} {e : Expr} {rest : List Expr} {Q : Value → Shared → Prop} (hd : o.data = .func fd)
    (h : wpAny M A (spliced (backTo pos (starEach (e :: rest) env))) (fun vs s₁ => s₁.heap.get? f = some o ∧ wpAny M A (call (.ref f) vs) Q E s₁) E s)
    (he : starEach (e :: rest) env = (false, eval e env) :: starEach rest env := by rfl) (hplain : (backTo pos (starEach rest env)).any (·.1) = false := by rfl) :
    wpAny M A (callWith pos (.ref f) [] (backTo pos (starEach (e :: rest) env)) []) Q E s := by
  rw [he] at h ⊢
  refine callWith_of (P := fun h => h.get? f = some o) (by show ((false || (backTo pos (starEach rest env)).any (·.1)) || false) = false; rw [hplain]; rfl) (fun h ho => ⟨.frame, .inl rfl, (Looks.ld (part := none) ho).andThen ?_⟩) (evalArgs_plain h)
  rw [hd]
  exact .now

/-- a predicate that the heap bears: a def or a lambda that gives, for each int of ns, a new list, empty or not -/
def IsPred (w : World) (f : Addr) (P : Int → Bool) (ns : List Int) (h : Heap) : Prop :=
  (∃ o fd, h.get? f = some o ∧ o.data = .func fd) ∧
  ∀ (s : Shared) (n : Int) (t : Tok) (Q E : Value → Shared → Prop), n ∈ ns → Kp h s.heap →
    (∀ a us k h' tk, s.heap.get? a = none → h'.get? a = some (listOf us k) → (us.size ≠ 0 ↔ P n = true) → us.size ≤ 1 → Kp s.heap h' → Q (.ref a) { s with heap := h', toks := tk }) →
    wpAny (model Pg w) (Ar 600 200) (call (.ref f) [.int n t]) Q E s

local macro_rules | `(tactic| walk_at "eval Name") => `(tactic| (k_here; k_dflt (refine' ld ?k1 ?k2 ?_; (case k1 => k_asm); (case k2 => assumption); k_whole)))
local macro_rules | `(tactic| walk_at "mine.steps") => `(tactic| repeat' (first | ((fail_if_success (with_reducible show wpAny _ _ (exec (Stmt.For _ _ _ _ _) _) _ _ _)); (fail_if_success (with_reducible show wpAny _ _ (call (Value.type "range") _) _ _ _)); first | walk1 | (dsimp only; walk1))))

theorem split_spec {w : World} {Q E : Value → Shared → Prop} {s : Shared} {p : Program} {loose : List Str} {mean : ExcName → Option Value} {mg mb : Str → Option Value} {l f : Addr} {vs : List Value} {ns : List Int} {P : Int → Bool}
   (X : (hd.heap_39 w.params).In s.heap) (T : Top p loose mean mg mb s.heap) (hl : s.heap.IsList l vs.toArray) (hi : IntsAre vs ns) (hz : ns.length ≤ 4096) (hP : IsPred w f P ns s.heap)
   (hQ : ∀ a y n ys zs k1 k2 h' tk, Kp s.heap h' → s.heap.get? a = none → s.heap.get? y = none → s.heap.get? n = none → h'.get? a = some { cls := .type "tuple", data := .seq #[.ref y, .ref n] } → h'.get? y = some (listOf ys.toArray k1) → h'.get? n = some (listOf zs.toArray k2) →
      IntsAre ys (ns.filter P) → IntsAre zs (ns.filter fun n => !P n) → y ≠ n → Q (.ref a) { s with heap := h', toks := tk }) :
   wpAny (model Pg w) (Ar 500 100) (call (.ref 28) [.ref l, .ref f]) Q E s := by
  refine' enter (binds := [(Str.ofString "s", .ref l), (Str.ofString "predicate", .ref f)]) X T ?k6 ?k7 ?k8 ?k9 ?kB ?_ ?c2 ?c3 ?c4 ?c5
  case k6 => k_is
  case k7 => k_is
  case k8 => decide
  case k9 => exact BindsTo.of_eq rfl
  case kB => exact locs rfl
  case c2 => exact rfl
  case c3 => exact rfl
  case c4 => exact rfl
  case c5 => decide
  intro L h₁ F
  have N : News s.heap L h₁ [] := News.nil
  walk_at "mine.steps"
  rename Fr _ _ _ _ => F
  rename News _ _ _ _ => N
  rename_i y0 _ _ _ z0 _ hyz hh0
  refine For_turns F ?_ (hE := PassesOwn.never)
  walk_at "mine.steps"
  rename Fr _ _ _ _ => F
  rename News _ _ _ _ => N
  refine list_turns (news := [(z0, listOf #[] 0), (y0, listOf #[] 0)]) (fix := []) rfl (hl.at fun o e => F.keep _ o e) ?_ ?_ F N (fun _ _ _ hq => nomatch hq)
    (fun i m news => m (Str.ofString "predicate") = some (.ref f) ∧ m (Str.ofString "yes") = some (.ref y0) ∧ m (Str.ofString "no") = some (.ref z0) ∧
      ∃ ys zs k1 k2, news = [(z0, listOf zs.toArray k2), (y0, listOf ys.toArray k1)] ∧ IntsAre ys ((ns.take i).filter P) ∧ IntsAre zs ((ns.take i).filter fun n => !P n))
    ⟨rfl, rfl, rfl, [], [], 0, 0, rfl, .nil, .nil⟩ ?_ ?_
  · intro p hp e
    obtain ⟨o, ho, _⟩ := id hl
    have := (N p (List.mem_append_left _ hp)).2.2
    rw [e, ho] at this
    cases this
  · intro e
    obtain ⟨o, ho, _⟩ := id hl
    exact absurd (Heap.lt_size ho) (Nat.not_lt.mpr (Nat.le_trans F.above (Nat.le_of_eq e.symm)))
  · rintro i v m₁ news₁ h tk own hv hadr hoff _ ⟨hm1, hm2, hm3, ys, zs, k1, k2, rfl, hys, hzs⟩ F N
    obtain ⟨n, t, rfl, hn⟩ := hi.at i v (by simpa using hv)
    dsimp only [List.map, List.cons_append, List.nil_append] at *
    walk_at "mine.steps"
    obtain ⟨⟨of, fd, hf1, hf2⟩, hpred⟩ := hP
    refine callWith_fn hf2 ?_
    walk_at "mine.steps"
    rename Fr _ _ _ _ => F
    rename News _ _ _ _ => N
    refine up (hpred _ n t _ _ (List.mem_of_getElem? hn) F.keep fun a us k h' tk' ha hg hus hus1 hk => ?_) rfl (Nat.le_of_ble_eq_true rfl) (Nat.le_of_ble_eq_true rfl)
    have F2 := Fr.kp F hk
    have N2 := News.add' F N hk ha hg
    have hoff2 := News.off N ha
    clear F N
    walk_at "mine.steps"
    · rename_i hemp
      have hPn : P n = false := by
        have h0 : us.size = 0 := by simpa using hemp
        cases q : P n with
        | false => rfl
        | true => exact absurd h0 (hus.mpr q)
      have hzl : zs.length ≤ ns.length := by
        rw [hzs.length]
        exact Nat.le_trans (List.length_filter_le _ _) (by rw [List.length_take]; omega)
      have hgz := (N2 _ (.tail _ (.head _))).1
      refine append_led hgz (by rw [sizeLine_eq]; omega) fun h3 k3 hg3 hs3 => ?_
      have F3 := Fr.put F2 N2 (.tail _ (.head _)) hs3
      have N3 := News.sub N2 (.tail _ (.head _)) hs3 hg3 (news' := (z0, listOf (zs ++ [Value.int n t]).toArray k3) :: (y0, listOf ys.toArray k1) :: own) (fun p hp => by
        rcases List.mem_cons.mp hp with rfl | hp
        · exact .inl rfl
        · rcases List.mem_cons.mp hp with rfl | hp
          · exact .inr ⟨.tail _ (.tail _ (.head _)), fun e => absurd hyz (by simp only [Addr] at *; omega)⟩
          · exact .inr ⟨.tail _ (.tail _ (.tail _ hp)), hoff p hp z0 (.head _)⟩)
      walk_at "mine.steps"
      refine InvEndN.intro (nx := [(z0, listOf (zs ++ [Value.int n t]).toArray k3), (y0, listOf ys.toArray k1)]) F3 N3 ?_ rfl (fun p hp => ?_) fun p hp => .tail _ (.tail _ hp)
      · refine ⟨hm1, hm2, hm3, ys, zs ++ [Value.int n t], k1, k3, rfl, ?_, ?_⟩
        · rw [filt_neg hn hPn]; exact hys
        · rw [filt_pos hn (by rw [hPn]; rfl)]; exact hzs.append (.cons n t .nil)
      · rcases List.mem_cons.mp hp with rfl | hp
        · exact .head _
        · rw [List.mem_singleton.mp hp]; exact .tail _ (.head _)
    · rename_i hemp
      have hPn : P n = true := by
        refine hus.mp fun h0 => ?_
        have : us.isEmpty = true := by simpa using h0
        rw [this] at hemp
        cases hemp
      have hzl : ys.length ≤ ns.length := by
        rw [hys.length]
        exact Nat.le_trans (List.length_filter_le _ _) (by rw [List.length_take]; omega)
      have hgz := (N2 _ (.tail _ (.tail _ (.head _)))).1
      refine append_led hgz (by rw [sizeLine_eq]; omega) fun h3 k3 hg3 hs3 => ?_
      have F3 := Fr.put F2 N2 (.tail _ (.tail _ (.head _))) hs3
      have N3 := News.sub N2 (.tail _ (.tail _ (.head _))) hs3 hg3 (news' := (z0, listOf zs.toArray k2) :: (y0, listOf (ys ++ [Value.int n t]).toArray k3) :: own) (fun p hp => by
        rcases List.mem_cons.mp hp with rfl | hp
        · exact .inr ⟨.tail _ (.head _), fun e => absurd hyz (by simp only [Addr] at *; omega)⟩
        · rcases List.mem_cons.mp hp with rfl | hp
          · exact .inl rfl
          · exact .inr ⟨.tail _ (.tail _ (.tail _ hp)), hoff p hp y0 (.tail _ (.head _))⟩)
      walk_at "mine.steps"
      refine InvEndN.intro (nx := [(z0, listOf zs.toArray k2), (y0, listOf (ys ++ [Value.int n t]).toArray k3)]) F3 N3 ?_ rfl (fun p hp => ?_) fun p hp => .tail _ (.tail _ hp)
      · refine ⟨hm1, hm2, hm3, ys ++ [Value.int n t], zs, k3, k2, rfl, ?_, ?_⟩
        · rw [filt_pos hn hPn]; exact hys.append (.cons n t .nil)
        · rw [filt_neg hn (by rw [hPn]; rfl)]; exact hzs
      · rcases List.mem_cons.mp hp with rfl | hp
        · exact .head _
        · rw [List.mem_singleton.mp hp]; exact .tail _ (.head _)
  · rintro m₁ news₁ h tk ⟨hm1, hm2, hm3, ys, zs, k1, k2, rfl, hys, hzs⟩ hadr F N
    dsimp only [List.map, List.cons_append, List.nil_append] at *
    walk_at "mine.steps"
    rename Fr _ _ _ _ => F
    rename News _ _ _ _ => N
    have hsz : vs.toArray.size = ns.length := by simp [hi.length]
    rw [hsz, List.take_length] at hys hzs
    refine hQ _ y0 z0 ys zs k1 k2 _ _ F.keep (N _ (.head _)).2.2 (N _ (.tail _ (.tail _ (.head _)))).2.2 (N _ (.tail _ (.head _))).2.2 (N _ (.head _)).1 (N _ (.tail _ (.tail _ (.head _)))).1 (N _ (.tail _ (.head _))).1 hys hzs (Nat.ne_of_lt hyz)
end Mine
end TSp

section TG4
open PySem PySem.W PyProof.Rows PySem.Calls
set_option maxRecDepth 100000
set_option maxHeartbeats 8000000
namespace Mine
theorem kp_hide {h : Heap} {a : Addr} : Kp (h.hide a) h := fun _ _ e => Heap.of_hide e
theorem kp_hide2 {h h' : Heap} {a : Addr} (hk : Kp (h.hide a) h') : Kp (h.hide a) (h'.hide a) := fun b o e => by
  have hne : b ≠ a := fun q => by rw [q, Heap.hide_self] at e; cases e
  rw [Heap.hide_ne _ hne]
  exact hk b o e

section
variable {w : World} {A : Around} {Γ : Ctx} {Q : Value → Shared → Prop} {E : Value → Shared → Prop} {s : Shared} {p : Program} {loose : List Str} {mean : ExcName → Option Value} {mg mb : Str → Option Value}
    {name qual : Str} {params : Arguments} {body : List Stmt} {scope : Scope} {dV kV doc pm cdv ct oc : Value} {an od : Option Addr} {osl : Array (Option Value)} {f : Addr} {vals : List Value} {binds : List (Str × Value)}

theorem enterH {P : Addr} {oP : Obj} (hPo : s.heap.get? P = some oP)
    (X : (hd.heap_39 w.params).In (s.heap.hide P)) (T : Top p loose mean mg mb (s.heap.hide P))
    (ho : (hd.heap_39 w.params).lookup f = some ⟨oc, od, .func (fnOf name qual params body scope dV kV doc pm an cdv ct), osl⟩) (hcd : codeIn (hd.heap_39 w.params) cdv qual = true) (hroom : A.depth < recursionLimit)
    (hbind : BindsTo s (fnOf name qual params body scope dV kV doc pm an cdv ct) ⟨vals, []⟩ binds) (hkind : (binds.all fun y => scope.names.lookup y.1 == some .local || scope.names.lookup y.1 == some .cell) = true)
    (hnd : ((cellsFrom 0 scope.names []).map (·.1)).Nodup)
    (h : ∀ L h₁ tk cells, Fr (s.heap.hide P) L h₁ (bindL (envOfC qual scope L f cdv).kindOf binds fun _ => none) → News (s.heap.hide P) L h₁ (cells ++ [(P, oP)]) →
      CellsAre (bindC (envOfC qual scope L f cdv).kindOf binds fun _ => none) (cellsFrom (L + 1) scope.names []) cells → P < L →
      wpAny (model Pg w) (A.deeper (envOfC qual scope L f cdv)) (execs body (envOfC qual scope L f cdv))
        (fun fl s' => Q (match fl with | .ret v => v | _ => .none) s') (fun _ _ => False) { s with heap := h₁, toks := tk })
    (hco : scope.isCoroutine = false) (hgen : scope.isGenerator = false) (hk : scope.kind = .function) : wpAny (model Pg w) A (call (.ref f) vals) Q E s := by
  refine wpAny_call (codeAny_call_function (fd := fnOf name qual params body scope dV kV doc pm an cdv ct) (body := body) hroom (X.keeps kp_hide _ _ ho) rfl hco hgen rfl (codeRec_of (X.keeps kp_hide) hcd) (hbind _ _ _ _ ?_))
  refine wpAny_newFunctionEnv_cells hk (kindsX hkind _) fun env' he s' x => ?_
  subst he
  refine ⟨(T.nolimit.keeps kp_hide).keeps x.toInCall.keep, codeAny_func ?_⟩
  obtain ⟨h₁, tk, rfl, _⟩ := x.done
  have hk₁ := x.toInCall.keep
  obtain ⟨cells, NC, Y⟩ := Cl.news (h₀ := s.heap) (Nat.le_refl _) fun n c hm => ⟨x.cell n c (lookup_of_mem_nodup (cellsFrom_names scope.names 0 (s.heap.objs.size + 1) [] [] rfl ▸ hnd) hm), x.above n c hm⟩
  refine wpAny_mono (h s.heap.objs.size h₁ tk cells ⟨x.toInCall.ns, fun b o e => hk₁ b o (kp_hide b o e), Nat.le_of_eq (Heap.hide_size _ _)⟩ (fun p hp => ?_) Y (Heap.lt_size hPo)) (fun fl s' hl => hl) fun _ _ y => y.elim
  rcases List.mem_append.mp hp with hp | hp
  · refine ⟨(NC p hp).1, (NC p hp).2.1, ?_⟩
    cases q : (s.heap.hide P).get? p.1 with
    | none => rfl
    | some o => have := kp_hide _ _ q; rw [(NC p hp).2.2] at this; cases this
  · rw [List.mem_singleton.mp hp]
    exact ⟨hk₁ _ _ hPo, Nat.ne_of_lt (Heap.lt_size hPo), Heap.hide_self _ _⟩

theorem enterHG {P : Addr} {oP : Obj} (hΓ : Γ.In A) (hcl : Clean Γ) (hPo : s.heap.get? P = some oP)
    (X : (hd.heap_39 w.params).In (s.heap.hide P)) (T : Top p loose mean mg mb (s.heap.hide P))
    (ho : (hd.heap_39 w.params).lookup f = some ⟨oc, od, .func (fnOf name qual params body scope dV kV doc pm an cdv ct), osl⟩) (hcd : codeIn (hd.heap_39 w.params) cdv qual = true) (hroom : A.depth < recursionLimit)
    (hbind : BindsTo s (fnOf name qual params body scope dV kV doc pm an cdv ct) ⟨vals, []⟩ binds) (hkind : (binds.all fun y => scope.names.lookup y.1 == some .local || scope.names.lookup y.1 == some .cell) = true)
    (hnd : ((cellsFrom 0 scope.names []).map (·.1)).Nodup)
    (h : ∀ Γ' L h₁ tk cells, Γ'.In (A.deeper (envOfC qual scope L f cdv)) → Clean Γ' → Fr (s.heap.hide P) L h₁ (bindL (envOfC qual scope L f cdv).kindOf binds fun _ => none) → News (s.heap.hide P) L h₁ (cells ++ [(P, oP)]) →
      CellsAre (bindC (envOfC qual scope L f cdv).kindOf binds fun _ => none) (cellsFrom (L + 1) scope.names []) cells → P < L →
      wG (model Pg w) Γ' (execs body (envOfC qual scope L f cdv))
        (fun fl s' => Q (match fl with | .ret v => v | _ => .none) s') (fun _ _ => False) { s with heap := h₁, toks := tk })
    (hco : scope.isCoroutine = false) (hgen : scope.isGenerator = false) (hk : scope.kind = .function) : wG (model Pg w) Γ (call (.ref f) vals) Q E s := by
  refine wG_call_fn (fd := fnOf name qual params body scope dV kV doc pm an cdv ct) (body := body) hΓ hcl hroom (X.keeps kp_hide _ _ ho) rfl hco hgen rfl (codeRec_of (X.keeps kp_hide) hcd) (hbind _ _ _ _ ?_)
  refine wpAny_newFunctionEnv_cells hk (kindsX hkind _) fun env' he s' x => ?_
  subst he
  refine ⟨(T.nolimit.keeps kp_hide).keeps x.toInCall.keep, fun Γ' hΓ' hcl' => ?_⟩
  obtain ⟨h₁, tk, rfl, _⟩ := x.done
  have hk₁ := x.toInCall.keep
  obtain ⟨cells, NC, Y⟩ := Cl.news (h₀ := s.heap) (Nat.le_refl _) fun n c hm => ⟨x.cell n c (lookup_of_mem_nodup (cellsFrom_names scope.names 0 (s.heap.objs.size + 1) [] [] rfl ▸ hnd) hm), x.above n c hm⟩
  refine h Γ' s.heap.objs.size h₁ tk cells hΓ' hcl' ⟨x.toInCall.ns, fun b o e => hk₁ b o (kp_hide b o e), Nat.le_of_eq (Heap.hide_size _ _)⟩ (fun p hp => ?_) Y (Heap.lt_size hPo)
  rcases List.mem_append.mp hp with hp | hp
  · refine ⟨(NC p hp).1, (NC p hp).2.1, ?_⟩
    cases q : (s.heap.hide P).get? p.1 with
    | none => rfl
    | some o => have := kp_hide _ _ q; rw [(NC p hp).2.2] at this; cases this
  · rw [List.mem_singleton.mp hp]
    exact ⟨hk₁ _ _ hPo, Nat.ne_of_lt (Heap.lt_size hPo), Heap.hide_self _ _⟩
end

def lamQ : Str := (Str.ofString "_law_parted" ++ ".<locals>.") ++ "<lambda>"
/-- the nested code's table: empty, or the lambda's code laid -/
def TabOk (ps : Array Value) (h : Heap) : Prop := ps = #[] ∨ ∃ c', ps = #[rawInt 39, rawInt 35, .ref c'] ∧ c' ≠ 42 ∧ h.CodeRec (.ref c') lamQ
structure G42 (w : World) (mg mb : Str → Option Value) (h : Heap) : Prop where
  X : (hd.heap_39 w.params).In (h.hide 42)
  T : ∃ p loose mean, Top p loose mean mg mb (h.hide 42)
  C : CodeHd (h.hide 42) 46 42
  tab : ∃ ps, h.get? 42 = some (tabObj ps) ∧ TabOk ps h
theorem TabOk.hide {ps : Array Value} {h : Heap} (x : TabOk ps h) : TabOk ps (h.hide 42) := by
  rcases x with e | ⟨c', e1, e2, c, o, vs, t, e3, e4, r⟩
  · exact .inl e
  · cases e3
    exact .inr ⟨c', e1, e2, _, o, vs, t, rfl, (Heap.hide_ne _ e2).trans e4, r⟩
theorem TabOk.keeps {ps : Array Value} {h h' : Heap} (x : TabOk ps h) (hk : Kp h h') : TabOk ps h' := by
  rcases x with e | ⟨c', e1, e2, e3⟩
  · exact .inl e
  · exact .inr ⟨c', e1, e2, e3.keeps hk⟩
theorem G42.next {w : World} {mg mb : Str → Option Value} {h h' : Heap} (G : G42 w mg mb h) (hk : Kp (h.hide 42) h') {ps : Array Value} (ht : h'.get? 42 = some (tabObj ps)) (hok : TabOk ps h') : G42 w mg mb h' :=
  ⟨G.X.keeps (kp_hide2 hk), let ⟨p, l, m, T⟩ := G.T; ⟨p, l, m, T.keeps (kp_hide2 hk)⟩, G.C.keeps (kp_hide2 hk), ps, ht, hok⟩
theorem G42.kp {w : World} {mg mb : Str → Option Value} {h h' : Heap} (G : G42 w mg mb h) (hk : Kp h h') : G42 w mg mb h' :=
  let ⟨_, ht, hok⟩ := G.tab
  G.next (fun b o e => hk b o (kp_hide b o e)) (hk _ _ ht) (hok.keeps hk)
end Mine
end TG4

section TG5
open PySem PySem.W PyProof.Rows PySem.Calls
set_option maxRecDepth 100000
set_option maxHeartbeats 8000000
namespace Mine
def PostG (h₀ : Heap) (L : Addr) (J : (Str → Option Value) → List (Addr × Obj) → Prop) (own : Addr × Obj) (s₁ : Shared) (Q : Flow → Shared → Prop) (f : Flow) (s₂ : Shared) : Prop :=
  match f with
  | .ret v => Q (.ret v) s₂
  | .brk => Q .next s₂
  | _ => ∃ h' tk m' news', s₂ = { s₁ with heap := h', toks := tk } ∧ Fr h₀ L h' m' ∧ News h₀ L h' (news' ++ [own]) ∧ (∀ p ∈ news', p.1 ≠ own.1) ∧ J m' news'

theorem range_grow {prog : Program} {w : World} {A : Around} {E : Value → Shared → Prop} {s : Shared} {env : Env} {h₀ : Heap} {x : Str} {px : Pos} {body : List Stmt} {Q : Flow → Shared → Prop}
    {r : Addr} {a b c : Int} {t u v : Tok} {n : Nat} {m₀ : Str → Option Value} {news : List (Addr × Obj)}
    (hh : A.handled = none) (hr : IsRange s.heap r a b c t u v) (hsmall : Builtin.Range.small a b c = true) (hn : Builtin.Range.rangeSize a b c = (n : Int)) (F : Fr h₀ env.locals s.heap m₀) (N : News h₀ env.locals s.heap news)
    (J : Nat → (Str → Option Value) → List (Addr × Obj) → Prop) (hj : J 0 m₀ news)
    (turn : ∀ i t₁ m₁ news₁ h tk I oI, i < n → (∀ p ∈ news₁, p.1 ≠ I) → J i m₁ news₁ → Fr h₀ env.locals h m₁ → News h₀ env.locals h (news₁ ++ [(I, oI)]) →
      wpAny (model prog w) A (assign (.Name x px) env (.int (a + i * c) t₁)) (fun _ s₂ => wpAny (model prog w) A (execs body env) (PostG h₀ env.locals (J (i + 1)) (I, oI) { s with heap := h, toks := tk } Q) E s₂) E { s with heap := h, toks := tk })
    (done : ∀ m₁ news₁ h tk, J n m₁ news₁ → Fr h₀ env.locals h m₁ → News h₀ env.locals h news₁ → Q .next { s with heap := h, toks := tk }) :
    wpAny (model prog w) A (pyIter (.ref r)) (fun it s₂ => TurnsAt prog w A h₀ env (.Name x px) body Q E it s₂) E s := by
  have lL : env.locals < s.heap.objs.size := F.ns.lt
  refine wpAny_pyIter_range hr hsmall ?_
  have old : h₀.get? s.heap.objs.size = none := Heap.get?_none_of_le (Nat.le_trans F.above (Nat.le_of_lt lL))
  refine ⟨s.heap.objs.size, _, _, n, _, _, _, m₀, news, J, rfl, KTurns.nm (Walks.range hh s.heap.objs.size a c n), ?_, ?_, ?_, ?_, F.push _, fun p hp => ⟨Heap.get?_push_of_some _ (N p hp).1, (N p hp).2⟩, hj, ?_, ?_⟩
  · intro hm
    rw [List.mem_singleton.mp hm] at lL
    exact absurd lL (Nat.lt_irrefl _)
  · intro b hb
    rw [List.mem_singleton.mp hb]
    exact old
  · intro p hp hm
    have := Heap.lt_size (N p hp).1
    rw [List.mem_singleton.mp hm] at this
    exact absurd this (Nat.lt_irrefl _)
  · show IsRangeIter _ _ _ _ _
    have e1 : a + ((0 : Nat) : Int) * c = a := by simp
    have e2 : (n : Int) - ((0 : Nat) : Int) = n := by simp
    rw [e1, e2, ← hn]
    exact Heap.get?_push_size _ rfl
  · rintro i v m₁ news₁ h tk own hi ⟨t₁, rfl⟩ hJ hoffw hown hget hall hst F₁ N₁
    obtain ⟨oI, hoI⟩ : ∃ oI, h.get? s.heap.objs.size = some oI := ⟨_, hst⟩
    have hI := hall s.heap.objs.size (.head _) old oI hoI
    have hne : ∀ p ∈ news₁, p.1 ≠ s.heap.objs.size := fun p hp e => hoffw p hp (e ▸ .head _)
    refine wpAny_mono (turn i t₁ m₁ news₁ h tk s.heap.objs.size oI hi hne hJ F₁ (fun p hp => N₁ p ?_)) (fun _ s₂ h2 => wpAny_mono h2 (fun f s₃ p => ?_) fun _ _ e => e) fun _ _ e => e
    · rcases List.mem_append.mp hp with h1 | h1
      · exact List.mem_append_right _ h1
      · rw [List.mem_singleton.mp h1]; exact List.mem_append_left _ hI
    · have fin : (∃ h' tk' m' news', s₃ = { ({ s with heap := h, toks := tk } : Shared) with heap := h', toks := tk' } ∧ Fr h₀ env.locals h' m' ∧ News h₀ env.locals h' (news' ++ [(s.heap.objs.size, oI)]) ∧ (∀ p ∈ news', p.1 ≠ s.heap.objs.size) ∧ J (i + 1) m' news') →
          LoopStepU h₀ env.locals [s.heap.objs.size] own (J (i + 1)) { s with heap := h, toks := tk } .next s₃ := by
        rintro ⟨h', tk', m', news', e, F', N', hn', hJ'⟩
        refine ⟨rfl, h', tk', m', news', e, F', fun p hp => ?_, fun p hp hm => hn' p hp (List.mem_singleton.mp hm), hJ'⟩
        rcases List.mem_append.mp hp with h1 | h1
        · have e1 : p.1 = s.heap.objs.size := List.mem_singleton.mp (hown p h1)
          have e2 : some p.2 = some oI := (hget p h1).symm.trans (by rw [e1]; exact hoI)
          have e3 : p = (s.heap.objs.size, oI) := Prod.ext e1 (Option.some.inj e2)
          rw [e3]
          exact N' _ (List.mem_append_right _ (.head _))
        · exact N' p (List.mem_append_left _ h1)
      cases f with
      | ret v => exact .ret p
      | brk => exact .brk p
      | next => exact .next (fin p)
      | cont => exact .cont (fin p)
  · intro h' tk m' news' F' N' _ hJ
    exact done m' news' h' tk hJ F' N'
end Mine
end TG5

section TG6
open PySem PySem.W PyProof.Rows PySem.Calls
set_option maxRecDepth 100000
set_option maxHeartbeats 8000000
namespace Mine
theorem News.more {h₀ h h' : Heap} {L : Addr} {m : Str → Option Value} {news ex : List (Addr × Obj)} (F : Fr h₀ L h m) (N : News h₀ L h news) (hk : Kp h h') (hex : ∀ p ∈ ex, h.get? p.1 = none ∧ h'.get? p.1 = some p.2) : News h₀ L h' (ex ++ news) := by
  intro p hp
  rcases List.mem_append.mp hp with hp | hp
  · obtain ⟨h1, h2⟩ := hex p hp
    exact News.add' (o := p.2) F (news := []) (fun _ h => nomatch h) hk h1 h2 _ (.head _)
  · exact ⟨hk _ _ (N p hp).1, (N p hp).2⟩
theorem isL {h : Heap} {a : Addr} {xs : Array Value} {k : Nat} (e : h.get? a = some (listOf xs k)) : h.IsList a xs := ⟨_, e, rfl, _, rfl⟩
theorem isT {h : Heap} {a : Addr} {xs : Array Value} (e : h.get? a = some { cls := .type "tuple", data := .seq xs }) : IsTup h a xs := ⟨_, e, rfl, _, rfl⟩
theorem ne_pair {prog : Program} {w : World} {A : Around} {E : Value → Shared → Prop} {s : Shared} {a b y n y' n' : Addr} {ka kb : Nat} {xs xs' zs zs' : List Value} {ms ks : List Int} {Q : Value → Shared → Prop}
    (ha : s.heap.get? a = some { cls := .type "tuple", data := .seq #[.ref y, .ref n] ka }) (hb : s.heap.get? b = some { cls := .type "tuple", data := .seq #[.ref y', .ref n'] kb })
    (hy : s.heap.IsList y xs.toArray) (hn : s.heap.IsList n zs.toArray) (hy' : s.heap.IsList y' xs'.toArray) (hn' : s.heap.IsList n' zs'.toArray)
    (iy : IntsAre xs ms) (iz : IntsAre zs ks) (iy' : IntsAre xs' ms) (iz' : IntsAre zs' ks) (hu : A.units + 64 < cLine) (h : Q (.bool false) s) : wpAny (model prog w) A (compareOp .NotEq (.ref a) (.ref b)) Q E s := by
  have hs : PySem.SeqAt.shaped (.tuple [.list (ms.map .int), .list (ks.map .int)]) = true := by
    simp [SeqAt.shaped, PyData.canLay0, PyData.canLayAll0, PyData.depth, PyData.depthAll, ke_canLayAll0, ke_depthAll]
  refine ne_dataH (da := .tuple [.list (ms.map .int), .list (ks.map .int)]) (db := .tuple [.list (ms.map .int), .list (ks.map .int)])
    (.tuple ha rfl rfl (.cons (reads_newData hy (ke_carried iy)) (.cons (reads_newData hn (ke_carried iz)) .nil)))
    (.tuple hb rfl rfl (.cons (reads_newData hy' (ke_carried iy')) (.cons (reads_newData hn' (ke_carried iz')) .nil))) hs hs hu ?_
  simp only [PyData.eqv, PyData.eqvAll, ked_eqvAll, decide_true, Bool.and_true, Bool.not_true]
  exact h
theorem copy_led {prog : Program} {w : World} {A : Around} {E : Value → Shared → Prop} {s : Shared} {h₀ : Heap} {L y : Addr} {m : Str → Option Value} {news : List (Addr × Obj)} {items : List Value} {k : Nat} {Q : Value → Shared → Prop}
    (F : Fr h₀ L s.heap m) (N : News h₀ L s.heap news) (hg : s.heap.get? y = some (listOf items.toArray k)) (hz : items.length ≤ 4096)
    (h : ∀ y' k' h', Fr h₀ L h' m → News h₀ L h' ((y', listOf items.toArray k') :: news) → (∀ p ∈ news, p.1 < y') → Kp s.heap h' → Q (.ref y') { s with heap := h' }) : wpAny (model prog w) A (call (.type "list") [.ref y]) Q E s := by
  refine call_list_seq y (T := "list") (.inl rfl) hg rfl rfl (fun h' c' hk hg' => ?_) (by rw [sizeLine_eq]; simp; omega)
  exact h _ c' h' (Fr.kp F hk) (News.add F N hk (Nat.le_refl _) hg') (News.lt N (Nat.le_refl _)) hk
theorem cell_store {M : Model} {A : Around} {E : Value → Shared → Prop} {s : Shared} {env : Env} {h₀ : Heap} {L c : Addr} {m : Str → Option Value} {news : List (Addr × Obj)} {x : Str} {v : Value} {o : Obj} {v₀ : Option Value} {Q : Unit → Shared → Prop}
    (hk : env.scope.kind = .function) (hx : env.kindOf x = some .cell) (hc : env.cells.lookup x = some c) (F : Fr h₀ L s.heap m) (N : News h₀ L s.heap news) (hm : (c, o) ∈ news) (hd : o.data = .cell v₀)
    (h : ∀ h' o', Heap.SameBut c s.heap h' → h'.get? c = some o' → o'.data = .cell (some v) → Fr h₀ L h' m → Q () { s with heap := h' }) : wpAny M A (storeName env x v) Q E s :=
  wpAny_storeName_cell hk hx hc ⟨o, (N _ hm).1, hd⟩ fun h' ⟨o', ho', hd'⟩ hs => h h' o' hs ho' hd' (Fr.put F N hm hs)

def CRec (g : Heap) (rest : List (Addr × Obj)) (c' : Addr) : Prop := g.CodeRec (.ref c') lamQ ∨ ∃ oc vs t, (c', oc) ∈ rest ∧ oc.data = .fields vs ∧ vs[1]? = some (.str lamQ t)
def TabL (g : Heap) (ps : Array Value) (rest : List (Addr × Obj)) : Prop := ps = #[] ∨ ∃ c', ps = #[rawInt 39, rawInt 35, .ref c'] ∧ c' ≠ 42 ∧ CRec g rest c'
theorem CRec.of {h₀ h : Heap} {L c' : Addr} {m : Str → Option Value} {news rest : List (Addr × Obj)} (x : CRec h₀ rest c') (F : Fr h₀ L h m) (N : News h₀ L h news) (hs : ∀ p ∈ rest, p ∈ news) : h.CodeRec (.ref c') lamQ := by
  rcases x with h1 | ⟨oc, vs, t, hm, hd, hv⟩
  · exact h1.keeps F.keep
  · exact ⟨c', oc, vs, t, rfl, (N _ (hs _ hm)).1, hd, hv⟩
theorem CRec.mono {g : Heap} {c' : Addr} {rest rest' : List (Addr × Obj)} (x : CRec g rest c') (hs : ∀ p ∈ rest, p ∈ rest') : CRec g rest' c' := by
  rcases x with h1 | ⟨oc, vs, t, hm, r⟩
  · exact .inl h1
  · exact .inr ⟨oc, vs, t, hs _ hm, r⟩
theorem TabL.mono {g : Heap} {ps : Array Value} {rest rest' : List (Addr × Obj)} (x : TabL g ps rest) (hs : ∀ p ∈ rest, p ∈ rest') : TabL g ps rest' := by
  rcases x with h1 | ⟨c', e1, e2, e3⟩
  · exact .inl h1
  · exact .inr ⟨c', e1, e2, e3.mono hs⟩

theorem lam_make {M : Model} {A : Around} {E : Value → Shared → Prop} {s : Shared} {h₀ : Heap} {L a : Addr} {m mg mb : Str → Option Value} {cn : Str} {cs : Scope} {ccd : Value} {cl : List (Str × Addr)} {rest rT : List (Addr × Obj)}
  {p : Program} {loose : List Str} {mean : ExcName → Option Value} {params : Arguments} {body : Expr} {scope : Scope} {ps : Array Value} {pos : Pos} {clos : List (Str × Addr)} {Q : Value → Shared → Prop}
    (F : Fr h₀ L s.heap m) (N : News h₀ L s.heap ((42, tabObj ps) :: rest)) (T : Top p loose mean mg mb h₀) (C : CodeHd h₀ 46 42) (hcd : ccd = .ref 46) (hoff : ∀ p ∈ rest, p.1 ≠ 42) (tab : TabL h₀ ps rT) (hT : ∀ p ∈ rT, p ∈ rest)
    (hline : pos.line = 39) (hcol : pos.col = 35) (hq : cn ++ ".<locals>." ++ "<lambda>" = lamQ) (hdef : defaultsOf params (envX cn cs L a ccd cl) = ([], []))
    (hcl : closureFor scope (envX cn cs L a ccd cl) = pure clos)
    (h : ∀ f c' ctv ps' ex h' tk, Fr h₀ L h' m → News h₀ L h' ((f, kla_obj "<lambda>" lamQ params body scope clos ((mg "__name__").getD .none) c' ctv) :: (42, tabObj ps') :: (ex ++ rest)) →
      (∀ p ∈ ex, ∀ q ∈ (42, tabObj ps) :: rest, q.1 < p.1) → ps' = #[rawInt 39, rawInt 35, .ref c'] → c' ≠ 42 → TabL h₀ ps' (ex ++ rT) → h'.CodeRec (.ref c') lamQ →
      (∀ q ∈ (42, tabObj ps') :: (ex ++ rest), q.1 < f) → Q (.ref f) { s with heap := h', toks := tk }) :
    wpAny M A (eval (.Lambda params body scope pos) (envX cn cs L a ccd cl)) Q E s := by
  refine kla_eval hdef ?_
  show wpAny M A (makeFunction "<lambda>" (cn ++ ".<locals>." ++ "<lambda>") params (.expr body) scope (envX cn cs L a ccd cl) [] [] [] pos pos.line) Q E s
  rw [hq]
  rcases tab with rfl | ⟨c', rfl, hne, hrec⟩
  · refine kla_nest F N T C hcd (g := fun o => (42, o) :: rest) (UpdF.head hoff) (by first | exact TriplesOk.nil | constructor | trivial) rfl hcl fun f c' oc vs t ctv h' tk F' N' d1 d2 l1 l2 => ?_
    have l42 := l1 _ (.head _)
    have hTr : CRec h₀ ([(c', oc)] ++ rT) c' := .inr ⟨oc, vs, t, .head _, d1, d2⟩
    have N'' : News h₀ L h' ((f, kla_obj "<lambda>" lamQ params body scope clos ((mg "__name__").getD .none) c' ctv) :: (42, tabObj #[rawInt 39, rawInt 35, .ref c']) :: ([(c', oc)] ++ rest)) := by
      intro p hp
      rw [hline, hcol] at N'
      refine N' p ?_
      simp only [List.mem_cons, List.mem_append, List.not_mem_nil, or_false] at hp ⊢
      rcases hp with h | h | h | h
      · exact .inl h
      · exact .inr (.inr (.inl h))
      · exact .inr (.inl h)
      · exact .inr (.inr (.inr h))
    refine h f c' ctv _ [(c', oc)] h' tk F' N'' (fun p hp q hq => ?_) rfl (Nat.ne_of_gt l42) (.inr ⟨c', rfl, Nat.ne_of_gt l42, hTr⟩) (hTr.of F' N'' fun p hp => .tail _ (.tail _ (by rcases List.mem_append.mp hp with hp | hp; exact List.mem_append_left _ hp; exact List.mem_append_right _ (hT p hp)))) fun q hq => ?_
    · rw [List.mem_singleton.mp hp]
      exact l1 q hq
    · simp only [List.mem_cons, List.mem_append, List.not_mem_nil, or_false] at hq
      rcases hq with rfl | rfl | hq
      · exact Nat.lt_trans l42 l2
      · exact l2
      · exact Nat.lt_trans (l1 q (.tail _ hq)) l2
  · refine kla_hit F N T C hcd (.head _) (c' := c') ?_ ?_ hcl fun f ctv h' tk F' N' l1 => ?_
    · kn_triples
    · show (if ((39 : Int) == (pos.line : Int) && (35 : Int) == (pos.col : Int)) = true then some (Value.ref c') else _) = _
      rw [hline, hcol]
      rfl
    · exact h f c' ctv _ [] h' tk F' N' (fun _ hp => nomatch hp) rfl hne (.inr ⟨c', rfl, hne, hrec⟩) (hrec.of F' N' fun p hp => .tail _ (.tail _ (hT p hp))) l1

theorem lam_pred {w : World} {h : Heap} {f c' : Addr} {params : Arguments} {body : Expr} {scope : Scope} {clos : List (Str × Addr)} {pm ctv : Value} {P : Int → Bool} {ns : List Int} {p : Program} {loose : List Str} {mean : ExcName → Option Value} {mg mb : Str → Option Value}
    (T : Top p loose mean mg mb h) (ho : h.get? f = some (kla_obj "<lambda>" lamQ params body scope clos pm c' ctv)) (hcd : h.CodeRec (.ref c') lamQ)
    (hbind : ∀ n t, bindArgs (kla_fn "<lambda>" lamQ params body scope clos pm (.ref c') ctv) ⟨[.int n t], []⟩ = pure [(Str.ofString "thing", .int n t)]) (hloc : scope.names.lookup (Str.ofString "thing") = some .local)
    (hb : ∀ (s : Shared) (n : Int) (t : Tok) (L : Addr) (h₁ : Heap) (Q : Value → Shared → Prop) (E : Value → Shared → Prop), n ∈ ns → Kp h s.heap → Fr s.heap L h₁ (fun y => [(Str.ofString "thing", Value.int n t)].lookup y) →
      (∀ a us k h' tk, s.heap.get? a = none → h'.get? a = some (listOf us k) → (us.size ≠ 0 ↔ P n = true) → us.size ≤ 1 → Kp s.heap h' → Q (.ref a) { s with heap := h', toks := tk }) →
      wpAny (model Pg w) ((Ar 600 200).deeper (envX lamQ scope L f (.ref c') clos)) (eval body (envX lamQ scope L f (.ref c') clos)) Q E { s with heap := h₁, toks := s.toks + 1 })
    (hco : scope.isCoroutine = false) (hgen : scope.isGenerator = false) (hk : scope.kind = .function) (hcell : ∀ x ∈ scope.names, x.2 ≠ .cell) : IsPred w f P ns h := by
  refine ⟨⟨_, _, ho, rfl⟩, fun s n t Q E hn hkp hQ => ?_⟩
  refine wpAny_call (kla_callFunE (by decide) (hkp _ _ ho) rfl hco hgen rfl (hcd.keeps hkp) ?_)
  rw [hbind]
  refine wpAny_pure (wpAny_newFunctionEnv hcell (fun x hx => by rw [List.mem_singleton.mp hx]; exact hloc) (fun h₁ hns hsb => ⟨((T.nolimit).keeps hkp).fresh _ hsb, ?_⟩) hk)
  show codeAny _ _ (.expr body (envX lamQ scope s.heap.objs.size f (.ref c') clos)) _ _
  have hk₁ : ∀ b o, s.heap.get? b = some o → h₁.get? b = some o := fun b o e => hsb.extBut b o (Nat.ne_of_lt (Heap.lt_size e)) (Heap.get?_push_of_some _ e)
  refine kla_codeExpr (wpAny_mono (hb s n t s.heap.objs.size h₁ _ (fun _ _ => False) hn hkp ⟨hns, hk₁, Nat.le_refl _⟩ hQ) (fun v s' x => x) fun _ _ y => y.elim)
end Mine
end TG6

section TPa
open PySem PySem.W PyProof.Rows PySem.Calls
set_option maxRecDepth 100000
set_option maxHeartbeats 8000000
namespace Mine
theorem fillP : (PySem.Challenge.rw_pk0011_01 = PySem.Challenge.rw_pk0011_01) ∧ hd.heap_39 = hd.heap_39 := by
  k_fill
  exact ⟨rfl, rfl⟩
local macro_rules | `(tactic| walk_at "eval Name") => `(tactic| (k_here; k_dflt (refine' nameX_L ?k1 ?k2 ?_; (case k1 => k_asm); (case k2 => assumption); k_whole)))
local macro_rules | `(tactic| walk_at "mine.steps") => `(tactic| repeat' (first | ((fail_if_success (with_reducible show wpAny _ _ (exec (Stmt.For _ _ _ _ _) _) _ _ _)); (fail_if_success (with_reducible show wpAny _ _ (call (Value.type "range") _) _ _ _)); (fail_if_success (with_reducible show wpAny _ _ (call (Value.ref 28) _) _ _ _)); (fail_if_success (with_reducible show wpAny _ _ (call (Value.type "list") _) _ _ _)); (fail_if_success (with_reducible show wpAny _ _ (compareOp _ (Value.ref _) (Value.ref _)) _ _ _)); (fail_if_success (with_reducible show wpAny _ _ (subscriptTail _ _ _ _) _ _ _)); first | walk1 | (dsimp only; walk1))))

def partP (sg : List Int) (g n : Int) : Bool := decide (sg.getD n.toNat 0 = g)

def leftN (ns sg : List Int) : Nat → List Int
  | 0 => ns
  | i + 1 => (leftN ns sg i).filter fun n => !partP sg i n
theorem leftN_sub {ns sg : List Int} {i : Nat} : ∀ n ∈ leftN ns sg i, n ∈ ns := by
  induction i with
  | zero => exact fun _ h => h
  | succ i ih => exact fun n h => ih n (List.mem_filter.mp h).1
theorem leftN_len {ns sg : List Int} {i : Nat} : (leftN ns sg i).length ≤ ns.length := by
  induction i with
  | zero => exact Nat.le_refl _
  | succ i ih => exact Nat.le_trans (List.length_filter_le _ _) ih
structure Stage (ns sg : List Int) (l : Addr) (lots : List Value) (lf : Addr) (rest : List (Addr × Obj)) (i : Nat) : Prop where
  len : lots.length = i
  lot : ∀ j < i, ∃ a ys k, lots[j]? = some (.ref a) ∧ (a, listOf ys.toArray k) ∈ rest ∧ IntsAre ys ((leftN ns sg j).filter (partP sg j))
  left : (lf = l ∧ i = 0) ∨ ∃ zs kz, (lf, listOf zs.toArray kz) ∈ rest ∧ IntsAre zs (leftN ns sg i)
theorem nameX_base {M : Model} {A : Around} {E : Value → Shared → Prop} {s : Shared} {h₀ : Heap} {L a c : Addr} {m : Str → Option Value} {cn : Str} {cs : Scope} {ccd v : Value} {cl : List (Str × Addr)} {x : Str} {pos : Pos} {o : Obj} {Q : Value → Shared → Prop}
    (F : Fr h₀ L s.heap m) (hc : cl.lookup x = some c) (hg : h₀.get? c = some o) (hd : o.data = .cell (some v)) (h : Q v s)
    (hk : cs.kind = .function := by rfl) (hx : (envX cn cs L a ccd cl).kindOf x = some .free := by rfl) (hb : (x == ("__debug__" : Str)) = false := by decide) (hn : (x == ("__classdict__" : Str)) = false := by decide) :
    wpAny M A (eval (.Name x pos) (envX cn cs L a ccd cl)) Q E s := wpAny_Name (wpAny_loadName_free hk hx hc ⟨o, F.keep _ _ hg, hd⟩ h hn) hb
local macro_rules | `(tactic| walk_at "eval Name") => `(tactic| (k_here; k_dflt (refine' nameX_base ?k1 ?k2 ?k3 ?k4 ?_; (case k1 => k_asm); (case k2 => exact rfl); (case k3 => assumption); (case k4 => assumption); k_whole)))
structure JP (g : Heap) (ns sg : List Int) (L l sl lo : Addr) (i : Nat) (m : Str → Option Value) (news : List (Addr × Obj)) (ps : Array Value) (lf : Addr) (lots : List Value) (k : Nat) (oG oS : Obj) (rest : List (Addr × Obj)) : Prop where
  hnews : news = (42, tabObj ps) :: (lo, listOf lots.toArray k) :: (L + 1 + 1, oG) :: (L + 1, oS) :: rest
  hlots : m (Str.ofString "lots") = some (.ref lo)
  hleft : m (Str.ofString "left") = some (.ref lf)
  hoG : ∃ v, oG.data = .cell v
  hoS : oS.data = .cell (some (.ref sl))
  htab : TabL g ps rest
  hoff : ∀ p ∈ rest, p.1 ≠ 42 ∧ p.1 ≠ lo ∧ p.1 ≠ L + 1 + 1 ∧ p.1 ≠ L + 1
  hstage : Stage ns sg l lots lf rest i

theorem parted_spec {w : World} {Q E : Value → Shared → Prop} {s : Shared} {mg mb : Str → Option Value} {l sl : Addr} {vs us : List Value} {ns sg : List Int}
   (G : G42 w mg mb s.heap) (hl : s.heap.IsList l vs.toArray) (hi : IntsAre vs ns) (hz : ns.length ≤ 4096) (hsl : s.heap.IsList sl us.toArray) (hsg : IntsAre us sg) (hzg : sg.length ≤ 4096) (hin : ∀ n ∈ ns, 0 ≤ n ∧ n < sg.length)
   (hQ : ∀ a a0 a1 a2 ys0 ys1 ys2 k k0 k1 k2 h' tk, Kp (s.heap.hide 42) h' → (∃ ps, h'.get? 42 = some (tabObj ps) ∧ TabOk ps h') → s.heap.get? a = none → h'.get? a = some (listOf #[.ref a0, .ref a1, .ref a2] k) →
      h'.get? a0 = some (listOf ys0.toArray k0) → h'.get? a1 = some (listOf ys1.toArray k1) → h'.get? a2 = some (listOf ys2.toArray k2) →
      IntsAre ys0 (ns.filter (partP sg 0)) → IntsAre ys1 ((ns.filter fun n => !partP sg 0 n).filter (partP sg 1)) → IntsAre ys2 ((ns.filter fun n => !partP sg 0 n).filter fun n => !partP sg 1 n) → s.heap.get? a0 = none → s.heap.get? a1 = none → s.heap.get? a2 = none → Q (.ref a) { s with heap := h', toks := tk }) :
   wpAny (model Pg w) (Ar 400 80) (call (.ref 47) [.ref l, .ref sl]) Q E s := by
  obtain ⟨X, ⟨p, loose, mean, T⟩, C, ps, hps, hok⟩ := G
  refine' enterH (binds := [(Str.ofString "things", .ref l), (Str.ofString "signs", .ref sl)]) hps X T ?k6 ?k7 ?k8 ?k9 ?kB ?kD ?_ ?c2 ?c3 ?c4
  case k6 => k_is
  case k7 => k_is
  case k8 => decide
  case k9 => exact BindsTo.of_eq rfl
  case kB => exact rfl
  case kD => decide +kernel
  case c2 => exact rfl
  case c3 => exact rfl
  case c4 => exact rfl
  intro L h₁ tk0 cells F N Y hPL
  k_cells Y
  simp only [List.cons_append, List.nil_append] at N
  walk_at "mine.steps"
  rename Fr _ _ _ _ => F
  rename News _ _ _ _ => N
  rename_i oG oS hoG hoS lo _ hlo _ _
  refine For_turns F ?_ (hE := PassesOwn.never)
  walk_at "mine.steps"
  rename Fr _ _ _ _ => F
  rename News _ _ _ _ => N
  refine call_range_1 ?_
  have hrs : Builtin.Range.rangeSize 0 2 1 = ((2 : Nat) : Int) := rangeSize_pos (by omega) (by simp)
  refine range_grow (news := [(42, tabObj ps), (lo, listOf #[] 0), (L + 1 + 1, oG), (L + 1, oS)]) rfl (IsRange.new ..) (small_pos (by omega) hrs (by omega) (by omega) (by omega) (by omega) (by omega) (by omega)) hrs (F.push _)
    (News.kp (fun p hp => N p (by simp only [List.mem_cons, List.not_mem_nil, or_false] at hp ⊢; rcases hp with h | h | h | h <;> simp [h])) fun b o e => Heap.get?_push_of_some _ e)
    (fun i m news => ∃ ps lf lots k oG oS rest, JP (s.heap.hide 42) ns sg L l sl lo i m news ps lf lots k oG oS rest)
    ⟨ps, l, [], 0, oG, oS, [], rfl, rfl, rfl, ⟨_, hoG⟩, hoS, ?_, (fun _ h => nomatch h), rfl, (fun _ h => absurd h (Nat.not_lt_zero _)), .inl ⟨rfl, rfl⟩⟩ ?_ ?_
  · rcases hok.hide with e | ⟨c', e1, e2, e3⟩
    · exact .inl e
    · exact .inr ⟨c', e1, e2, .inl e3⟩
  · rintro i t₁ m₁ news₁ h tk I oI hi hne ⟨ps, lf, lots, k, oG, oS, rest, J⟩ F N
    obtain ⟨hnews, hm1, hm2, ⟨vG, hoG⟩, hoS, htab, hoff, hst⟩ := J
    subst hnews
    simp only [List.cons_append] at N
    refine wpAny_assign_Name ?_
    have hnlo : lo ≠ L + 1 + 1 := fun e => by simp only [Addr] at *; omega
    refine cell_store rfl rfl rfl F N (.tail _ (.tail _ (.head _))) hoG fun h2 oG2 hs2 hg2 hd2 F2 => ?_
    have N2 := News.sub (news' := (42, tabObj ps) :: (lo, listOf lots.toArray k) :: (L + 1 + 1, oG2) :: (L + 1, oS) :: (rest ++ [(I, oI)])) N (.tail _ (.tail _ (.head _))) hs2 hg2 (fun p hp => by
      rcases List.mem_cons.mp hp with rfl | hp
      · exact .inr ⟨.head _, fun e => by simp only [Addr] at *; omega⟩
      · rcases List.mem_cons.mp hp with rfl | hp
        · exact .inr ⟨.tail _ (.head _), hnlo⟩
        · rcases List.mem_cons.mp hp with rfl | hp
          · exact .inl rfl
          · rcases List.mem_cons.mp hp with rfl | hp
            · exact .inr ⟨.tail _ (.tail _ (.tail _ (.head _))), fun e => by simp only [Addr] at *; omega⟩
            · refine .inr ⟨.tail _ (.tail _ (.tail _ (.tail _ hp))), ?_⟩
              rcases List.mem_append.mp hp with h1 | h1
              · exact (hoff p h1).2.2.1
              · rw [List.mem_singleton.mp h1]
                exact fun e => hne _ (.tail _ (.tail _ (.head _))) e.symm)
    clear F N
    walk_at "mine.steps"
    rename Fr _ _ _ _ => F
    rename News _ _ _ _ => N
    refine lam_make (rest := (lo, listOf lots.toArray k) :: (L + 1 + 1, oG2) :: (L + 1, oS) :: (rest ++ [(I, oI)])) F N T C rfl ?o1 htab (fun p hp => .tail _ (.tail _ (.tail _ (List.mem_append_left _ hp)))) rfl rfl (by decide +kernel) rfl (clos := [(Str.ofString "signs", L + 1), (Str.ofString "sign", L + 1 + 1)]) rfl ?_
    case o1 =>
      intro p hp
      rcases List.mem_cons.mp hp with rfl | hp
      · exact fun e => by simp only [Addr] at *; omega
      · rcases List.mem_cons.mp hp with rfl | hp
        · exact fun e => by simp only [Addr] at *; omega
        · rcases List.mem_cons.mp hp with rfl | hp
          · exact fun e => by simp only [Addr] at *; omega
          · rcases List.mem_append.mp hp with h1 | h1
            · exact (hoff p h1).1
            · rw [List.mem_singleton.mp h1]
              exact fun e => hne _ (.head _) e.symm
    intro f c' ctv ps' ex h3 tk3 F3 N3 hex hps' hc42 htab' hrec' hf
    clear F N
    have hgG := (N3 _ (List.mem_cons_of_mem _ (List.mem_cons_of_mem _ (List.mem_append_right _ (.tail _ (.head _)))))).1
    have hgS := (N3 _ (List.mem_cons_of_mem _ (List.mem_cons_of_mem _ (List.mem_append_right _ (.tail _ (.tail _ (.head _))))))).1
    have hsl2 : (s.heap.hide 42).IsList sl us.toArray := hsl.at fun o e => (Heap.hide_ne _ (fun q => by
      obtain ⟨o', e1, e2, _⟩ := hsl
      subst q
      rw [e1] at hps
      cases hps
      cases e2)).trans e
    have hpr : IsPred w f (partP sg i) (leftN ns sg i) h3 := by
      refine lam_pred (T.keeps F3.keep) (N3 _ (.head _)).1 hrec' (fun n t => rfl) rfl ?_ rfl rfl rfl (by decide)
      intro s4 n t L4 h4 Q4 E4 hn hkp F hQ4
      have hG4 := hkp _ _ hgG
      have hS4 := hkp _ _ hgS
      have hsl4 : s4.heap.IsList sl us.toArray := hsl2.at fun o e => hkp _ _ (F3.keep _ _ e)
      have N : News s4.heap L4 h4 [] := News.nil
      clear N3 F3
      walk_at "mine.steps"
      have hnb := hin n (leftN_sub n hn)
      refine item_list_ints (hsl4.at fun o e => F.keep _ o e) hsg hnb.1 hnb.2 (by omega) fun tx => ?_
      have hd2' : oG2.data = .cell (some (.int (0 + i * 1) t₁)) := hd2
      walk_at "mine.steps"
      all_goals (rename Fr _ _ _ _ => F; rename News _ _ _ _ => N)
      · exact hQ4 _ _ _ _ _ (N _ (.head _)).2.2 (N _ (.head _)).1 (by
          have : partP sg i n = true := by unfold partP; rw [decide_eq_true_iff]; omega
          simp [this]) (by simp) F.keep
      · exact hQ4 _ _ _ _ _ (N _ (.head _)).2.2 (N _ (.head _)).1 (by
          have : partP sg i n = false := by unfold partP; rw [decide_eq_false_iff_not]; omega
          simp [this]) (by simp) F.keep
    obtain ⟨zs, hlf, hzs⟩ : ∃ zs, h3.IsList lf zs.toArray ∧ IntsAre zs (leftN ns sg i) := by
      rcases hst.left with ⟨rfl, rfl⟩ | ⟨zs, kz, hm, hzs⟩
      · refine ⟨vs, hl.at fun o e => F3.keep _ _ ((Heap.hide_ne _ (fun q => ?_)).trans e), by assumption⟩
        obtain ⟨o', e1, e2, _⟩ := hl
        subst q
        rw [e1] at hps
        cases hps
        cases e2
      · exact ⟨zs, isL (N3 _ (List.mem_cons_of_mem _ (List.mem_cons_of_mem _ (List.mem_append_right _ (.tail _ (.tail _ (.tail _ (List.mem_append_left _ hm)))))))).1, hzs⟩
    walk_at "mine.steps"
    rename Fr _ _ _ _ => F
    rename News _ _ _ _ => N
    refine up (split_spec (X.keeps F.keep) (T.keeps F.keep) hlf hzs (Nat.le_trans leftN_len hz) hpr fun a y n ys1 zs1 k1 k2 h5 tk5 hk5 ha hy hn hga hgy hgn hys1 hzs1 hyn => ?_) rfl (Nat.le_of_ble_eq_true rfl) (Nat.le_of_ble_eq_true rfl)
    have N5 := News.more (ex := [(a, _), (y, _), (n, _)]) F N hk5 (fun p hp => by
      simp only [List.mem_cons, List.not_mem_nil, or_false] at hp
      rcases hp with rfl | rfl | rfl
      · exact ⟨ha, hga⟩
      · exact ⟨hy, hgy⟩
      · exact ⟨hn, hgn⟩)
    simp only [List.cons_append, List.nil_append] at N5
    have F5 := Fr.kp F hk5
    have offs : ∀ b, h3.get? b = none → b ≠ 42 ∧ b ≠ lo ∧ b ≠ L + 1 + 1 ∧ b ≠ L + 1 ∧ b ≠ I := fun b hb => by
      have ob := News.off N hb
      have m2 : ∀ {q}, q ∈ (lo, listOf lots.toArray k) :: (L + 1 + 1, oG2) :: (L + 1, oS) :: (rest ++ [(I, oI)]) → q.1 ≠ b := fun hq => ob _ (.tail _ (.tail _ (List.mem_append_right _ hq)))
      exact ⟨(ob _ (.tail _ (.head _))).symm, (m2 (.head _)).symm, (m2 (.tail _ (.head _))).symm, (m2 (.tail _ (.tail _ (.head _)))).symm, (m2 (q := (I, oI)) (.tail _ (.tail _ (.tail _ (List.mem_append_right _ (.head _)))))).symm⟩
    have offa := offs a ha
    have offy := offs y hy
    have offn := offs n hn
    have offex : ∀ p ∈ ex, p.1 ≠ 42 ∧ p.1 ≠ lo ∧ p.1 ≠ L + 1 + 1 ∧ p.1 ≠ L + 1 ∧ p.1 ≠ I := fun p hp => ⟨Nat.ne_of_gt (hex p hp _ (.head _)), Nat.ne_of_gt (hex p hp _ (.tail _ (.head _))), Nat.ne_of_gt (hex p hp _ (.tail _ (.tail _ (.head _)))),
      Nat.ne_of_gt (hex p hp _ (.tail _ (.tail _ (.tail _ (.head _))))), Nat.ne_of_gt (hex p hp (I, oI) (.tail _ (.tail _ (.tail _ (.tail _ (List.mem_append_right _ (.head _)))))))⟩
    have offr : ∀ p ∈ rest, p.1 ≠ 42 ∧ p.1 ≠ lo ∧ p.1 ≠ L + 1 + 1 ∧ p.1 ≠ L + 1 ∧ p.1 ≠ I := fun p hp => let x := hoff p hp; ⟨x.1, x.2.1, x.2.2.1, x.2.2.2, hne p (.tail _ (.tail _ (.tail _ (.tail _ hp))))⟩
    have off5 : ∀ p ∈ (y, listOf ys1.toArray k1) :: (n, listOf zs1.toArray k2) :: (ex ++ rest), p.1 ≠ 42 ∧ p.1 ≠ lo ∧ p.1 ≠ L + 1 + 1 ∧ p.1 ≠ L + 1 ∧ p.1 ≠ I := fun p hp => by
      rcases List.mem_cons.mp hp with rfl | hp
      · exact offy
      · rcases List.mem_cons.mp hp with rfl | hp
        · exact offn
        · rcases List.mem_append.mp hp with hp | hp
          · exact offex p hp
          · exact offr p hp
    have hI42 : I ≠ 42 := (hne _ (.head _)).symm
    have hIlo : I ≠ lo := (hne _ (.tail _ (.head _))).symm
    have hIg : I ≠ L + 1 + 1 := (hne _ (.tail _ (.tail _ (.head _)))).symm
    have hIs : I ≠ L + 1 := (hne _ (.tail _ (.tail _ (.tail _ (.head _))))).symm
    clear N F offs
    walk_at "mine.steps"
    rename Fr _ _ _ _ => F
    rename News _ _ _ _ => N
    have hsz : (leftN ns sg i).length ≤ 4096 := Nat.le_trans leftN_len hz
    have hlen1 : ys1.length ≤ 4096 := by rw [hys1.length]; exact Nat.le_trans (List.length_filter_le _ _) hsz
    have hlen2 : zs1.length ≤ 4096 := by rw [hzs1.length]; exact Nat.le_trans (List.length_filter_le _ _) hsz
    refine item_tuple (isT (N _ (.head _)).1) (by decide) (by decide) (j := 0) rfl (x := .ref y) rfl ?_
    walk_at "mine.steps"
    refine copy_led F N (N (y, _) (.tail _ (.head _))).1 hlen1 fun y' k1' h6 F N hlt1 _ => ?_
    walk_at "mine.steps"
    rename Fr _ _ _ _ => F
    rename News _ _ _ _ => N
    refine item_tuple (isT (N _ (.tail _ (.head _))).1) (by decide) (by decide) (j := 1) rfl (x := .ref n) rfl ?_
    walk_at "mine.steps"
    refine copy_led F N (N (n, _) (.tail _ (.tail _ (.tail _ (.head _))))).1 hlen2 fun n' k2' h7 F N hlt2 _ => ?_
    walk_at "mine.steps"
    rename Fr _ _ _ _ => F
    rename News _ _ _ _ => N
    refine ne_pair (N _ (.tail _ (.tail _ (.tail _ (.head _))))).1 (N _ (.head _)).1 (isL (N (y, _) (.tail _ (.tail _ (.tail _ (.tail _ (.head _)))))).1) (isL (N (n, _) (.tail _ (.tail _ (.tail _ (.tail _ (.tail _ (.head _))))))).1)
      (isL (N (y', _) (.tail _ (.tail _ (.head _)))).1) (isL (N (n', _) (.tail _ (.head _))).1) hys1 hzs1 hys1 hzs1 (Nat.le_of_ble_eq_true rfl) ?_
    replace N : News _ _ _ ((a, { cls := .type "tuple", data := .seq #[.ref y, .ref n] }) :: (lo, listOf lots.toArray k) :: (42, tabObj ps') :: (L + 1 + 1, oG2) :: (L + 1, oS) :: ((y, listOf ys1.toArray k1) :: (n, listOf zs1.toArray k2) :: (ex ++ rest) ++ [(I, oI)])) := fun p hp => N p (by
      simp only [List.mem_cons, List.mem_append, List.not_mem_nil, or_false] at hp ⊢
      rcases hp with hp | hp | hp | hp | hp | (hp | hp | hp | hp) | hp <;> simp only [hp, true_or, or_true])
    walk_at "mine.steps"
    rename Fr _ _ _ _ => F
    rename News _ _ _ _ => N
    refine item_tuple (isT (N _ (.head _)).1) (by decide) (by decide) (j := 0) rfl (x := .ref y) rfl ?_
    walk_at "mine.steps"
    have hst1 := hst.len
    refine append_led (N (lo, _) (.tail _ (.head _))).1 (by rw [sizeLine_eq]; omega) fun h8 k8 hg8 hs8 => ?_
    replace F := Fr.put F N (.tail _ (.head _)) hs8
    replace N := News.sub N (.tail _ (.head _)) hs8 hg8 (news' := (a, { cls := .type "tuple", data := .seq #[.ref y, .ref n] }) :: (42, tabObj ps') :: (lo, listOf (lots ++ [Value.ref y]).toArray k8) :: (L + 1 + 1, oG2) :: (L + 1, oS) :: ((y, listOf ys1.toArray k1) :: (n, listOf zs1.toArray k2) :: (ex ++ rest) ++ [(I, oI)])) (fun p hp => by
      rcases List.mem_cons.mp hp with rfl | hp
      · exact .inr ⟨.head _, offa.2.1⟩
      · rcases List.mem_cons.mp hp with rfl | hp
        · exact .inr ⟨.tail _ (.tail _ (.head _)), fun e => by simp only [Addr] at *; omega⟩
        · rcases List.mem_cons.mp hp with rfl | hp
          · exact .inl rfl
          · rcases List.mem_cons.mp hp with rfl | hp
            · exact .inr ⟨.tail _ (.tail _ (.tail _ (.head _))), hnlo.symm⟩
            · rcases List.mem_cons.mp hp with rfl | hp
              · exact .inr ⟨.tail _ (.tail _ (.tail _ (.tail _ (.head _)))), fun e => by simp only [Addr] at *; omega⟩
              · refine .inr ⟨.tail _ (.tail _ (.tail _ (.tail _ (.tail _ hp)))), ?_⟩
                rcases List.mem_append.mp hp with hp | hp
                · exact (off5 p hp).2.1
                · rw [List.mem_singleton.mp hp]; exact hIlo)
    walk_at "mine.steps"
    rename Fr _ _ _ _ => F
    rename News _ _ _ _ => N
    refine item_tuple (isT (N _ (.head _)).1) (by decide) (by decide) (j := 1) rfl (x := .ref n) rfl ?_
    walk_at "mine.steps"
    rename Fr _ _ _ _ => F
    rename News _ _ _ _ => N
    refine ⟨_, _, _, (42, tabObj ps') :: (lo, listOf (lots ++ [Value.ref y]).toArray k8) :: (L + 1 + 1, oG2) :: (L + 1, oS) :: ((y, listOf ys1.toArray k1) :: (n, listOf zs1.toArray k2) :: (ex ++ rest)), rfl, F, (fun p hp => N p (.tail _ hp)), ?_, ps', n, lots ++ [Value.ref y], k8, oG2, oS, _, rfl, hm1, rfl, ⟨_, hd2⟩, hoS, ?_, ?_, ?_, ?_, ?_⟩
    · intro p hp
      rcases List.mem_cons.mp hp with rfl | hp
      · exact hI42.symm
      · rcases List.mem_cons.mp hp with rfl | hp
        · exact hIlo.symm
        · rcases List.mem_cons.mp hp with rfl | hp
          · exact hIg.symm
          · rcases List.mem_cons.mp hp with rfl | hp
            · exact hIs.symm
            · exact (off5 p hp).2.2.2.2
    · exact htab'.mono fun p hp => .tail _ (.tail _ hp)
    · exact fun p hp => let x := off5 p hp; ⟨x.1, x.2.1, x.2.2.1, x.2.2.2.1⟩
    · simp [hst1]
    · intro j hj
      rcases Nat.lt_succ_iff_lt_or_eq.mp hj with hj | rfl
      · obtain ⟨a0, y0, k0, e1, e2, e3⟩ := hst.lot j hj
        exact ⟨a0, y0, k0, by rw [List.getElem?_append_left (by omega)]; exact e1, .tail _ (.tail _ (List.mem_append_right _ e2)), e3⟩
      · exact ⟨y, ys1, k1, by rw [List.getElem?_append_right (by omega), hst1]; simp, .head _, hys1⟩
    · exact .inr ⟨zs1, k2, .tail _ (.head _), hzs1⟩
  · rintro m₁ news₁ h tk ⟨ps, lf, lots, k, oG, oS, rest, J⟩ F N
    obtain ⟨hnews, hm1, hm2, _, hoS, htab, hoff, hst⟩ := J
    subst hnews
    walk_at "mine.steps"
    rename Fr _ _ _ _ => F
    rename News _ _ _ _ => N
    obtain ⟨a0, ys0, k0, e0, m0, i0⟩ := hst.lot 0 (by omega)
    obtain ⟨a1, ys1, k1, e1, m1, i1⟩ := hst.lot 1 (by omega)
    have hlots : lots = [Value.ref a0, Value.ref a1] := by
      have := hst.len
      match lots, this, e0, e1 with
      | [x, y], _, e0, e1 =>
        simp only [List.getElem?_cons_zero, List.getElem?_cons_succ, Option.some.injEq] at e0 e1
        rw [e0, e1]
    subst hlots
    rcases hst.left with ⟨_, e⟩ | ⟨zs, kz, m2, i2⟩
    · cases e
    refine add_lists F N (isL (N (lo, _) (.tail _ (.tail _ (.head _)))).1) (isL (N _ (.head _)).1) (fun h9 F N => ?_) (by rw [sizeLine_eq]; simp)
    have h42 := N (42, tabObj ps) (.tail _ (.tail _ (.head _)))
    have un : ∀ {b : Addr} {o : Obj}, (s.heap.hide 42).get? b = none → h9.get? b = some o → o.data ≠ (tabObj ps).data → s.heap.get? b = none := fun {b o} hb ho hne => by
      have hb42 : b ≠ 42 := fun q => hne (by rw [q] at ho; rw [h42.1] at ho; cases ho; rfl)
      rw [← hb, Heap.hide_ne _ hb42]
    have NR : News (s.heap.hide 42) L h9 rest := fun p hp => N p (.tail _ (.tail _ (.tail _ (.tail _ (.tail _ (.tail _ hp))))))
    have g0 := NR _ m0
    have g1 := NR _ m1
    have g2 := NR _ m2
    refine hQ _ a0 a1 lf ys0 ys1 zs _ k0 k1 kz _ _ F.keep ⟨ps, h42.1, ?_⟩ (un (N _ (.head _)).2.2 (N _ (.head _)).1 (fun q => by cases q)) (N _ (.head _)).1 g0.1 g1.1 g2.1 i0 i1 i2 (un g0.2.2 g0.1 (fun q => by cases q)) (un g1.2.2 g1.1 (fun q => by cases q)) (un g2.2.2 g2.1 (fun q => by cases q))
    rcases htab with e | ⟨c', e1, e2, e3⟩
    · exact .inl e
    · exact .inr ⟨c', e1, e2, e3.of F NR fun p hp => hp⟩
end Mine
end TPa

section TG7
open PySem PySem.W PyProof.Rows PySem.Calls
open PyProof.Rows.LCg PyProof.Rows.LCt
set_option maxRecDepth 100000
set_option maxHeartbeats 8000000
namespace Mine
section
variable {prog : Program} {w : World} {A : Around} {s : Shared} {h₀ : Heap} {L : Addr} {m : Str → Option Value} {env : Env} {ct elt : Expr} {x : Str} {scope : Scope} {cl : List (Str × Addr)} {S : List (Addr × Obj) → Prop} {P : Nat → Value → Prop} {Fin : List Value → List (Addr × Obj) → Prop} {n : Nat}

theorem CompEnd.mono {s₁ : Shared} {I C D : Addr} {oI oC oD : Obj} {r r' : Value → List (Addr × Obj) → Prop} {y : Value} {s₂ : Shared} (h : CompEnd h₀ L m s₁ I oI C oC D oD S r y s₂) (hr : ∀ nw, r y nw → r' y nw) : CompEnd h₀ L m s₁ I oI C oC D oD S r' y s₂ :=
  let ⟨h', tk, nw, e, F, N, o, hS, q⟩ := h
  ⟨h', tk, nw, e, F, N, o, hS, hr _ q⟩

theorem rest_inv (J : Nat → List Value → List (Addr × Obj) → Prop)
    (turn : ∀ i ys news v I oI C oC D m₂ h tk (E' : Value → Shared → Prop), i < n → J i ys news → P i v → NsObj oC m₂ → m₂ x = some v → Fr h₀ L h m → News h₀ L h ((I, oI) :: (C, oC) :: (D, lst ys) :: news) → Off3 I C D news → ((@Ne Nat I C) ∧ (@Ne Nat I D) ∧ (@Ne Nat C D)) →
      wpAny (model prog w) A (eval elt (compEnvC scope cl C env)) (CompEnd h₀ L m { s with heap := h, toks := tk } I oI C oC D (lst ys) S (fun y news' => J (i + 1) (ys ++ [y]) news')) E' { s with heap := h, toks := tk })
    (fin : ∀ ys news, J n ys news → Fin ys news) : ∀ k i ys news, i + k = n → J i ys news → CompRest prog w A h₀ L m env elt x scope cl s S P Fin k i ys news
  | 0, i, ys, news, e, hj => fin ys news (by rw [← e]; exact hj)
  | k + 1, i, ys, news, e, hj => fun v I oI C oC D m₂ h tk E' hP hC hx F N o3 ne =>
    wpAny_mono (turn i ys news v I oI C oC D m₂ h tk E' (by omega) hj hP hC hx F N o3 ne) (fun _ _ q => CompEnd.mono q fun nw hq => rest_inv J turn fin k (i + 1) _ nw (by omega) hq) fun _ _ q => q

theorem restT_inv (J : Nat → List Value → List (Addr × Obj) → Prop)
    (turn : ∀ i ys news v I oI C oC D m₂ h tk (E' : Value → Shared → Prop), i < n → J i ys news → P i v → NsObj oC m₂ → m₂ x = some v → Fr h₀ L h m → News h₀ L h ((I, oI) :: (C, oC) :: (D, lst ys) :: news) → Off3 I C D news → ((@Ne Nat I C) ∧ (@Ne Nat I D) ∧ (@Ne Nat C D)) →
      wpAny (model prog w) A (isTrue ct (compEnvC scope cl C env) (eval ct (compEnvC scope cl C env))) (fun ok s' => if ok = true then
        wpAny (model prog w) A (eval elt (compEnvC scope cl C env)) (CompEnd h₀ L m { s with heap := h, toks := tk } I oI C oC D (lst ys) S (fun y news' => J (i + 1) (ys ++ [y]) news')) E' s'
        else CompEnd h₀ L m { s with heap := h, toks := tk } I oI C oC D (lst ys) S (fun _ news' => J (i + 1) ys news') Value.none s') E' { s with heap := h, toks := tk })
    (fin : ∀ ys news, J n ys news → Fin ys news) : ∀ k i ys news, i + k = n → J i ys news → CompRestT prog w A h₀ L m env ct elt x scope cl s S P Fin k i ys news
  | 0, i, ys, news, e, hj => fin ys news (by rw [← e]; exact hj)
  | k + 1, i, ys, news, e, hj => fun v I oI C oC D m₂ h tk E' hP hC hx F N o3 ne =>
    wpAny_mono (turn i ys news v I oI C oC D m₂ h tk E' (by omega) hj hP hC hx F N o3 ne) (fun ok s' q => by
      by_cases hok : ok = true
      · rw [if_pos hok] at q ⊢
        exact wpAny_mono q (fun _ _ q => CompEnd.mono q fun nw hq => restT_inv J turn fin k (i + 1) _ nw (by omega) hq) fun _ _ q => q
      · rw [if_neg hok] at q ⊢
        exact CompEnd.mono q fun nw hq => restT_inv J turn fin k (i + 1) _ nw (by omega) hq) fun _ _ q => q
end
section
variable {M : Model} {A : Around} {E : Value → Shared → Prop} {s : Shared} {K : Frag} {h₀ : Heap} {L C c : Addr} {m m₂ mg mb : Str → Option Value} {news : List (Addr × Obj)} {scope : Scope} {cl : List (Str × Addr)} {env : Env} {x : Str} {pos : Pos} {v : Value} {oC : Obj} {Q : Value → Shared → Prop} {p : Program} {loose : List Str}
theorem nameC_L (N : News h₀ L s.heap news) (hm : (C, oC) ∈ news) (hC : NsObj oC m₂) (hv : m₂ x = some v) (h : Q v s)
    (hk : (compEnvC scope cl C env).scope.kind = .function := by rfl) (hx : (compEnvC scope cl C env).kindOf x = some .local := by rfl) (hb : (x == ("__debug__" : Str)) = false := by decide) :
    wpAny M A (eval (.Name x pos) (compEnvC scope cl C env)) Q E s := wpAny_Name (wpAny_loadName_local hk hx (hC.ns (N _ hm).1) hv h) hb
theorem nameC_K (F : Fr h₀ L s.heap m) (X : K.In h₀) (T : TopRead p loose mg mb h₀) (e : nsIn K mainGlobals x = some (some v)) (h : Q v s)
    (hg : env.globals = mainGlobals := by rfl) (hk : (compEnvC scope cl C env).scope.kind = .function := by rfl) (hx : (compEnvC scope cl C env).kindOf x = some .globalImplicit := by rfl) (hd : (x == ("__debug__" : Str)) = false := by decide) :
    wpAny M A (eval (.Name x pos) (compEnvC scope cl C env)) Q E s := Name_function_global hk hx (loadGlobal_global (env := compEnvC scope cl C env) (by rw [show (compEnvC scope cl C env).globals = mainGlobals from hg]; exact T.g.keeps F.keep) (mg_of X T.g e) h) hd
end
section
variable {prog : Program} {w : World} {A : Around} {E : Value → Shared → Prop} {s : Shared} {h₀ : Heap} {L : Addr} {m : Str → Option Value} {news : List (Addr × Obj)}
theorem cut_from {value slice : Expr} {l : Addr} {vs : List Value} {z : Int} {a : Nat} {t : Tok} {Q : Value → Shared → Prop} (F : Fr h₀ L s.heap m) (N : News h₀ L s.heap news) (hl : s.heap.IsList l vs.toArray) (hlen : vs.length ≤ 4096) (hz : z = (a : Int))
    (h : ∀ a' h', Fr h₀ L h' m → News h₀ L h' ((a', listOf (vs.drop a).toArray 0) :: news) → (∀ p ∈ news, p.1 < a') → Q (.ref a') { s with heap := h' })
    (hs : subscripted slice false (.ref l) (.ref s.heap.objs.size) = operate [.ref s.heap.objs.size, .ref l] (getItem (.ref l) (.ref s.heap.objs.size)) := by with_unfolding_all rfl)
    (ht : ∀ r, letTemporaryGo value (.ref l) r = pure () := by intro _; with_unfolding_all rfl) :
    wpAny (model prog w) A (subscriptTail value slice (.ref l) (.ref s.heap.objs.size)) Q E { s with heap := s.heap.push { cls := .type "slice", data := .fields #[.int z t, .none, .none] } } := by
  subst hz
  refine slice_list F N hl (.int _ _) .none (fun h' F' N' => ?_) hs ht (by rw [sizeLine_eq]; simp; omega)
  rw [slicePick_from'] at N'
  exact h _ h' F' N' fun p hp => Nat.lt_succ_of_lt (Heap.lt_size (N p hp).1)
theorem cut_upto {value slice : Expr} {l : Addr} {vs : List Value} {z : Int} {a : Nat} {t : Tok} {Q : Value → Shared → Prop} (F : Fr h₀ L s.heap m) (N : News h₀ L s.heap news) (hl : s.heap.IsList l vs.toArray) (hlen : vs.length ≤ 4096) (hz : z = (a : Int))
    (h : ∀ a' h', Fr h₀ L h' m → News h₀ L h' ((a', listOf (vs.take a).toArray 0) :: news) → (∀ p ∈ news, p.1 < a') → Q (.ref a') { s with heap := h' })
    (hs : subscripted slice false (.ref l) (.ref s.heap.objs.size) = operate [.ref s.heap.objs.size, .ref l] (getItem (.ref l) (.ref s.heap.objs.size)) := by with_unfolding_all rfl)
    (ht : ∀ r, letTemporaryGo value (.ref l) r = pure () := by intro _; with_unfolding_all rfl) :
    wpAny (model prog w) A (subscriptTail value slice (.ref l) (.ref s.heap.objs.size)) Q E { s with heap := s.heap.push { cls := .type "slice", data := .fields #[.none, .int z t, .none] } } := by
  subst hz
  refine slice_list F N hl .none (.int _ _) (fun h' F' N' => ?_) hs ht (by rw [sizeLine_eq]; simp; omega)
  rw [slicePick_upto'] at N'
  exact h _ h' F' N' fun p hp => Nat.lt_succ_of_lt (Heap.lt_size (N p hp).1)
theorem add_led {l b : Addr} {vs ws : List Value} {Q : Value → Shared → Prop} (F : Fr h₀ L s.heap m) (N : News h₀ L s.heap news) (hl : s.heap.IsList l vs.toArray) (hb : s.heap.IsList b ws.toArray) (hsz : vs.length + ws.length ≤ 4096)
    (h : ∀ a' h', Fr h₀ L h' m → News h₀ L h' ((a', listOf (vs ++ ws).toArray 0) :: news) → (∀ p ∈ news, p.1 < a') → Q (.ref a') { s with heap := h' }) :
    wpAny (model prog w) A (binaryOp .Add (.ref l) (.ref b)) Q E s :=
  add_lists F N hl hb (fun h' F' N' => h _ h' F' N' fun p hp => Heap.lt_size (N p hp).1) (by rw [sizeLine_eq]; omega)
end
theorem index_ints {prog : Program} {w : World} {A : Around} {E : Value → Shared → Prop} {s : Shared} {l : Addr} {vs : List Value} {ns : List Int} {k : Int} {t : Tok} {Q : Value → Shared → Prop} (hl : s.heap.IsList l vs.toArray) (hi : IntsAre vs ns)
    (hb : ns.length ≤ 4096) (hk : k ∈ ns) (h : Q (.int (ns.idxOf k : Nat) s.toks) { s with toks := s.toks + 1 }) :
    wpAny (model prog w) A (call (.builtin "list.index") [.ref l, .int k t]) Q E s := by
  obtain ⟨⟨cls, dd, data, sl⟩, ho, hc, n, hd⟩ := id hl
  simp only at hc hd
  subst hc hd
  have hlen := hi.length
  have hj : ns.idxOf k < ns.length := List.idxOf_lt_length_iff.mpr hk
  refine call_meets PySem.F.slot_list_index ⟨_, ho, rfl⟩ PySem.F.entry_list_index (PySem.F.args_list_index_2 _ _)
    (PySem.SeqAt.list_indexAt l vs.toArray n dd sl (.int k t) (isInt k) (ns.idxOf k) (by simpa [hlen] using hj) (by omega) ?_ ?_) ⟨ho, fun y hy => (eq_isInt k t hi y (by simpa using hy)).at _ _, h⟩
  · show isInt k vs[ns.idxOf k] = true
    rw [isInt_at k hi _ (by omega) hj]
    simpa using List.getElem_idxOf hj
  · intro j hjs hlt
    show isInt k vs[j] = false
    rw [isInt_at k hi j (by simpa using hjs) (by omega)]
    exact ne_of_lt_idxOf hlt _
theorem off1_mem {D : Addr} : ∀ {l : List (Addr × Obj)}, Off1 D l → ∀ p ∈ l, p.1 ≠ D
  | [], _, _, h => nomatch h
  | _ :: _, h, p, hp => by
    rcases List.mem_cons.mp hp with rfl | hp
    · exact h.1
    · exact off1_mem h.2 p hp
/-- the lists of a list, each in the ledger -/
def RowsAt (f : Nat → List Int) (n : Nat) (ys : List Value) (rs : List (Addr × Obj)) : Prop := ys.length = n ∧ ∀ j < n, ∃ a us k, ys[j]? = some (.ref a) ∧ (a, listOf us.toArray k) ∈ rs ∧ IntsAre us (f j)
theorem RowsAt.snoc {f : Nat → List Int} {n : Nat} {ys : List Value} {rs : List (Addr × Obj)} {a : Addr} {us : List Value} {k : Nat} (R : RowsAt f n ys rs) (hu : IntsAre us (f n)) : RowsAt f (n + 1) (ys ++ [.ref a]) ((a, listOf us.toArray k) :: rs) := by
  refine ⟨by simp [R.1], fun j hj => ?_⟩
  have hlen := R.1
  rcases Nat.lt_succ_iff_lt_or_eq.mp hj with hj | rfl
  · obtain ⟨a0, y0, k0, e1, e2, e3⟩ := R.2 j hj
    exact ⟨a0, y0, k0, by rw [List.getElem?_append_left (by omega)]; exact e1, .tail _ e2, e3⟩
  · exact ⟨a, us, k, by rw [List.getElem?_append_right (by omega), hlen]; simp, .head _, hu⟩
end Mine
end TG7

section TTa
open PySem PySem.W PyProof.Rows PySem.Calls
open PyProof.Rows.LCg PyProof.Rows.LCt
set_option maxRecDepth 100000
set_option maxHeartbeats 8000000
namespace Mine
theorem fillT : (PySem.Challenge.rw_pk0011_01 = PySem.Challenge.rw_pk0011_01) ∧ hd.heap_39 = hd.heap_39 := by
  k_fill
  exact ⟨rfl, rfl⟩
local macro_rules | `(tactic| walk_at "eval Name") => `(tactic| (k_here; k_dflt (refine' nameX_L ?k1 ?k2 ?_; (case k1 => k_asm); (case k2 => assumption); k_whole)))
local macro_rules | `(tactic| walk_at "mine.steps") => `(tactic| repeat' (first | ((fail_if_success (with_reducible show wpAny _ _ (exec (Stmt.For _ _ _ _ _) _) _ _ _)); (fail_if_success (with_reducible show wpAny _ _ (eval (Expr.ListComp _ _ _ _) _) _ _ _)); (fail_if_success (with_reducible show wpAny _ _ (call (Value.type "range") _) _ _ _)); (fail_if_success (with_reducible show wpAny _ _ (call (Value.builtin "len") _) _ _ _)); (fail_if_success (with_reducible show wpAny _ _ (call (Value.ref 35) _) _ _ _)); (fail_if_success (with_reducible show wpAny _ _ (compareOp _ (Value.ref _) (Value.ref _)) _ _ _)); (fail_if_success (with_reducible show wpAny _ _ (call (Value.builtin "list.append") _) _ _ _)); (fail_if_success (with_reducible show LCt.CompSrcT _ _ _ _ _ _ _ _ _ _ _ _ _ _ _)); (fail_if_success (with_reducible show LCg.CompEnd _ _ _ _ _ _ _ _ _ _ _ _ _ _)); (fail_if_success (with_reducible show wpAny _ _ (exec (Stmt.Assign _ (Expr.ListComp _ _ _ _) _) _) _ _ _)); (fail_if_success (with_reducible show wpAny _ _ (subscriptTail _ _ _ _) _ _ _)); (fail_if_success (with_reducible show wpAny _ _ (eval (Expr.Name _ _) (compEnvC _ _ _ _)) _ _ _)); first | walk1 | (dsimp only; walk1))))
theorem hideL {h : Heap} {a : Addr} {xs ps : Array Value} (hp : h.get? 42 = some (tabObj ps)) (x : h.IsList a xs) : (h.hide 42).IsList a xs := x.at fun o e => (Heap.hide_ne _ (fun q => by
  obtain ⟨o', e1, e2, _⟩ := x
  subst q
  rw [e1] at hp
  cases hp
  cases e2)).trans e
def turnN (ws : List Int) (k : Nat) : List Int := ws.drop k ++ ws.take k
def lessN (ws bs : List Int) (k n : Nat) : List Nat := (List.range n).filter fun j => ahead bs false (turnN ws j) (turnN ws k)
def likeN (ws : List Int) (k n : Nat) : List Nat := (List.range n).filter fun j => decide (turnN ws j = turnN ws k)
theorem rf_t {P : Nat → Bool} {j : Nat} (h : P j = true) : ((List.range (j + 1)).filter P).length = ((List.range j).filter P).length + 1 := by
  rw [List.range_succ, List.filter_append]; simp [h]
theorem rf_f {P : Nat → Bool} {j : Nat} (h : P j = false) : ((List.range (j + 1)).filter P).length = ((List.range j).filter P).length := by
  rw [List.range_succ, List.filter_append]; simp [h]
def placeN (ws bs : List Int) (k : Nat) : Nat := (lessN ws bs k ws.length).length + (likeN ws k k).length
def placesN (ws bs : List Int) (n : Nat) : List Int := (List.range n).map fun k => (placeN ws bs k : Int)
theorem placesN_succ {ws bs : List Int} {n : Nat} : placesN ws bs (n + 1) = placesN ws bs n ++ [(placeN ws bs n : Int)] := by
  unfold placesN; rw [List.range_succ, List.map_append]; rfl
theorem table_spec {w : World} {Q E : Value → Shared → Prop} {s : Shared} {mg mb : Str → Option Value} {l c : Addr} {vs us : List Value} {ws bs : List Int}
   (G : G42 w mg mb s.heap) (hl : s.heap.IsList l vs.toArray) (hi : IntsAre vs ws) (hz : ws.length ≤ 64) (hc : s.heap.IsList c us.toArray) (hic : IntsAre us bs) (hperm : ∀ p < ws.length, ((p : Nat) : Int) ∈ placesN ws bs ws.length)
   (hQ : ∀ (a : Addr) (rows : List Value) (k : Nat) (h' : Heap) (tk : Tok), Kp s.heap h' → s.heap.get? a = none → h'.get? a = some (listOf rows.toArray k) → rows.length = ws.length →
      (∀ p < ws.length, ∃ (r : Addr) (us : List Value) (kr : Nat), rows[p]? = some (.ref r) ∧ h'.get? r = some (listOf us.toArray kr) ∧ IntsAre us (turnN ws ((placesN ws bs ws.length).idxOf (p : Int))) ∧ s.heap.get? r = none) → Q (.ref a) { s with heap := h', toks := tk }) :
   wpAny (model Pg w) (Ar 400 80) (call (.ref 40) [.ref l, .ref c]) Q E s := by
  obtain ⟨X, ⟨p, loose, mean, T⟩, C, ps, hps, hok⟩ := G
  refine' enterH (binds := [(Str.ofString "word", .ref l), (Str.ofString "bent", .ref c)]) hps X T ?k6 ?k7 ?k8 ?k9 ?kB ?kD ?_ ?c2 ?c3 ?c4
  case k6 => k_is
  case k7 => k_is
  case k8 => decide
  case k9 => exact BindsTo.of_eq rfl
  case kB => exact rfl
  case kD => decide +kernel
  case c2 => exact rfl
  case c3 => exact rfl
  case c4 => exact rfl
  replace hl := hideL hps hl
  replace hc := hideL hps hc
  intro L h₁ tk0 cells F N Y hPL
  k_cells Y
  simp only [List.cons_append, List.nil_append] at N
  rename_i o1 o2 o3 o4 o5 d1 d2 d3 d4 d5
  have d5' : o5.data = .cell (some (.ref l)) := d5
  have d4' : o4.data = .cell (some (.ref c)) := d4
  walk_at "mine.steps"
  walk1
  refine LCg.ListComp_U F (by with_unfolding_all rfl) (by decide) (by rfl) (by decide) (by rfl) ?_
  walk_at "mine.steps"
  refine len_ints_fit (hl.at fun o e => F.keep _ o e) hi (by omega) ?_
  walk_at "mine.steps"
  rename Fr _ _ _ _ => F
  rename News _ _ _ _ => N
  refine call_range_1 ?_
  have hrs : Builtin.Range.rangeSize 0 (ws.length : Int) 1 = ((ws.length : Nat) : Int) := rangeSize_pos (by omega) (by simp)
  have hsm := small_pos (a := 0) (b := (ws.length : Int)) (c := 1) (by omega) hrs (by omega) (by omega) (by omega) (by omega) (by omega) (by omega)
  refine LCg.CompSrc.range (n := ws.length) rfl (F.push _) (News.kp N fun b o e => Heap.get?_push_of_some _ e) (IsRange.new ..) hsm hrs (by rw [sizeLine_eq]; omega) fun g => ?_
  refine rest_inv (n := ws.length) (fun i ys news => ∃ rs, news = rs ++ [(L + 1 + 1 + 1 + 1 + 1, o1), (L + 1 + 1 + 1 + 1, o2), (L + 1 + 1 + 1, o3), (L + 1 + 1, o4), (L + 1, o5), (42, tabObj ps)] ∧ RowsAt (turnN ws) i ys rs ∧ (∀ p ∈ rs, L + 1 + 1 + 1 + 1 + 1 < p.1)) ?_ ?_ _ 0 _ _ (by omega) ⟨[], rfl, ⟨rfl, fun j hj => absurd hj (Nat.not_lt_zero _)⟩, fun _ h => nomatch h⟩
  · rintro i ys _ v I oI Cc oC D m₂ h tk E' hi' ⟨rs, rfl, hrows, hrs5⟩ ⟨t, rfl⟩ hC hx F N o3' ne
    have hw : ∀ {p}, p ∈ [(L + 1 + 1 + 1 + 1 + 1, o1), (L + 1 + 1 + 1 + 1, o2), (L + 1 + 1 + 1, o3), (L + 1 + 1, o4), (L + 1, o5), (42, tabObj ps)] → p ∈ (I, oI) :: (Cc, oC) :: (D, lst ys) :: (rs ++ [(L + 1 + 1 + 1 + 1 + 1, o1), (L + 1 + 1 + 1 + 1, o2), (L + 1 + 1 + 1, o3), (L + 1 + 1, o4), (L + 1, o5), (42, tabObj ps)]) :=
      fun hp => .tail _ (.tail _ (.tail _ (List.mem_append_right _ hp)))
    walk_at "mine.steps"
    refine lcf_cell N rfl (hw (.tail _ (.tail _ (.tail _ (.tail _ (.head _)))))) d5' ?_ rfl rfl
    walk_at "mine.steps"
    refine nameC_L N (.tail _ (.head _)) hC hx ?_
    walk_at "mine.steps"
    refine cut_from (s := { s with heap := h, toks := _ }) F N (hl.at fun o e => F.keep _ o e) (by rw [hi.length]; omega) (a := i) (by omega) ?_
    intro a1 h2 F N hlt1
    walk_at "mine.steps"
    refine lcf_cell N rfl (.tail _ (hw (.tail _ (.tail _ (.tail _ (.tail _ (.head _))))))) d5' ?_ rfl rfl
    walk_at "mine.steps"
    refine nameC_L N (.tail _ (.tail _ (.head _))) hC hx ?_
    walk_at "mine.steps"
    refine cut_upto (s := { s with heap := h2, toks := _ }) F N (hl.at fun o e => F.keep _ o e) (by rw [hi.length]; omega) (a := i) (by omega) ?_
    intro a2 h3 F N hlt2
    walk_at "mine.steps"
    refine add_led F N (isL (N (a1, _) (.tail _ (.head _))).1) (isL (N (a2, _) (.head _)).1) (by rw [List.length_drop, List.length_take, hi.length]; omega) fun a3 h4 F N hlt3 => ?_
    have l3 : ∀ p ∈ (I, oI) :: (Cc, oC) :: (D, lst ys) :: (rs ++ [(L + 1 + 1 + 1 + 1 + 1, o1), (L + 1 + 1 + 1 + 1, o2), (L + 1 + 1 + 1, o3), (L + 1 + 1, o4), (L + 1, o5), (42, tabObj ps)]), p.1 < a3 := fun p hp => hlt3 p (.tail _ (.tail _ hp))
    refine CompEnd.intro F N ((a3, listOf (vs.drop i ++ vs.take i).toArray 0) :: (rs ++ [(L + 1 + 1 + 1 + 1 + 1, o1), (L + 1 + 1 + 1 + 1, o2), (L + 1 + 1 + 1, o3), (L + 1 + 1, o4), (L + 1, o5), (42, tabObj ps)])) (fun p hp => ?_) (Off3.of fun p hp => ?_) trivial ⟨(a3, _) :: rs, rfl, hrows.snoc ((hi.drop i).append (hi.take i)), fun p hp => ?_⟩
    · rcases List.mem_cons.mp hp with rfl | hp
      · exact .tail _ (.tail _ (.tail _ (.head _)))
      · rcases List.mem_cons.mp hp with rfl | hp
        · exact .tail _ (.tail _ (.tail _ (.tail _ (.head _))))
        · rcases List.mem_cons.mp hp with rfl | hp
          · exact .tail _ (.tail _ (.tail _ (.tail _ (.tail _ (.head _)))))
          · rcases List.mem_cons.mp hp with rfl | hp
            · exact .head _
            · exact .tail _ (.tail _ (.tail _ (.tail _ (.tail _ (.tail _ hp)))))
    · rcases List.mem_cons.mp hp with rfl | hp
      · exact ⟨Nat.ne_of_gt (l3 _ (.head _)), Nat.ne_of_gt (l3 _ (.tail _ (.head _))), Nat.ne_of_gt (l3 _ (.tail _ (.tail _ (.head _))))⟩
      · exact o3'.mem p hp
    · rcases List.mem_cons.mp hp with rfl | hp
      · exact l3 _ (hw (.head _))
      · exact hrs5 p hp
  · rintro ys _ ⟨rs, rfl, hrows, hrs5⟩ D h2 tk2 F N hoff
    dsimp only at *
    have hD := off1_mem hoff
    have hDb : ∀ {p}, p ∈ [(L + 1 + 1 + 1 + 1 + 1, o1), (L + 1 + 1 + 1 + 1, o2), (L + 1 + 1 + 1, o3), (L + 1 + 1, o4), (L + 1, o5), (42, tabObj ps)] → p.1 ≠ D := fun hp => hD _ (List.mem_append_right _ hp)
    have hD5 : L + 1 + 1 + 1 + 1 + 1 ≠ D := hDb (.head _)
    have hD4 : L + 1 + 1 + 1 + 1 ≠ D := hDb (.tail _ (.head _))
    have hD3 : L + 1 + 1 + 1 ≠ D := hDb (.tail _ (.tail _ (.head _)))
    walk_at "mine.steps"
    refine cell_store rfl rfl rfl F N (.tail _ (List.mem_append_right _ (.tail _ (.head _)))) d2 fun h3 o2' hs3 hg3 hd3 F3 => ?_
    have N3 := News.sub (news' := (D, lst ys) :: (L + 1 + 1 + 1 + 1 + 1, o1) :: (L + 1 + 1 + 1 + 1, o2') :: (L + 1 + 1 + 1, o3) :: (L + 1 + 1, o4) :: (L + 1, o5) :: (42, tabObj ps) :: rs) N (.tail _ (List.mem_append_right _ (.tail _ (.head _)))) hs3 hg3 (fun p hp => by
      have bb : ∀ {p}, p ∈ [(L + 1 + 1 + 1 + 1 + 1, o1), (L + 1 + 1 + 1 + 1, o2), (L + 1 + 1 + 1, o3), (L + 1 + 1, o4), (L + 1, o5), (42, tabObj ps)] → p ∈ (D, lst ys) :: (rs ++ [(L + 1 + 1 + 1 + 1 + 1, o1), (L + 1 + 1 + 1 + 1, o2), (L + 1 + 1 + 1, o3), (L + 1 + 1, o4), (L + 1, o5), (42, tabObj ps)]) := fun hp => .tail _ (List.mem_append_right _ hp)
      rcases List.mem_cons.mp hp with rfl | hp
      · exact .inr ⟨.head _, hD4.symm⟩
      rcases List.mem_cons.mp hp with rfl | hp
      · exact .inr ⟨bb (.head _), fun e => by simp only [Addr] at *; omega⟩
      rcases List.mem_cons.mp hp with rfl | hp
      · exact .inl rfl
      rcases List.mem_cons.mp hp with rfl | hp
      · exact .inr ⟨bb (.tail _ (.tail _ (.head _))), fun e => by simp only [Addr] at *; omega⟩
      rcases List.mem_cons.mp hp with rfl | hp
      · exact .inr ⟨bb (.tail _ (.tail _ (.tail _ (.head _)))), fun e => by simp only [Addr] at *; omega⟩
      rcases List.mem_cons.mp hp with rfl | hp
      · exact .inr ⟨bb (.tail _ (.tail _ (.tail _ (.tail _ (.head _))))), fun e => by simp only [Addr] at *; omega⟩
      rcases List.mem_cons.mp hp with rfl | hp
      · exact .inr ⟨bb (.tail _ (.tail _ (.tail _ (.tail _ (.tail _ (.head _)))))), fun e => by simp only [Addr] at *; omega⟩
      · exact .inr ⟨.tail _ (List.mem_append_left _ hp), fun e => by have := hrs5 p hp; simp only [Addr] at *; omega⟩)
    clear F N
    have hlt4 := News.lt N3 (Nat.le_refl _)
    walk_at "mine.steps"
    rename Fr _ _ _ _ => F
    rename News _ _ _ _ => N
    dsimp only at N ⊢
    obtain ⟨pl, hpl⟩ : ∃ pl, pl = h3.objs.size := ⟨_, rfl⟩
    rw [← hpl] at N hlt4 ⊢
    clear N3 F3 hpl
    have p5 : L + 1 + 1 + 1 + 1 + 1 < pl := hlt4 _ (.tail _ (.head _))
    have pD : D < pl := hlt4 _ (.head _)
    refine cell_store rfl rfl rfl F N (.tail _ (.tail _ (.head _))) d1 fun h4 o1' hs4 hg4 hd4 F4 => ?_
    have N4 := News.sub (news' := (L + 1 + 1 + 1, o3) :: (pl, listOf #[] 0) :: (D, lst ys) :: (L + 1 + 1 + 1 + 1 + 1, o1') :: (L + 1 + 1 + 1 + 1, o2') :: (L + 1 + 1, o4) :: (L + 1, o5) :: (42, tabObj ps) :: rs) N (.tail _ (.tail _ (.head _))) hs4 hg4 (fun p hp => by
      rcases List.mem_cons.mp hp with rfl | hp
      · exact .inr ⟨.tail _ (.tail _ (.tail _ (.tail _ (.head _)))), fun e => by simp only [Addr] at *; omega⟩
      rcases List.mem_cons.mp hp with rfl | hp
      · exact .inr ⟨.head _, fun e => by simp only [Addr] at *; omega⟩
      rcases List.mem_cons.mp hp with rfl | hp
      · exact .inr ⟨.tail _ (.head _), hD5.symm⟩
      rcases List.mem_cons.mp hp with rfl | hp
      · exact .inl rfl
      rcases List.mem_cons.mp hp with rfl | hp
      · exact .inr ⟨.tail _ (.tail _ (.tail _ (.head _))), fun e => by simp only [Addr] at *; omega⟩
      rcases List.mem_cons.mp hp with rfl | hp
      · exact .inr ⟨.tail _ (.tail _ (.tail _ (.tail _ (.tail _ (.head _))))), fun e => by simp only [Addr] at *; omega⟩
      rcases List.mem_cons.mp hp with rfl | hp
      · exact .inr ⟨.tail _ (.tail _ (.tail _ (.tail _ (.tail _ (.tail _ (.head _)))))), fun e => by simp only [Addr] at *; omega⟩
      rcases List.mem_cons.mp hp with rfl | hp
      · exact .inr ⟨.tail _ (.tail _ (.tail _ (.tail _ (.tail _ (.tail _ (.tail _ (.head _))))))), fun e => by simp only [Addr] at *; omega⟩
      · exact .inr ⟨.tail _ (.tail _ (.tail _ (.tail _ (.tail _ (.tail _ (.tail _ (.tail _ hp))))))), fun e => by have := hrs5 p hp; simp only [Addr] at *; omega⟩)
    clear F N
    have hlenY : ys.length = ws.length := hrows.1
    walk_at "mine.steps"
    rename Fr _ _ _ _ => F
    rename News _ _ _ _ => N
    refine For_turns F ?_ (hE := PassesOwn.never)
    walk_at "mine.steps"
    refine call_len_list (isL (N (D, _) (.tail _ (.tail _ (.head _)))).1) (by simp; omega) ?_
    walk_at "mine.steps"
    refine call_range_1 ?_
    have hysz : (((ys.toArray.size : Nat)) : Int) = ((ws.length : Nat) : Int) := by simp [hlenY]
    rw [hysz]
    refine range_turns (news := [(L + 1 + 1 + 1, o3), (pl, listOf #[] 0)]) (fix := (D, lst ys) :: (L + 1 + 1 + 1 + 1 + 1, o1') :: (L + 1 + 1 + 1 + 1, o2') :: (L + 1 + 1, o4) :: (L + 1, o5) :: (42, tabObj ps) :: rs) rfl (IsRange.new ..) hsm hrs (F.push _)
      (News.kp N fun b o e => Heap.get?_push_of_some _ e) ?_
      (fun i m news => ∃ ok pls kp, news = [(L + 1 + 1 + 1, ok), (pl, listOf pls.toArray kp)] ∧ (∃ v, ok.data = .cell v) ∧ IntsAre pls (placesN ws bs i)) ⟨o3, [], 0, rfl, ⟨_, d3⟩, .nil⟩ ?_ ?_
    · intro p hp q hq
      have hq1 : q.1 ≠ L + 1 + 1 + 1 := by
        rcases List.mem_cons.mp hq with rfl | hq
        · exact hD3.symm
        rcases List.mem_cons.mp hq with rfl | hq
        · exact fun e => by simp only [Addr] at *; omega
        rcases List.mem_cons.mp hq with rfl | hq
        · exact fun e => by simp only [Addr] at *; omega
        rcases List.mem_cons.mp hq with rfl | hq
        · exact fun e => by simp only [Addr] at *; omega
        rcases List.mem_cons.mp hq with rfl | hq
        · exact fun e => by simp only [Addr] at *; omega
        rcases List.mem_cons.mp hq with rfl | hq
        · exact fun e => by simp only [Addr] at *; omega
        · exact fun e => by have := hrs5 q hq; simp only [Addr] at *; omega
      have hq2 : q.1 ≠ pl := by
        rcases List.mem_cons.mp hq with rfl | hq
        · exact Nat.ne_of_lt pD
        rcases List.mem_cons.mp hq with rfl | hq
        · exact fun e => by simp only [Addr] at *; omega
        rcases List.mem_cons.mp hq with rfl | hq
        · exact fun e => by simp only [Addr] at *; omega
        rcases List.mem_cons.mp hq with rfl | hq
        · exact fun e => by simp only [Addr] at *; omega
        rcases List.mem_cons.mp hq with rfl | hq
        · exact fun e => by simp only [Addr] at *; omega
        rcases List.mem_cons.mp hq with rfl | hq
        · exact fun e => by simp only [Addr] at *; omega
        · exact Nat.ne_of_lt (hlt4 q (.tail _ (.tail _ (.tail _ (.tail _ (.tail _ (.tail _ (.tail _ hq))))))))
      rcases List.mem_cons.mp hp with rfl | hp
      · exact hq1
      · rw [List.mem_singleton.mp hp]; exact hq2
    · rintro i t₁ m₁ news₁ h tk own hi2 hadr hown hsub ⟨ok, pls, kp, rfl, ⟨vok, hok⟩, hpls⟩ F N
      refine wpAny_assign_Name ?_
      refine cell_store rfl rfl rfl F N (.head _) hok fun h5 ok' hs5 hg5 hd5 F5 => ?_
      have hown1 : ∀ p ∈ own, p.1 ≠ L + 1 + 1 + 1 := fun p hp => hown p hp _ (.head _)
      have hown2 : ∀ p ∈ own, p.1 ≠ pl := fun p hp => hown p hp _ (.tail _ (.head _))
      have N5 := News.sub (news' := (L + 1 + 1 + 1, ok') :: (pl, listOf pls.toArray kp) :: own) N (.head _) hs5 hg5 (fun p hp => by
        rcases List.mem_cons.mp hp with rfl | hp
        · exact .inl rfl
        rcases List.mem_cons.mp hp with rfl | hp
        · exact .inr ⟨.tail _ (.head _), fun e => by simp only [Addr] at *; omega⟩
        · exact .inr ⟨.tail _ (.tail _ hp), hown1 p hp⟩)
      replace N5 : News _ _ _ ((L + 1 + 1 + 1, ok') :: (pl, listOf pls.toArray kp) :: (D, lst ys) :: (L + 1 + 1 + 1 + 1 + 1, o1') :: (L + 1 + 1 + 1 + 1, o2') :: (L + 1 + 1, o4) :: (L + 1, o5) :: (42, tabObj ps) :: own) := fun p hp => N5 p (by
        rcases List.mem_cons.mp hp with rfl | hp
        · exact .head _
        rcases List.mem_cons.mp hp with rfl | hp
        · exact .tail _ (.head _)
        rcases List.mem_cons.mp hp with rfl | hp
        · exact .tail _ (.tail _ (hsub _ (.head _)))
        rcases List.mem_cons.mp hp with rfl | hp
        · exact .tail _ (.tail _ (hsub _ (.tail _ (.head _))))
        rcases List.mem_cons.mp hp with rfl | hp
        · exact .tail _ (.tail _ (hsub _ (.tail _ (.tail _ (.head _)))))
        rcases List.mem_cons.mp hp with rfl | hp
        · exact .tail _ (.tail _ (hsub _ (.tail _ (.tail _ (.tail _ (.head _))))))
        rcases List.mem_cons.mp hp with rfl | hp
        · exact .tail _ (.tail _ (hsub _ (.tail _ (.tail _ (.tail _ (.tail _ (.head _)))))))
        rcases List.mem_cons.mp hp with rfl | hp
        · exact .tail _ (.tail _ (hsub _ (.tail _ (.tail _ (.tail _ (.tail _ (.tail _ (.head _))))))))
        · exact .tail _ (.tail _ hp))
      have hrs6 : ∀ p ∈ rs, p ∈ own := fun p hp => hsub p (.tail _ (.tail _ (.tail _ (.tail _ (.tail _ (.tail _ hp))))))
      clear F N
      walk_at "mine.steps"
      refine LCt.Assign_ListComp_T F5 rfl (by rfl) (by with_unfolding_all rfl) (by decide) (by rfl) (by decide) (by rfl) (by rfl) (by rfl) ?_
      refine nameX_C N5 rfl (.tail _ (.tail _ (.tail _ (.tail _ (.head _))))) hd3 ?_
      refine LCt.CompSrcT.ledger (k := ys.length) rfl F5 N5 (.tail _ (.tail _ (.head _))) (by rw [sizeLine_eq]; simp; omega) fun g => ?_
      have hysz2 : ys.toArray.size = ws.length := by simp [hlenY]
      rw [hysz2]
      refine restT_inv (n := ws.length) (fun i' zs news => news = (L + 1 + 1 + 1, ok') :: (pl, listOf pls.toArray kp) :: (D, lst ys) :: (L + 1 + 1 + 1 + 1 + 1, o1') :: (L + 1 + 1 + 1 + 1, o2') :: (L + 1 + 1, o4) :: (L + 1, o5) :: (42, tabObj ps) :: own ∧ zs.length = (lessN ws bs i i').length) ?_ ?_ _ 0 _ _ (by omega) ⟨rfl, rfl⟩
      · rintro j zs _ v I oI Cc oC D2 m₂ h6 tk6 E' hj6 ⟨rfl, hzl⟩ hv hC hx F N o3' ne
        obtain ⟨aj, uj, kj, ej, mj, ij⟩ := hrows.2 j hj6
        obtain ⟨ai, ui, ki, ei, mi, ii⟩ := hrows.2 i hi2
        obtain rfl : v = .ref aj := by
          have : ys[j]? = some v := by simpa using hv
          rw [ej] at this; cases this; rfl
        walk_at "mine.steps"
        refine nameC_K (K := hd.heap_39 w.params) F X (by k_asm) (by k_is) ?_
        walk_at "mine.steps"
        refine nameC_L N (.tail _ (.head _)) hC hx ?_
        walk_at "mine.steps"
        refine lcf_cell N rfl (.tail _ (.tail _ (.tail _ (.tail _ (.tail _ (.tail _ (.tail _ (.head _)))))))) hd3 ?_ rfl rfl
        walk_at "mine.steps"
        refine lcf_cell N rfl (.tail _ (.tail _ (.tail _ (.head _)))) hd5 ?_ rfl rfl
        walk_at "mine.steps"
        have hidx : ((0 : Int) + (i : Int) * 1).toNat = i := by omega
        refine item_listL (isL (N (D, _) (.tail _ (.tail _ (.tail _ (.tail _ (.tail _ (.head _))))))).1) (by omega) (by omega) (x := .ref ai) (by rw [hidx]; exact ei) ?_
        walk_at "mine.steps"
        refine lcf_cell N rfl (.tail _ (.tail _ (.tail _ (.tail _ (.tail _ (.tail _ (.tail _ (.tail _ (.head _))))))))) d4' ?_ rfl rfl
        walk_at "mine.steps"
        have hgo : ∀ {p}, p ∈ own → p ∈ (I, oI) :: (Cc, oC) :: (D2, lst zs) :: (L + 1 + 1 + 1, ok') :: (pl, listOf pls.toArray kp) :: (D, lst ys) :: (L + 1 + 1 + 1 + 1 + 1, o1') :: (L + 1 + 1 + 1 + 1, o2') :: (L + 1 + 1, o4) :: (L + 1, o5) :: (42, tabObj ps) :: own :=
          fun hp => .tail _ (.tail _ (.tail _ (.tail _ (.tail _ (.tail _ (.tail _ (.tail _ (.tail _ (.tail _ (.tail _ hp))))))))))
        refine up (ahead_t (X.keeps F.keep) (T.keeps F.keep) (isL (N _ (hgo (hrs6 _ mj))).1) (isL (N _ (hgo (hrs6 _ mi))).1) (hc.at fun o e => F.keep _ o e) ij ii hic fun h7 tk7 hk7 => ?_) rfl (Nat.le_of_ble_eq_true rfl) (Nat.le_of_ble_eq_true rfl)
        replace N := News.kp N hk7
        replace F := Fr.kp F hk7
        have hS : SrcAt (s.heap.hide 42) D ys.toArray ((L + 1 + 1 + 1, ok') :: (pl, listOf pls.toArray kp) :: (D, lst ys) :: (L + 1 + 1 + 1 + 1 + 1, o1') :: (L + 1 + 1 + 1 + 1, o2') :: (L + 1 + 1, o4) :: (L + 1, o5) :: (42, tabObj ps) :: own) := .inr ⟨_, .tail _ (.tail _ (.head _)), rfl, _, rfl⟩
        walk_at "mine.steps"
        · rename_i hb
          refine nameC_L N (.tail _ (.head _)) hC hx ?_
          exact CompEnd.intro F N _ (fun p hp => hp) o3' hS ⟨rfl, by rw [List.length_append, hzl]; exact (rf_t hb).symm⟩
        · rename_i hb
          exact CompEnd.intro F N _ (fun p hp => hp) o3' hS ⟨rfl, by rw [hzl]; exact (rf_f hb).symm⟩
      · rintro les _ ⟨rfl, hles⟩ D3 h7 tk7 F N hoff3
        have hD3 := off1_mem hoff3
        dsimp only at *
        walk_at "mine.steps"
        refine LCt.Assign_ListComp_T F rfl (by rfl) (by with_unfolding_all rfl) (by decide) (by rfl) (by decide) (by rfl) (by rfl) (by rfl) ?_
        walk_at "mine.steps"
        refine cut_upto (s := { s with heap := h7, toks := _ }) F N (isL (N (D, _) (.tail _ (.tail _ (.tail _ (.head _))))).1) (by omega) (a := i) (by omega) ?_
        intro a8 h8 F N hlt8
        refine LCt.CompSrcT.ledger (k := 0) rfl F N (.head _) (by rw [sizeLine_eq]; simp; omega) fun g8 => ?_
        have hysz8 : (ys.take i).toArray.size = i := by simp; omega
        rw [hysz8]
        refine restT_inv (n := i) (fun i' zs news => news = (a8, listOf (ys.take i).toArray 0) :: (D3, lst les) :: (L + 1 + 1 + 1, ok') :: (pl, listOf pls.toArray kp) :: (D, lst ys) :: (L + 1 + 1 + 1 + 1 + 1, o1') :: (L + 1 + 1 + 1 + 1, o2') :: (L + 1 + 1, o4) :: (L + 1, o5) :: (42, tabObj ps) :: own ∧ zs.length = (likeN ws i i').length) ?_ ?_ _ 0 _ _ (by omega) ⟨rfl, rfl⟩
        · rintro j zs _ v I oI Cc oC D2 m₂ h6 tk6 E' hj6 ⟨rfl, hzl⟩ hv hC hx F N o3' ne
          obtain ⟨aj, uj, kj, ej, mj, ij⟩ := hrows.2 j (by omega)
          obtain ⟨ai, ui, ki, ei, mi, ii⟩ := hrows.2 i hi2
          obtain rfl : v = .ref aj := by
            have : (ys.take i)[j]? = some v := by simpa using hv
            rw [List.getElem?_take_of_lt hj6, ej] at this; cases this; rfl
          walk_at "mine.steps"
          refine nameC_L N (.tail _ (.head _)) hC hx ?_
          walk_at "mine.steps"
          refine lcf_cell N rfl (.tail _ (.tail _ (.tail _ (.tail _ (.tail _ (.tail _ (.tail _ (.tail _ (.tail _ (.head _)))))))))) hd3 ?_ rfl rfl
          walk_at "mine.steps"
          refine lcf_cell N rfl (.tail _ (.tail _ (.tail _ (.tail _ (.tail _ (.head _)))))) hd5 ?_ rfl rfl
          walk_at "mine.steps"
          have hidx : ((0 : Int) + (i : Int) * 1).toNat = i := by omega
          refine item_listL (isL (N (D, _) (.tail _ (.tail _ (.tail _ (.tail _ (.tail _ (.tail _ (.tail _ (.head _))))))))).1) (by omega) (by omega) (x := .ref ai) (by rw [hidx]; exact ei) ?_
          walk_at "mine.steps"
          have hgo : ∀ {p}, p ∈ own → p ∈ (I, oI) :: (Cc, oC) :: (D2, lst zs) :: (a8, listOf (ys.take i).toArray 0) :: (D3, lst les) :: (L + 1 + 1 + 1, ok') :: (pl, listOf pls.toArray kp) :: (D, lst ys) :: (L + 1 + 1 + 1 + 1 + 1, o1') :: (L + 1 + 1 + 1 + 1, o2') :: (L + 1 + 1, o4) :: (L + 1, o5) :: (42, tabObj ps) :: own :=
            fun hp => .tail _ (.tail _ (.tail _ (.tail _ (.tail _ (.tail _ (.tail _ (.tail _ (.tail _ (.tail _ (.tail _ (.tail _ (.tail _ hp))))))))))))
          refine ke_eq_ints (isL (N _ (hgo (hrs6 _ mj))).1) (isL (N _ (hgo (hrs6 _ mi))).1) ij ii (Nat.le_of_ble_eq_true rfl) ?_
          have hS : SrcAt (s.heap.hide 42) a8 (ys.take i).toArray ((a8, listOf (ys.take i).toArray 0) :: (D3, lst les) :: (L + 1 + 1 + 1, ok') :: (pl, listOf pls.toArray kp) :: (D, lst ys) :: (L + 1 + 1 + 1 + 1 + 1, o1') :: (L + 1 + 1 + 1 + 1, o2') :: (L + 1 + 1, o4) :: (L + 1, o5) :: (42, tabObj ps) :: own) := .inr ⟨_, .head _, rfl, _, rfl⟩
          walk_at "mine.steps"
          · rename_i hb
            refine nameC_L N (.tail _ (.head _)) hC hx ?_
            exact CompEnd.intro F N _ (fun p hp => hp) o3' hS ⟨rfl, by rw [List.length_append, hzl]; exact (rf_t (P := fun j => decide (turnN ws j = turnN ws i)) (by simpa using hb)).symm⟩
          · rename_i hb
            exact CompEnd.intro F N _ (fun p hp => hp) o3' hS ⟨rfl, by rw [hzl]; exact (rf_f (P := fun j => decide (turnN ws j = turnN ws i)) (by simpa using hb)).symm⟩
        · rintro lik _ ⟨rfl, hlik⟩ D4 h9 tk9 F N hoff4
          have hD4 := off1_mem hoff4
          dsimp only at *
          walk_at "mine.steps"
          have hl1 : les.length ≤ ws.length := by rw [hles]; exact Nat.le_trans (List.length_filter_le _ _) (by simp)
          have hl2 : lik.length ≤ i := by rw [hlik]; exact Nat.le_trans (List.length_filter_le _ _) (by simp)
          refine call_len_list (isL (N (D3, _) (.tail _ (.tail _ (.head _)))).1) (by simp; omega) ?_
          walk_at "mine.steps"
          refine call_len_list (isL (N (D4, _) (.head _)).1) (by simp; omega) ?_
          walk_at "mine.steps"
          have hpll := hpls.length
          have hpl4 : pls.length ≤ 64 := by rw [hpll]; simp [placesN]; omega
          refine append_led (N (pl, _) (.tail _ (.tail _ (.tail _ (.tail _ (.head _)))))).1 (by rw [sizeLine_eq]; omega) fun h10 k10 hg10 hs10 => ?_
          have F10 := Fr.put F N (.tail _ (.tail _ (.tail _ (.tail _ (.head _))))) hs10
          have N10 := News.sub N (.tail _ (.tail _ (.tail _ (.tail _ (.head _))))) hs10 hg10 (news' := (L + 1 + 1 + 1, ok') :: (pl, _) :: own) (fun p hp => by
            rcases List.mem_cons.mp hp with rfl | hp
            · exact .inr ⟨.tail _ (.tail _ (.tail _ (.head _))), fun e => by simp only [Addr] at *; omega⟩
            rcases List.mem_cons.mp hp with rfl | hp
            · exact .inl rfl
            · exact .inr ⟨.tail _ (.tail _ (.tail _ (.tail _ (.tail _ (.tail _ (.tail _ (.tail _ (.tail _ (.tail _ (.tail _ hp)))))))))), hown2 p hp⟩)
          clear F N
          walk_at "mine.steps"
          rename Fr _ _ _ _ => F
          rename News _ _ _ _ => N
          refine InvEndN.intro (nx := [(L + 1 + 1 + 1, ok'), (pl, listOf (pls ++ [Value.int (((les.toArray.size : Nat) : Int) + ((lik.toArray.size : Nat) : Int)) (tk9 + 1 + 1 + 1 + 1)]).toArray k10)]) F N ⟨ok', _, _, rfl, ⟨_, hd5⟩, ?_⟩ rfl (fun p hp => ?_) fun p hp => .tail _ (.tail _ hp)
          · rw [placesN_succ]
            refine hpls.append ?_
            have e : ((les.toArray.size : Nat) : Int) + ((lik.toArray.size : Nat) : Int) = (placeN ws bs i : Int) := by
              simp only [List.size_toArray, hles, hlik, placeN]; omega
            rw [← e]
            exact .cons _ _ .nil
          · rcases List.mem_cons.mp hp with rfl | hp
            · exact .head _
            · rw [List.mem_singleton.mp hp]; exact .tail _ (.head _)
    · rintro m₁ news₁ h tk ⟨ok, pls, kp, rfl, ⟨vok, hok⟩, hpls⟩ hadr F N
      simp only [List.cons_append, List.nil_append] at N
      walk_at "mine.steps"
      refine LCg.ListComp_U F (by with_unfolding_all rfl) (by decide) (by rfl) (by decide) (by rfl) ?_
      walk_at "mine.steps"
      refine call_len_list (isL (N (D, _) (.tail _ (.tail _ (.head _)))).1) (by simp; omega) ?_
      walk_at "mine.steps"
      refine call_range_1 ?_
      rw [hysz]
      refine LCg.CompSrc.range (n := ws.length) rfl (F.push _) (News.kp N fun b o e => Heap.get?_push_of_some _ e) (IsRange.new ..) hsm hrs (by rw [sizeLine_eq]; omega) fun g => ?_
      refine rest_inv (n := ws.length) (fun i zs news => news = (L + 1 + 1 + 1, ok) :: (pl, listOf pls.toArray kp) :: (D, lst ys) :: (L + 1 + 1 + 1 + 1 + 1, o1') :: (L + 1 + 1 + 1 + 1, o2') :: (L + 1 + 1, o4) :: (L + 1, o5) :: (42, tabObj ps) :: rs ∧ zs.length = i ∧ ∀ j < i, ∃ x, zs[j]? = some x ∧ ys[(placesN ws bs ws.length).idxOf (j : Int)]? = some x) ?_ ?_ _ 0 _ _ (by omega) ⟨rfl, rfl, fun j hj => absurd hj (Nat.not_lt_zero _)⟩
      · rintro i zs _ v I oI Cc oC D2 m₂ h6 tk6 E' hi6 ⟨rfl, hzl, hzs⟩ ⟨tv, rfl⟩ hC hx F N o3' ne
        walk_at "mine.steps"
        refine lcf_cell N rfl (.tail _ (.tail _ (.tail _ (.tail _ (.tail _ (.tail _ (.tail _ (.head _)))))))) hd3 ?_ rfl rfl
        walk_at "mine.steps"
        refine lcf_cell N rfl (.tail _ (.tail _ (.tail _ (.tail _ (.tail _ (.tail _ (.head _))))))) hd4 ?_ rfl rfl
        walk_at "mine.steps"
        refine nameC_L N (.tail _ (.head _)) hC hx ?_
        walk_at "mine.steps"
        have hp0 : (0 : Int) + (i : Int) = ((i : Nat) : Int) := by omega
        have hpl0 : (placesN ws bs ws.length).length = ws.length := by simp [placesN]
        have hmem := hperm i hi6
        have hlt : (placesN ws bs ws.length).idxOf (i : Int) < ws.length := Nat.lt_of_lt_of_eq (List.idxOf_lt_length_iff.mpr hmem) hpl0
        refine index_ints (isL (N (pl, _) (.tail _ (.tail _ (.tail _ (.tail _ (.head _)))))).1) hpls (by omega) (by rw [hp0]; exact hmem) ?_
        rw [hp0]
        obtain ⟨ai, ui, ki, ei, mi, ii⟩ := hrows.2 _ hlt
        refine item_listL (isL (N (D, _) (.tail _ (.tail _ (.tail _ (.tail _ (.tail _ (.head _))))))).1) (by omega) (by omega) (x := .ref ai) (by rw [Int.toNat_natCast]; exact ei) ?_
        refine CompEnd.intro F N _ (fun p hp => hp) o3' trivial ⟨rfl, by simp [hzl], fun j hj => ?_⟩
        rcases Nat.lt_succ_iff_lt_or_eq.mp hj with hj | rfl
        · obtain ⟨x, e1, e2⟩ := hzs j hj
          exact ⟨x, by rw [List.getElem?_append_left (by omega)]; exact e1, e2⟩
        · exact ⟨.ref ai, by rw [List.getElem?_append_right (by omega), hzl]; simp, ei⟩
      · rintro zs _ ⟨rfl, hzl, hzs⟩ D2 h6 tk6 F N hoff2
        dsimp only at *
        have h42 := (N (42, tabObj ps) (.tail _ (.tail _ (.tail _ (.tail _ (.tail _ (.tail _ (.tail _ (.tail _ (.head _)))))))))).1
        have un : ∀ {b : Addr} {o : Obj}, (s.heap.hide 42).get? b = none → h6.get? b = some o → o.data ≠ (tabObj ps).data → s.heap.get? b = none := fun {b o} hb ho hne => by
          have hb42 : b ≠ 42 := fun q => hne (by rw [q] at ho; rw [h42] at ho; cases ho; rfl)
          rw [← hb, Heap.hide_ne _ hb42]
        refine hQ D2 zs _ h6 tk6 (fun b o e => ?_) (un (N _ (.head _)).2.2 (N _ (.head _)).1 fun q => by cases q) (N _ (.head _)).1 hzl fun p hp => ?_
        · by_cases hb : b = 42
          · subst hb
            rw [hps] at e
            cases e
            exact h42
          · exact F.keep b o ((Heap.hide_ne _ hb).trans e)
        · have hpl0 : (placesN ws bs ws.length).length = ws.length := by simp [placesN]
          have hlt : (placesN ws bs ws.length).idxOf (p : Int) < ws.length := Nat.lt_of_lt_of_eq (List.idxOf_lt_length_iff.mpr (hperm p hp)) hpl0
          obtain ⟨ai, ui, ki, ei, mi, ii⟩ := hrows.2 _ hlt
          obtain ⟨x, e1, e2⟩ := hzs p hp
          rw [ei] at e2
          cases e2
          have g := N _ (.tail _ (.tail _ (.tail _ (.tail _ (.tail _ (.tail _ (.tail _ (.tail _ (.tail _ mi)))))))))
          exact ⟨ai, ui, ki, e1, g.1, ii, un g.2.2 g.1 fun q => by cases q⟩
end Mine
end TTa

section TG8
open PySem PySem.W PyProof.Rows PySem.Calls
set_option maxRecDepth 100000
set_option maxHeartbeats 8000000
namespace Mine
theorem wG_forLoop {prog : Program} {w : World} {A : Around} {target : Expr} {it : Value} {body : List Stmt} {env : Env} {R : Result → Shared → Prop} (I : Nat → Shared → Prop)
    (turn : ∀ n s Γ', I n s → Γ'.In A → Clean Γ' → wpAny (model prog w) A (pyNext it) (fun r s₁ => match r with
      | none => R (.ok .next) s₁
      | some v => wpAny (model prog w) A (letOwnedTupleGo target it v) (fun _ s₁' => wpAny (model prog w) A (assign target env v) (fun _ s₂ => wG (model prog w) Γ' (execs body env) (fun f s₃ => match f with
            | .next | .cont => ∃ m, m < n ∧ I m s₃
            | .brk => R (.ok .next) s₃
            | .ret v => R (.ok (.ret v)) s₃) (fun _ _ => False) s₂) (fun _ _ => False) s₁') (fun _ _ => False) s₁) (fun _ _ => False) s) :
    ∀ n s Γ, Γ.code = .forLoop target it body [] env → Γ.Below A → Clean Γ → I n s → ∀ p, wpCode (model prog w) Γ R p s := by
  intro n
  induction n using Nat.strongRecOn with
  | ind n ih =>
    intro s Γ hc hB hcl hI
    have hΓ : Γ.In A := by
      have := hB.in
      rw [hc] at this
      exact this
    refine codeGG hc ?_
    show wG _ _ ((forTurn target it body [] env).onRaise (fun x => do noteFrame x env; theTreesLotGoes x)) _ _ s
    refine wG.onRaise ?_
    simp only [forTurn]
    refine wG.bindA hΓ (wpAny_standAt ?_)
    refine wG.bindA hΓ (wpAny_onRaise (wpAny_mono (turn n s Γ hI hΓ hcl) (fun r s₁ h₁ => ?_) fun _ _ h' => h'.elim))
    cases r with
    | none =>
      refine wG.pure ⟨rfl, fun p' => ?_⟩
      exact (codeAny_block (prog := prog) (w := w) (A := A) (env := env) (R := R) (s := s₁) (wpAny_execs_nil h₁)) _ p' rfl (hB.goto _)
    | some v =>
      refine wG.bindA hΓ (wpAny_mono h₁ (fun _ s₁' h₁' => ?_) fun _ _ h' => h'.elim)
      refine wG.bindA hΓ (wpAny_mono h₁' (fun _ s₂ h₂ => ?_) fun _ _ h' => h'.elim)
      refine wG.bind (wG.mono h₂ (fun f s₃ h₃ => ?_) fun _ _ h' => h')
      cases f with
      | next =>
        obtain ⟨m, hm, hI'⟩ := h₃
        exact wG.pure ⟨rfl, fun p' => ih m hm s₃ _ rfl (hB.goto _) (hcl.goto rfl) hI' p'⟩
      | cont =>
        obtain ⟨m, hm, hI'⟩ := h₃
        exact wG.pure ⟨rfl, fun p' => ih m hm s₃ _ rfl (hB.goto _) (hcl.goto rfl) hI' p'⟩
      | brk => exact wG.pure h₃
      | ret v => exact wG.pure h₃
def TurnG (prog : Program) (w : World) (A : Around) (target : Expr) (env : Env) (body : List Stmt) (Q : Flow → Shared → Prop) (it : Value) (s₂ : Shared) : Prop :=
  ∃ (I : Nat → Shared → Prop) (n : Nat), I n s₂ ∧
      ∀ n s Γ', I n s → Γ'.In A → Clean Γ' → wpAny (model prog w) A (pyNext it) (fun r s₁ => match r with
      | none => Q .next s₁
      | some v => wpAny (model prog w) A (letOwnedTupleGo target it v) (fun _ s₁' => wpAny (model prog w) A (assign target env v) (fun _ s₂ => wG (model prog w) Γ' (execs body env) (fun f s₃ => match f with
            | .next | .cont => ∃ m, m < n ∧ I m s₃
            | .brk => Q .next s₃
            | .ret v => Q (.ret v) s₃) (fun _ _ => False) s₂) (fun _ _ => False) s₁') (fun _ _ => False) s₁) (fun _ _ => False) s
theorem wG_For {prog : Program} {w : World} {A : Around} {Γ : Ctx} {target iter : Expr} {body : List Stmt} {pos : Pos} {env : Env} {Q : Flow → Shared → Prop} {s : Shared} (hΓ : Γ.In A) (hcl : Clean Γ) (hh : A.handled = none)
    (h : wpAny (model prog w) A (eval iter env) (fun xv s₁ => wpAny (model prog w) A (pyIter xv) (fun it s₂ => TurnG prog w A target env body Q it s₂) (fun _ _ => False) s₁) (fun _ _ => False) s)
    (hs : ∀ x, foldedSetIterable iter env x = pure x := by intro _; rfl) :
    wG (model prog w) Γ (exec (.For target iter body [] pos) env) Q (fun _ _ => False) s := by
  rw [arm_exec_For]
  refine wG.bindA hΓ (wpAny_standAt (wG.bindA hΓ (wpAny_mono h (fun xv s₁ h₁ => wG.bindA hΓ (wpAny_of_eq (hs xv) (wG.bindA hΓ (wpAny_standAt (wG.bindA hΓ (wpAny_holding (wpAny_mono h₁ (fun it s₂ h₂ => ?_) fun _ _ x => x))))))) fun _ _ x => x)))
  obtain ⟨I, n, h0, turn⟩ := h₂
  unfold runOwn
  refine wG.onRaise (wG_run fun p => ?_)
  refine wG_forLoop (A := A) (R := fun r s' => match r with | .ok f => Q f s' | .error e => False) I (fun n s Γ' hI hi hc => wpAny_mono (turn n s Γ' hI hi hc) (fun r s₁ h₁ => by cases r <;> exact h₁) fun _ _ x => x) n s₂ _ rfl ?_ (hcl.enter rfl) h0 p
  have := hΓ.enter (.forLoop target it body [] env) none p (by intro x; cases x)
  rw [mark_none hh] at this
  exact this
theorem rangeG {prog : Program} {w : World} {A : Around} {s : Shared} {env : Env} {h₀ : Heap} {x : Str} {px : Pos} {body : List Stmt} {Q : Flow → Shared → Prop}
    {r : Addr} {a b c : Int} {t u v : Tok} {n : Nat} {m₀ : Str → Option Value} {news : List (Addr × Obj)}
    (hh : A.handled = none) (hr : IsRange s.heap r a b c t u v) (hsmall : Builtin.Range.small a b c = true) (hn : Builtin.Range.rangeSize a b c = (n : Int)) (F : Fr h₀ env.locals s.heap m₀) (N : News h₀ env.locals s.heap news)
    (J : Nat → (Str → Option Value) → List (Addr × Obj) → Prop) (hj : J 0 m₀ news)
    (turn : ∀ i t₁ m₁ news₁ h tk I oI Γ', i < n → Γ'.In A → Clean Γ' → (∀ p ∈ news₁, p.1 ≠ I) → J i m₁ news₁ → Fr h₀ env.locals h m₁ → News h₀ env.locals h (news₁ ++ [(I, oI)]) →
      wpAny (model prog w) A (assign (.Name x px) env (.int (a + i * c) t₁)) (fun _ s₂ => wG (model prog w) Γ' (execs body env) (PostG h₀ env.locals (J (i + 1)) (I, oI) { s with heap := h, toks := tk } Q) (fun _ _ => False) s₂) (fun _ _ => False) { s with heap := h, toks := tk })
    (done : ∀ m₁ news₁ h tk, J n m₁ news₁ → Fr h₀ env.locals h m₁ → News h₀ env.locals h news₁ → Q .next { s with heap := h, toks := tk }) :
    wpAny (model prog w) A (pyIter (.ref r)) (fun it s₂ => TurnG prog w A (.Name x px) env body Q it s₂) (fun _ _ => False) s := by
  have lL : env.locals < s.heap.objs.size := F.ns.lt
  refine wpAny_pyIter_range hr hsmall ?_
  have old : h₀.get? s.heap.objs.size = none := Heap.get?_none_of_le (Nat.le_trans F.above (Nat.le_of_lt lL))
  have W := Walks.range (prog := prog) (w := w) hh s.heap.objs.size a c n
  refine ⟨fun k s' => ∃ i h tk m₁ news₁, k = n + 1 - i ∧ i ≤ n ∧ s' = { s with heap := h, toks := tk } ∧ J i m₁ news₁ ∧ Fr h₀ env.locals h m₁ ∧ News h₀ env.locals h news₁ ∧ IsRangeIter h s.heap.objs.size (a + i * c) (n - i) c ∧ (∀ p ∈ news₁, p.1 ≠ s.heap.objs.size), n + 1,
    ⟨0, _, _, m₀, news, rfl, Nat.zero_le _, rfl, hj, F.push _, fun p hp => ⟨Heap.get?_push_of_some _ (N p hp).1, (N p hp).2⟩, ?_, fun p hp => Nat.ne_of_lt (Heap.lt_size (N p hp).1)⟩, ?_⟩
  · have e1 : a + ((0 : Nat) : Int) * c = a := by simp
    have e2 : (n : Int) - ((0 : Nat) : Int) = n := by simp
    rw [e1, e2, ← hn]
    exact Heap.get?_push_size _ rfl
  · rintro k s' Γ' ⟨i, h, tk, m₁, news₁, rfl, hi, rfl, hJ, F₁, N₁, hI, hoff⟩ hΓ' hcl'
    have hLI : env.locals ≠ s.heap.objs.size := Nat.ne_of_lt lL
    by_cases hlt : i < n
    · refine W.item i _ _ _ hlt hI fun v h' tk' hv hI' hk => ?_
      obtain ⟨t₁, rfl⟩ := hv
      refine wpAny_pure ?_
      obtain ⟨oI, hoI⟩ : ∃ oI, h'.get? s.heap.objs.size = some oI := ⟨_, hI'⟩
      have hk' : ∀ b o, b ≠ s.heap.objs.size → h.get? b = some o → h'.get? b = some o := fun b o hb e => hk b o (fun hm => hb (List.mem_singleton.mp hm)) e
      have F₂ : Fr h₀ env.locals h' m₁ := ⟨F₁.ns.at' fun o e => hk' _ o hLI e, fun b o e => hk' b o (fun q => by rw [q, old] at e; cases e) (F₁.keep b o e), F₁.above⟩
      have N₂ : News h₀ env.locals h' (news₁ ++ [(s.heap.objs.size, oI)]) := fun p hp => by
        rcases List.mem_append.mp hp with hp | hp
        · exact ⟨hk' _ _ (hoff p hp) (N₁ p hp).1, (N₁ p hp).2⟩
        · rw [List.mem_singleton.mp hp]; exact ⟨hoI, hLI.symm, old⟩
      refine wpAny_mono (turn i t₁ m₁ news₁ h' tk' s.heap.objs.size oI Γ' hlt hΓ' hcl' hoff hJ F₂ N₂) (fun _ s₂ h₂ => wG.mono h₂ (fun f s₃ h₃ => ?_) fun _ _ x => x) fun _ _ x => x
      have fin : (∃ h'' tk'' m' news', s₃ = { ({ s with heap := h', toks := tk' } : Shared) with heap := h'', toks := tk'' } ∧ Fr h₀ env.locals h'' m' ∧ News h₀ env.locals h'' (news' ++ [(s.heap.objs.size, oI)]) ∧ (∀ p ∈ news', p.1 ≠ s.heap.objs.size) ∧ J (i + 1) m' news') →
          ∃ m, m < n + 1 - i ∧ ∃ i h tk m₁ news₁, m = n + 1 - i ∧ i ≤ n ∧ s₃ = { s with heap := h, toks := tk } ∧ J i m₁ news₁ ∧ Fr h₀ env.locals h m₁ ∧ News h₀ env.locals h news₁ ∧ IsRangeIter h s.heap.objs.size (a + i * c) (n - i) c ∧ (∀ p ∈ news₁, p.1 ≠ s.heap.objs.size) := by
        rintro ⟨h'', tk'', m', news', e, F', N', hn', hJ'⟩
        refine ⟨n + 1 - (i + 1), by omega, i + 1, h'', tk'', m', news', rfl, hlt, e, hJ', F', fun p hp => N' p (List.mem_append_left _ hp), ?_, hn'⟩
        have e1 := (N' (s.heap.objs.size, oI) (List.mem_append_right _ (.head _))).1
        show h''.get? s.heap.objs.size = _
        exact e1.trans (hoI.symm.trans hI')
      cases f with
      | ret v => exact h₃
      | brk => exact h₃
      | next => exact fin h₃
      | cont => exact fin h₃
    · have hin : i = n := by omega
      subst hin
      refine W.done _ _ _ hI fun h' tk' hk => ?_
      have hk' : ∀ b o, b ≠ s.heap.objs.size → h.get? b = some o → h'.get? b = some o := fun b o hb e => hk b o (fun hm => hb (List.mem_singleton.mp hm)) e
      exact done m₁ news₁ h' tk' hJ ⟨F₁.ns.at' fun o e => hk' _ o hLI e, fun b o e => hk' b o (fun q => by rw [q, old] at e; cases e) (F₁.keep b o e), F₁.above⟩ fun p hp => ⟨hk' _ _ (hoff p hp) (N₁ p hp).1, (N₁ p hp).2⟩
end Mine
end TG8

section TY5
open PySem PySem.W PyProof.Rows PySem.Calls
set_option maxRecDepth 100000
set_option maxHeartbeats 8000000
namespace Mine
theorem bytes_len_look : typeLookup (.type "bytes") "__len__" = pure (some (.builtin "bytes.__len__")) := by rw [typeLookup_type, builtinLookup_eq_fast]; kernel_rfl
section
variable {prog : Program} {w : World} {A : Around} {E : Value → Shared → Prop} {s : Shared}
def ByteAt (x : Array UInt8) (i : Nat) (v : Value) : Prop := ∃ c t, x[i]? = some c ∧ v = .int (c.toNat : Int) t
theorem wpAny_extend_bytes {R : Result → Shared → Prop} (hh : A.handled = none) (x : Array UInt8) (t : Tok) (S : Addr) (res : Value) (c₀ : Nat) (hS : s.heap.get? S = some { cls := .type "list", data := .seq #[] c₀ })
    (hR : ∀ h' tk acc' c', (∀ b o, b ≠ S → s.heap.get? b = some o → h'.get? b = some o) → h'.get? S = some { cls := .type "list", dict := none, data := .seq acc' c', slots := #[] } →
      ItemsOf (ByteAt x) acc' x.size → R (.ok (.ret res)) { s with heap := h', toks := tk }) (hn : x.size ≤ sizeLine) :
    wpAny (model prog w) A.in1 (Builtin.List.listExtendWith (.ref S) (.bytes x t) res)
      (fun fin s' => match fin with | .done f => R (.ok f) s' | .again c' => c'.quiet = true ∧ codeAny (model prog w) A c' R s') (fun e s' => R (.error e) s') s := by
  have hSI : S ≠ s.heap.objs.size := Nat.ne_of_lt (Heap.lt_size hS)
  have hSf : S ∉ [s.heap.objs.size] := fun hm => hSI (List.mem_singleton.mp hm)
  unfold Builtin.List.listExtendWith
  refine wpAny_bind (wpAny_typeOf (T := "bytes") (v := .bytes x t) rfl ?_)
  have h1 : Builtin.List.listSameRef (.ref S) (.bytes x t) = false := rfl
  have h2 : (Value.type "bytes" == Value.type "list") = false := by decide
  have h3 : (Value.type "bytes" == Value.type "tuple") = false := by decide
  simp only [h1, h2, h3, Bool.or_false, Bool.false_eq_true, if_false]
  refine wpAny_bind (KBw.pyIter_bytes ?_)
  refine wpAny_bind (wpAny_holding ?_)
  unfold Builtin.List.listLengthHint
  refine wpAny_bind (wpAny_specialOf (T := "bytes") (v := .bytes x t) rfl bytes_len_look ?_)
  wp_delta
  refine wpAny_bind (wpAny_isInstance (T := "bytes") (v := .bytes x t) (b := true) rfl (by rw [isSubtype_type]; kernel_rfl) ?_)
  show wpAny _ _ (typeOf (Value.bytes x t) >>= _) _ _ _
  refine wpAny_bind (wpAny_typeOf (T := "bytes") (v := .bytes x t) rfl ?_)
  refine wpAny_pure ?_
  rw [if_neg (by decide)]
  have W := KBw.walks (prog := prog) (w := w) (A := A.in1) hh s.heap.objs.size x t
  refine wpAny_pure ⟨plainId_quiet F.plain_extend_loop _, codeAny_extend_loopS W.toS hn _ hSf _ x.size 0 _ _ _ rfl (Nat.zero_le _) ⟨_, Heap.get?_push_size _ rfl, rfl, rfl⟩ (Heap.get?_push_of_some _ hS) (ItemsOf.nil _) fun s' acc' c' hm hS' hacc => ?_⟩
  rw [Moved.eq_with hm]
  refine hR s'.heap s'.toks acc' c' (fun b ob hb e => hm.heap b ob (fun hmem => ?_) (Heap.get?_push_of_some _ e)) hS' hacc
  rcases List.mem_cons.mp hmem with e' | hmem
  · exact hb e'
  · exact absurd (Heap.lt_size e) (by rw [List.mem_singleton.mp hmem]; exact Nat.lt_irrefl _)
theorem wpAny_list_init_bytes {R : Result → Shared → Prop} (hh : A.handled = none) (x : Array UInt8) (t : Tok) (S : Addr) (hS : s.heap.get? S = some { cls := .type "list", data := .seq #[] })
    (hR : ∀ h' tk acc' c', (∀ b o, b ≠ S → s.heap.get? b = some o → h'.get? b = some o) → h'.get? S = some { cls := .type "list", dict := none, data := .seq acc' c', slots := #[] } →
      ItemsOf (ByteAt x) acc' x.size → R (.ok (.ret .none)) { s with heap := h', toks := tk }) (hn : x.size ≤ sizeLine) :
    wpAny (model prog w) A.in1 (Builtin.«list.__init__» ⟨[.ref S, .bytes x t], []⟩)
      (fun fin s' => match fin with | .done f => R (.ok f) s' | .again c' => c'.quiet = true ∧ codeAny (model prog w) A c' R s') (fun e s' => R (.error e) s') s := by
  show wpAny _ _ (do let old ← Builtin.List.listItems (.ref S); Builtin.List.listUpdate (.ref S) (fun _ => #[]); letGo old.toList.reverse; Builtin.List.listExtendWith (.ref S) (.bytes x t) .none) _ _ s
  refine wpAny_bind ?_
  unfold Builtin.List.listItems
  refine wpAny_bind (wpAny_seqItems hS rfl (wpAny_pure ?_))
  show wpAny _ _ (updateSeq S (fun _ => #[]) >>= fun _ => letGo (#[] : Array Value).toList.reverse >>= fun _ => Builtin.List.listExtendWith (.ref S) (.bytes x t) .none) _ _ s
  refine wpAny_bind (wpAny_updateSeq hS rfl ?_)
  have hS₂ := Heap.get?_update_self (Obj.mapSeq (fun _ => (#[] : Array Value))) hS rfl
  have oth : ∀ b o, b ≠ S → s.heap.get? b = some o → (s.heap.update S (Obj.mapSeq (fun _ => (#[] : Array Value)))).get? b = some o :=
    fun b o hb e => (Heap.get?_update_other _ _ (Ne.symm hb)).trans e
  refine wpAny_bind (wpAny_letGo ?_)
  refine wpAny_extend_bytes (hn := hn) hh x t S .none _ hS₂ fun h' tk acc' c' hk hS' hacc => ?_
  exact hR h' tk acc' c' (fun b o hb e => hk b o hb (oth b o hb e)) hS' hacc
theorem ints_of_at : ∀ {vs : List Value} {ns : List Int}, vs.length = ns.length → (∀ (i : Nat) (v : Value), vs[i]? = some v → ∃ n t, v = Value.int n t ∧ ns[i]? = some n) → IntsAre vs ns
  | [], [], _, _ => .nil
  | v :: vs, n :: ns, hl, h => by
    obtain ⟨n', t, rfl, e⟩ := h 0 v rfl
    cases e
    exact .cons n t (ints_of_at (by simpa using hl) fun i w hw => h (i + 1) w (by simpa using hw))
theorem call_list_bytes {Q : Value → Shared → Prop} (hh : A.handled = none) (x : Array UInt8) (t : Tok) (hn : x.size ≤ 4096)
    (hQ : ∀ h' tk vs c', Kp s.heap h' → h'.get? s.heap.objs.size = some (listOf vs.toArray c') → IntsAre vs (KBw.bInts x) → Q (.ref s.heap.objs.size) { s with heap := h', toks := tk }) :
    wpAny (model prog w) A (call (.type "list") [.bytes x t]) Q E s := by
  refine callType_codes (Q₁ := fun obj s₁ => obj = .ref s.heap.objs.size ∧ s₁ = { s with heap := s.heap.push { cls := .type "list", data := .seq #[] } }) F.called_list (F.typeCall_list_1 _) F.entry_list_init
    (code_list_new _ ⟨rfl, rfl⟩) fun obj s₁ h₁ => ?_
  obtain ⟨rfl, rfl⟩ := h₁
  have hS : (s.heap.push { cls := .type "list", data := .seq #[] }).get? s.heap.objs.size = some { cls := .type "list", data := .seq #[] } := Heap.get?_push_size _ rfl
  refine ⟨⟨_, hS, rfl⟩, F.args_list_init_2 _ _, wpAny_list_init_bytes (A := A.in1) (hn := by rw [sizeLine_eq]; omega) hh x t _ hS fun h' tk acc' c' hk hS' hacc => ?_⟩
  refine ⟨rfl, hQ h' tk acc'.toList c' (fun b o e => hk b o (Nat.ne_of_lt (Heap.lt_size e)) (Heap.get?_push_of_some _ e)) (by simpa using hS') (ints_of_at ?_ fun i v hv => ?_)⟩
  · rw [KBw.ints_length]; simpa using hacc.1
  · obtain ⟨c, u, e1, e2⟩ := hacc.2 i v (by simpa using hv)
    exact ⟨_, u, e2, KBw.ints_get e1⟩
end
end Mine
end TY5

section TG9
open PySem PySem.W PyProof.Rows PySem.Calls
set_option maxRecDepth 100000
set_option maxHeartbeats 8000000
namespace Mine
section
variable {M : Model} {A : Around} {Γ : Ctx} {E : Value → Shared → Prop} {s : Shared} {env : Env}
theorem In.up {d u : Nat} (hΓ : Γ.In A) (hh : A.handled = none) (hd : A.depth ≤ d) (hu : A.units ≤ u) : Γ.In (Ar d u) :=
  ⟨hΓ.1.trans hh, Nat.le_trans hΓ.2.1 hd, fun _ e => (nomatch e), fun _ e => (nomatch e), Nat.le_trans hΓ.2.2.2.2 hu⟩
theorem wG_If {test : Expr} {body orelse : List Stmt} {pos : Pos} {Q : Flow → Shared → Prop} (hΓ : Γ.In A)
    (h : wpAny M A (isTrue test env (eval test env)) (fun ok s₁ => if ok = true then wG M Γ (execs body env) Q E s₁ else wG M Γ (execs orelse env) Q E s₁) E s) :
    wG M Γ (exec (.If test body orelse pos) env) Q E s := by
  rw [arm_exec_If]
  refine wG.bindA hΓ (wpAny_standAt (wG.bindA hΓ (wpAny_mono h (fun ok s₁ h₁ => ?_) fun _ _ x => x)))
  cases ok with
  | true => exact h₁
  | false => exact h₁
theorem wG_execs_nil {Q : Flow → Shared → Prop} (h : Q .next s) : wG M Γ (execs [] env) Q E s := fun p => by
  show Sem.wp M Γ (execs [] env) _ _ p s
  rw [show execs [] env = pure .next from rfl]
  exact h
/-- a call of a type with one argument, the argument at the context -/
theorem wG_callWith_T1 {T : String} {pos : Pos} {e : Expr} {Q : Value → Shared → Prop} (hΓ : Γ.In A)
    (h : wG M Γ (eval e env) (fun v s₁ => wG M Γ (call (.type T) [v]) Q E s₁) E s)
    (he : starEach [e] env = [(false, eval e env)] := by rfl) :
    wG M Γ (callWith pos (.type T) [] (backTo pos (starEach [e] env)) []) Q E s := by
  rw [he]
  show wG M Γ (callWith pos (.type T) [] [(false, eval e env)] []) Q E s
  unfold callWith
  have hargs : wG M Γ (evalArgs (.type T) true [(false, eval e env)] []) (fun a s₁ => wG M Γ (call (.type T) ([] ++ a.pos) a.kw) Q E s₁) E s := by
    unfold evalArgs
    show wG M Γ (spliced [(false, eval e env)] >>= _) _ E s
    refine wG.bind ?_
    show wG M Γ (eval e env >>= _) _ E s
    refine wG.bind (wG.mono h (fun v s₁ h₁ => ?_) fun _ _ x => x)
    refine wG.bindA hΓ (wpAny_pure (wG.bindA hΓ (wpAny_holding (wpAny_pure (wG.pure ?_)))))
    refine wG.any hΓ (wpAny_holding ?_)
    exact wpAny_bind (wpAny_pure (wpAny_bind (wpAny_pure (wpAny_pure h₁))))
  refine wG.bind (wG.holding (wG.mono hargs (fun a s₁ h₁ => ?_) fun _ _ x => x))
  refine wG.bindA hΓ (wpAny_standAt ?_)
  have L : Looks M s₁.heap (keeperOf (.type T)) Keeper.machine := Looks.of_pure rfl
  refine wG.bindA hΓ (L.here ?_)
  have tail : ∀ {t : Sem Value}, wG M Γ t Q E s₁ → wG M Γ (t >>= fun r => holding [r] point >>= fun _ => pure r) Q E s₁ :=
    fun ht => wG.bind (wG.mono ht (fun r s₂ hr => wG.bindA hΓ (wpAny_holding (wpAny_point (wG.pure hr)))) fun _ _ x => x)
  have marked (mk : Value) : wG M Γ (callMarked mk (.type T) ([] ++ a.pos) a.kw) Q E s₁ := by unfold callMarked; exact wG.keep h₁
  dsimp only
  first | exact tail h₁ | (split <;> first | exact tail h₁ | exact tail (marked _))
end
end Mine
end TG9

section TG10
open PySem PySem.W PyProof.Rows PySem.Calls
set_option maxRecDepth 100000
set_option maxHeartbeats 8000000
namespace Mine
theorem extend_led {prog : Program} {w : World} {A : Around} {E : Value → Shared → Prop} {s : Shared} {a b : Addr} {items its2 : List Value} {k k2 : Nat} {Q : Value → Shared → Prop} (hg : s.heap.get? a = some (listOf items.toArray k)) (hb : s.heap.get? b = some (listOf its2.toArray k2)) (hz : items.length + its2.length ≤ 4096)
    (h : ∀ h' k', h'.get? a = some (listOf (items ++ its2).toArray k') → Heap.SameBut a s.heap h' → Q .none { s with heap := h' }) : wpAny (model prog w) A (call (.builtin "list.extend") [.ref a, .ref b]) Q E s := by
  have hs : items.toArray.size + its2.toArray.size ≤ sizeLine := by rw [sizeLine_eq]; simp; omega
  refine call_meets PySem.F.slot_list_extend ⟨_, hg, rfl⟩ PySem.F.entry_list_extend (PySem.F.args_list_extend_2 _ _) (AutoSeq1.list_extend_list_list_0 a items.toArray k b its2.toArray k2 (extend_door hs) (Nat.le_trans (Nat.le_add_right _ _) hs) (Nat.le_succ_of_le hs)) ⟨hg, hb, ?_⟩
  have e : items.toArray ++ its2.toArray = (items ++ its2).toArray := by simp
  have ho' : (s.heap.update a (Obj.mapSeq fun x => x ++ its2.toArray)).get? a = some (W.listOf (items ++ its2).toArray (if (items.toArray ++ its2.toArray).size == items.toArray.size then k else k + 1)) := by
    rw [Heap.get?_update_self _ hg rfl, ← e]
    rfl
  exact h _ _ ho' (Heap.SameBut.update ..)
theorem rev_bytes {ns : List Int} {R : Array UInt8} (hs : R.size = (byteArr ns).size) (h : ∀ k < 1, ∀ j < ns.length, R[k * ns.length + (ns.length - 1 - j)]? = (byteArr ns)[k * ns.length + j]?) : R = byteArr ns.reverse := by
  rw [byteArr_size] at hs
  apply Array.ext
  · rw [byteArr_size]; simpa using hs
  · intro i h1 h2
    have hi : i < ns.length := by omega
    have := h 0 (by omega) (ns.length - 1 - i) (by omega)
    rw [Nat.zero_mul, Nat.zero_add, Nat.zero_add, show ns.length - 1 - (ns.length - 1 - i) = i by omega, Array.getElem?_eq_getElem h1] at this
    have e : (byteArr ns)[ns.length - 1 - i]? = some ((byteArr ns.reverse)[i]) := by
      simp only [byteArr, List.getElem_toArray, List.getElem?_toArray, List.getElem?_map, List.getElem_map, List.getElem_reverse]
      rw [List.getElem?_eq_getElem (by omega)]
      rfl
    rw [e] at this
    exact Option.some.inj this
end Mine
end TG10

section TLa
open PySem PySem.W PyProof.Rows PySem.Calls
set_option maxRecDepth 100000
set_option maxHeartbeats 8000000
namespace Mine
theorem fillL : (PySem.Challenge.rw_pk0011_01 = PySem.Challenge.rw_pk0011_01) ∧ hd.heap_39 = hd.heap_39 := by
  k_fill
  exact ⟨rfl, rfl⟩
local macro_rules | `(tactic| walk_at "eval Name") => `(tactic| (k_here; k_dflt (refine' nameX_L ?k1 ?k2 ?_; (case k1 => k_asm); (case k2 => assumption); k_whole)))
local macro_rules | `(tactic| walk_at "mine.steps") => `(tactic| repeat' (first | ((fail_if_success (with_reducible show wpAny _ _ (exec (Stmt.For _ _ _ _ _) _) _ _ _)); (fail_if_success (with_reducible show wG _ _ _ _ _ _)); (fail_if_success (with_reducible show wpAny _ _ (eval (Expr.IfExp _ _ _ _) _) _ _ _)); (fail_if_success (with_reducible show wpAny _ _ (call (Value.type _) _) _ _ _)); (fail_if_success (with_reducible show wpAny _ _ (call (Value.builtin _) _) _ _ _)); (fail_if_success (with_reducible show wpAny _ _ (call (Value.ref 47) _) _ _ _)); (fail_if_success (with_reducible show wpAny _ _ (compareOp _ (Value.ref _) (Value.ref _)) _ _ _)); (fail_if_success (with_reducible show wpAny _ _ (subscriptTail _ _ _ _) _ _ _)); first | walk1 | (dsimp only; walk1))))
def thingsN (n : Nat) (rb : Bool) : List Int := if rb then (List.range n).map (fun k : Nat => (k : Int)) else ((List.range n).map (fun k : Nat => (k : Int))).reverse
theorem hideL' {h : Heap} {a : Addr} {xs ps : Array Value} (hp : h.get? 42 = some (tabObj ps)) (x : h.IsList a xs) : (h.hide 42).IsList a xs := x.at fun o e => (Heap.hide_ne _ (fun q => by
  obtain ⟨o', e1, e2, _⟩ := x
  subst q
  rw [e1] at hp
  cases hp
  cases e2)).trans e
theorem list_range_led {prog : Program} {w : World} {A : Around} {E : Value → Shared → Prop} {s : Shared} {h₀ : Heap} {L r : Addr} {m : Str → Option Value} {news : List (Addr × Obj)} {b : Int} {t u v : Tok} {n : Nat} {Q : Value → Shared → Prop} (hh : A.handled = none)
    (F : Fr h₀ L s.heap m) (N : News h₀ L s.heap news) (hr : IsRange s.heap r 0 b 1 t u v) (hb : b = (n : Int)) (hn : n ≤ 4096)
    (h : ∀ a' k' h' tk zs, Fr h₀ L h' m → News h₀ L h' ((a', listOf zs.toArray k') :: news) → (∀ p ∈ news, p.1 < a') → IntsAre zs ((List.range n).map (fun k : Nat => (k : Int))) → Q (.ref a') { s with heap := h', toks := tk }) : wpAny (model prog w) A (call (.type "list") [.ref r]) Q E s := by
  subst hb
  have hrs : Builtin.Range.rangeSize 0 (n : Int) 1 = ((n : Nat) : Int) := rangeSize_pos (by omega) (by simp)
  refine call_list_range hh hr (small_pos (by omega) hrs (by omega) (by omega) (by omega) (by omega) (by omega) (by omega)) hrs (by omega) fun h' tk acc c' hk hg hacc => ?_
  refine h _ c' h' tk acc.toList (Fr.kp F hk) (News.add F N hk (Nat.le_refl _) (by simpa using hg)) (News.lt N (Nat.le_refl _)) (ints_of_at (by simp [hacc.1]) fun i v hv => ?_)
  obtain ⟨t', e⟩ := hacc.2 i v (by simpa using hv)
  have hi : i < n := by
    have := (List.getElem?_eq_some_iff.mp hv).1
    simpa [hacc.1] using this
  exact ⟨(i : Int), t', by rw [e]; congr 1; omega, by simp [hi]⟩
def lotN (sg th : List Int) : Nat → List Int
  | 0 => th.filter (partP sg 0)
  | 1 => (th.filter fun n => !partP sg 0 n).filter (partP sg 1)
  | _ => (th.filter fun n => !partP sg 0 n).filter fun n => !partP sg 1 n
theorem lotN_sub {sg th : List Int} {i : Nat} : ∀ n ∈ lotN sg th i, n ∈ th := by
  intro n hn
  match i, hn with
  | 0, hn => exact (List.mem_filter.mp hn).1
  | 1, hn => exact (List.mem_filter.mp (List.mem_filter.mp hn).1).1
  | _ + 2, hn => exact (List.mem_filter.mp (List.mem_filter.mp hn).1).1
theorem lotN_len {sg th : List Int} {i : Nat} : (lotN sg th i).length ≤ th.length := by
  match i with
  | 0 => exact List.length_filter_le _ _
  | 1 => exact Nat.le_trans (List.length_filter_le _ _) (List.length_filter_le _ _)
  | _ + 2 => exact Nat.le_trans (List.length_filter_le _ _) (List.length_filter_le _ _)
def turnedN (sg bs : List Int) (rb : Bool) (th : List Int) (i : Nat) : List Int := if decide (((i : Nat) : Int) ∈ bs) = rb then (lotN sg th i).reverse else lotN sg th i
def laidN (sg bs : List Int) (rb : Bool) (th : List Int) : Nat → List Int
  | 0 => []
  | i + 1 => laidN sg bs rb th i ++ turnedN sg bs rb th i
theorem turnedN_len {sg bs th : List Int} {rb : Bool} {i : Nat} : (turnedN sg bs rb th i).length ≤ th.length := by
  unfold turnedN
  split
  · rw [List.length_reverse]; exact lotN_len
  · exact lotN_len
theorem laidN_len {sg bs th : List Int} {rb : Bool} {i : Nat} : (laidN sg bs rb th i).length ≤ i * th.length := by
  induction i with
  | zero => simp [laidN]
  | succ i ih =>
    have := @turnedN_len sg bs th rb i
    rw [laidN, List.length_append, Nat.add_mul]
    omega
theorem tab_extra {g h : Heap} {L : Addr} {m : Str → Option Value} {ps : Array Value} (F : Fr g L h m) (hg : g.get? 42 = none) (hL : L ≠ 42) (h42 : h.get? 42 = some (tabObj ps)) (hok : TabOk ps h) : ∃ x ox, News g L h [(x, ox)] ∧ TabL g ps [(x, ox)] := by
  have dup : News g L h [(42, tabObj ps)] := fun p hp => by rw [List.mem_singleton.mp hp]; exact ⟨h42, hL.symm, hg⟩
  rcases hok with e | ⟨c', e1, e2, c, o, vs, t, e3, e4, e5, e6⟩
  · exact ⟨_, _, dup, .inl e⟩
  · cases e3
    cases q : g.get? c' with
    | some o' =>
      have := F.keep _ _ q
      rw [e4] at this
      cases this
      exact ⟨_, _, dup, .inr ⟨c', e1, e2, .inl ⟨c', o, vs, t, rfl, q, e5, e6⟩⟩⟩
    | none =>
      refine ⟨c', o, fun p hp => ?_, .inr ⟨c', e1, e2, .inr ⟨o, vs, t, .head _, e5, e6⟩⟩⟩
      rw [List.mem_singleton.mp hp]
      refine ⟨e4, fun e => ?_, q⟩
      obtain ⟨oL, es, ep, hL, hd, _⟩ := F.ns
      subst e
      rw [e4] at hL
      cases hL
      rw [e5] at hd
      cases hd
theorem TabL.ok {g h : Heap} {L : Addr} {m : Str → Option Value} {ps : Array Value} {rest : List (Addr × Obj)} (x : TabL g ps rest) (F : Fr g L h m) (N : News g L h rest) : TabOk ps h := by
  rcases x with e | ⟨c', e1, e2, e3⟩
  · exact .inl e
  · exact .inr ⟨c', e1, e2, e3.of F N fun p hp => hp⟩
def MidI (s : Shared) (g : Heap) (L : Addr) (m₂ : Str → Option Value) (ld : Addr) (led : List (Addr × Obj)) (ns : List Int) (f : Flow) (s₁ : Shared) : Prop :=
  ∃ h6 tk6 bj kj zs m6, f = .next ∧ s₁ = { s with heap := h6, toks := tk6 } ∧ Fr g L h6 m6 ∧ (m6 (Str.ofString "lot") = some (.ref bj) ∧ m6 (Str.ofString "lots") = m₂ (Str.ofString "lots") ∧ m6 (Str.ofString "laid") = m₂ (Str.ofString "laid") ∧ m6 (Str.ofString "bent") = m₂ (Str.ofString "bent") ∧ m6 (Str.ofString "rising") = m₂ (Str.ofString "rising")) ∧ News g L h6 led ∧
    h6.get? bj = some (listOf zs.toArray kj) ∧ bj ≠ ld ∧ IntsAre zs ns
theorem Fr.hid {g h h' : Heap} {L : Addr} {m : Str → Option Value} (F : Fr g L h m) (hk : Kp (h.hide 42) h') (hg : g.get? 42 = none) (hL : L ≠ 42) : Fr g L h' m :=
  ⟨F.ns.at' fun o e => hk _ _ ((Heap.hide_ne _ hL).trans e), fun b o e => hk _ _ ((Heap.hide_ne _ (fun q => by rw [q, hg] at e; cases e)).trans (F.keep b o e)), F.above⟩
theorem News.fresh {g h h' : Heap} {L : Addr} {m : Str → Option Value} {ex : List (Addr × Obj)} (F : Fr g L h m) (hex : ∀ p ∈ ex, h.get? p.1 = none ∧ h'.get? p.1 = some p.2) : News g L h' ex := fun p hp => by
  obtain ⟨h1, h2⟩ := hex p hp
  refine ⟨h2, fun e => ?_, ?_⟩
  · obtain ⟨oL, _, _, hL, _⟩ := F.ns
    rw [e, hL] at h1
    cases h1
  · cases q : g.get? p.1 with
    | none => rfl
    | some o => rw [F.keep _ _ q] at h1; cases h1
def MidL (s : Shared) (g : Heap) (L : Addr) (m1 : Str → Option Value) (ps : Array Value) (ns : List Int) (v : Value) (s₁ : Shared) : Prop :=
  ∃ a2 k2 zs h3 tk3, v = .ref a2 ∧ s₁ = { s with heap := h3, toks := tk3 } ∧ Fr g L h3 m1 ∧ News g L h3 [(a2, listOf zs.toArray k2), (42, tabObj ps)] ∧ IntsAre zs ns
theorem laid_spec {w : World} {Γ : Ctx} {Q : Value → Shared → Prop} {s : Shared} {mg mb : Str → Option Value} {l c : Addr} {vs us : List Value} {sg bs : List Int} {rb : Bool}
   (hΓ : Γ.In (Ar 350 70)) (hcl : Clean Γ) (G : G42 w mg mb s.heap) (hl : s.heap.IsList l vs.toArray) (hi : IntsAre vs sg) (hz : sg.length ≤ 64) (hc : s.heap.IsList c us.toArray) (hic : IntsAre us bs)
   (hQ : ∀ (a : Addr) (zs : List Value) (k : Nat) (h' : Heap) (tk : Tok), Kp (s.heap.hide 42) h' → (∃ ps, h'.get? 42 = some (tabObj ps) ∧ TabOk ps h') → s.heap.get? a = none → h'.get? a = some (listOf zs.toArray k) →
      IntsAre zs (laidN sg bs rb (thingsN sg.length rb) 3) → Q (.ref a) { s with heap := h', toks := tk }) :
   wG (model Pg w) Γ (call (.ref 54) [.ref l, .ref c, .bool rb]) Q (fun _ _ => False) s := by
  have G0 := G
  obtain ⟨X, ⟨p, loose, mean, T⟩, C, ps, hps, hok⟩ := G
  refine' enterHG (binds := [(Str.ofString "column", .ref l), (Str.ofString "bent", .ref c), (Str.ofString "rising", .bool rb)]) hΓ hcl hps X T ?k6 ?k7 ?k8 ?k9 ?kB ?kD ?_ ?c2 ?c3 ?c4
  case k6 => k_is
  case k7 => k_is
  case k8 => decide
  case k9 => exact BindsTo.of_eq rfl
  case kB => exact rfl
  case kD => decide +kernel
  case c2 => exact rfl
  case c3 => exact rfl
  case c4 => exact rfl
  intro Γ' L h₁ tk0 cells hΓ' hcl' F N Y hPL
  obtain rfl : cells = [] := by cases Y; rfl
  simp only [List.nil_append] at N
  replace hl := hideL' hps hl
  replace hc := hideL' hps hc
  refine wG_execs_any hΓ' ?_
  walk_at "mine.steps"
  refine len_ints_fit (hl.at fun o e => F.keep _ o e) hi (by omega) ?_
  walk_at "mine.steps"
  refine call_range_1 ?_
  walk_at "mine.steps"
  refine list_range_led (s := { s with heap := _, toks := _ }) (n := sg.length) rfl (F.push _) (News.kp N fun b o e => Heap.get?_push_of_some _ e) (IsRange.new ..) rfl (by omega) ?_
  intro a1 k1 h2 tk2 pl F N hlt1 hpl
  walk_at "mine.steps"
  rename Fr _ _ _ _ => F
  rename News _ _ _ _ => N
  obtain ⟨m1, ⟨hm1, hm2, hm3, hm4⟩, F1⟩ : ∃ m1 : Str → Option Value, (m1 (Str.ofString "column") = some (.ref l) ∧ m1 (Str.ofString "bent") = some (.ref c) ∧ m1 (Str.ofString "rising") = some (.bool rb) ∧ m1 (Str.ofString "places") = some (.ref a1)) ∧ Fr _ L _ m1 := ⟨_, ⟨rfl, rfl, rfl, rfl⟩, F⟩
  clear F
  refine wG_execs_any hΓ' ?_
  walk_at "mine.steps"
  refine wpAny_mono (Q := MidL s (s.heap.hide 42) L m1 ps (thingsN sg.length rb)) (E := fun _ _ => False) ?e1 (fun v s₁ hv => ?_) (fun _ _ x => x.elim)
  case e1 =>
    cases rb with
    | true =>
      walk1
      walk_at "mine.steps"
      exact ⟨a1, k1, pl, _, _, rfl, rfl, F1, N, hpl⟩
    | false =>
      walk1
      walk_at "mine.steps"
      refine slice_list3 (s := { s with heap := _, toks := _ }) F1 N (isL (N (a1, _) (.head _)).1) .none .none (.int (-1) _) (by decide) (fun h' F' N' => ?_) (hsz := ?_)
      · rw [krv_pick] at N'
        exact ⟨_, 0, pl.reverse, _, _, rfl, rfl, F', fun p hp => N' p (by
          rcases List.mem_cons.mp hp with rfl | hp
          · simp
          · exact .tail _ (.tail _ hp)), hpl.reverse⟩
      · rw [sizeLine_eq]; simp [hpl.length]; omega
  obtain ⟨a2, k2, th, h3, tk3, rfl, rfl, F, N, hth⟩ := hv
  clear F1
  walk_at "mine.steps"
  have G3 : G42 w mg mb h3 := G0.next F.keep (N (42, tabObj ps) (.tail _ (.head _))).1 (by
    rcases hok.hide with e | ⟨c', e1, e2, e3⟩
    · exact .inl e
    · exact .inr ⟨c', e1, e2, e3.keeps F.keep⟩)
  have hthl : (thingsN sg.length rb).length = sg.length := by cases rb <;> simp [thingsN]
  have hthin : ∀ n ∈ thingsN sg.length rb, 0 ≤ n ∧ n < sg.length := by
    intro n hn
    have : n ∈ (List.range sg.length).map (fun k : Nat => (k : Int)) := by
      cases rb
      · simpa [thingsN] using hn
      · simpa [thingsN] using hn
    obtain ⟨k, hk, rfl⟩ := List.mem_map.mp this
    have := List.mem_range.mp hk
    omega
  refine up (parted_spec G3 (isL (N (a2, _) (.head _)).1) hth (by omega) (hl.at fun o e => F.keep _ o e) hi (by omega) hthin fun a b0 b1 b2 ys0 ys1 ys2 k3 k0 k1' k2' h4 tk4 hk4 ht4 ha hga hg0 hg1 hg2 hi0 hi1 hi2 hb0 hb1 hb2 => ?_) rfl (Nat.le_of_ble_eq_true rfl) (Nat.le_of_ble_eq_true rfl)
  obtain ⟨ps4, ht4, hok4⟩ := ht4
  have hL42 : L ≠ 42 := Nat.ne_of_gt hPL
  have F4 := Fr.hid F hk4 (Heap.hide_self _ _) hL42
  obtain ⟨xt, oxt, Nx, htab⟩ := tab_extra F4 (Heap.hide_self _ _) hL42 ht4 hok4
  have N4 : News (s.heap.hide 42) L h4 [(a, listOf #[.ref b0, .ref b1, .ref b2] k3), (b0, listOf ys0.toArray k0), (b1, listOf ys1.toArray k1'), (b2, listOf ys2.toArray k2'), (42, tabObj ps4), (xt, oxt)] := by
    have n1 := News.fresh (h' := h4) (ex := [(a, listOf #[.ref b0, .ref b1, .ref b2] k3), (b0, listOf ys0.toArray k0), (b1, listOf ys1.toArray k1'), (b2, listOf ys2.toArray k2')]) F (fun p hp => by
      simp only [List.mem_cons, List.not_mem_nil, or_false] at hp
      rcases hp with rfl | rfl | rfl | rfl
      · exact ⟨ha, hga⟩
      · exact ⟨hb0, hg0⟩
      · exact ⟨hb1, hg1⟩
      · exact ⟨hb2, hg2⟩)
    intro p hp
    simp only [List.mem_cons, List.not_mem_nil, or_false] at hp
    rcases hp with rfl | rfl | rfl | rfl | rfl | rfl
    · exact n1 _ (.head _)
    · exact n1 _ (.tail _ (.head _))
    · exact n1 _ (.tail _ (.tail _ (.head _)))
    · exact n1 _ (.tail _ (.tail _ (.tail _ (.head _))))
    · exact ⟨ht4, hL42.symm, Heap.hide_self _ _⟩
    · exact Nx _ (.head _)
  clear F N
  walk_at "mine.steps"
  refine wG_execs_any hΓ' ?_
  walk_at "mine.steps"
  rename Fr _ _ _ _ => F
  rename News _ _ _ _ => N
  rename_i ld _ hld _
  refine wG_execs_cons ?_
  refine wG_For hΓ' hcl' rfl ?_
  walk_at "mine.steps"
  rename Fr _ _ _ _ => F
  rename News _ _ _ _ => N
  refine call_range_1 ?_
  have hrs3 : Builtin.Range.rangeSize 0 3 1 = ((3 : Nat) : Int) := rangeSize_pos (by omega) (by simp)
  refine rangeG (n := 3) rfl (IsRange.new ..) (small_pos (by omega) hrs3 (by omega) (by omega) (by omega) (by omega) (by omega) (by omega)) hrs3 (F.push _) (News.kp N fun b o e => Heap.get?_push_of_some _ e)
    (fun i m news => m (Str.ofString "lots") = some (.ref a) ∧ m (Str.ofString "laid") = some (.ref ld) ∧ m (Str.ofString "bent") = some (.ref c) ∧ m (Str.ofString "rising") = some (.bool rb) ∧
      ∃ lal kl, news = [(ld, listOf lal.toArray kl), (a, listOf #[Value.ref b0, Value.ref b1, Value.ref b2] k3), (b0, listOf ys0.toArray k0), (b1, listOf ys1.toArray k1'), (b2, listOf ys2.toArray k2'), (42, tabObj ps4), (xt, oxt)] ∧ IntsAre lal (laidN sg bs rb (thingsN sg.length rb) i))
    ?hj ?_ ?_
  case hj => exact ⟨rfl, rfl, hm2, hm3, [], 0, rfl, .nil⟩
  · rintro i t₁ m₂ news₁ h5 tk5 I oI Γ2 hi3 hΓ2 hcl2 hoffI ⟨q1, q2, q3, q4, lal, kl, rfl, hlal⟩ F N
    simp only [List.cons_append, List.nil_append] at N
    obtain ⟨bi, yi, ki, ebi, mbi, iyi, hbil⟩ : ∃ bi yi ki, (#[Value.ref b0, Value.ref b1, Value.ref b2] : Array Value)[i]? = some (.ref bi) ∧ (bi, listOf yi.toArray ki) ∈ [(ld, listOf lal.toArray kl), (a, listOf #[Value.ref b0, Value.ref b1, Value.ref b2] k3), (b0, listOf ys0.toArray k0), (b1, listOf ys1.toArray k1'), (b2, listOf ys2.toArray k2'), (42, tabObj ps4), (xt, oxt), (I, oI)] ∧ IntsAre yi (lotN sg (thingsN sg.length rb) i) ∧ bi ≠ ld := by
      match i, hi3 with
      | 0, _ => exact ⟨b0, ys0, k0, rfl, .tail _ (.tail _ (.head _)), hi0, Nat.ne_of_lt hld.2.1⟩
      | 1, _ => exact ⟨b1, ys1, k1', rfl, .tail _ (.tail _ (.tail _ (.head _))), hi1, Nat.ne_of_lt hld.2.2.1⟩
      | 2, _ => exact ⟨b2, ys2, k2', rfl, .tail _ (.tail _ (.tail _ (.tail _ (.head _)))), hi2, Nat.ne_of_lt hld.2.2.2.1⟩
    walk_at "mine.steps"
    refine wG_execs_any hΓ2 ?_
    walk_at "mine.steps"
    rename Fr _ _ _ _ => F
    rename News _ _ _ _ => N
    have hidx : ((0 : Int) + (i : Int) * 1).toNat = i := by omega
    refine item_listL (isL (N (a, _) (.tail _ (.head _))).1) (by omega) (by omega) (x := .ref bi) (by rw [hidx]; simpa using ebi) ?_
    walk_at "mine.steps"
    rename Fr _ _ _ _ => F
    rename News _ _ _ _ => N
    refine wG_execs_cons ?_
    refine wG.mono (Q := MidI s (s.heap.hide 42) L m₂ ld [(ld, listOf lal.toArray kl), (a, listOf #[Value.ref b0, Value.ref b1, Value.ref b2] k3), (b0, listOf ys0.toArray k0), (b1, listOf ys1.toArray k1'), (b2, listOf ys2.toArray k2'), (42, tabObj ps4), (xt, oxt), (I, oI)] (turnedN sg bs rb (thingsN sg.length rb) i)) (E := fun _ _ => False) ?i1 (fun f s₁ hv => ?_) (fun _ _ x => x.elim)
    case i1 =>
      refine wG_If hΓ2 ?_
      walk_at "mine.steps"
      rename Fr _ _ _ _ => F
      rename News _ _ _ _ => N
      refine ke_ne_ints (isL (N _ (.tail _ mbi)).1) (isL (N _ (.head _)).1) iyi .nil (Nat.le_of_ble_eq_true rfl) ?_
      walk_at "mine.steps"
      · rename_i hem
        refine wG_execs_nil ⟨_, _, bi, ki, yi, _, rfl, rfl, F, ⟨rfl, rfl, rfl, rfl, rfl⟩, fun p hp => N p (.tail _ hp), (N _ (.tail _ mbi)).1, hbil, ?_⟩
        have hem' : lotN sg (thingsN sg.length rb) i = [] := of_decide_eq_true hem
        unfold turnedN
        rw [hem'] at iyi ⊢
        simpa using iyi
      · rename_i hem hin
        have hin' : decide (((i : Nat) : Int) ∈ bs) = rb := by
          rw [← eq_of_beq hin, Bool.eq_iff_iff]
          simp
        have hne : lotN sg (thingsN sg.length rb) i ≠ [] := of_decide_eq_false hem
        obtain ⟨lt, hlt⟩ : ∃ lt, lt = lotN sg (thingsN sg.length rb) i := ⟨_, rfl⟩
        have htn : turnedN sg bs rb (thingsN sg.length rb) i = lt.reverse := by unfold turnedN; rw [if_pos hin', hlt]
        have hltin : ∀ n ∈ lt, 0 ≤ n ∧ n < 256 := fun n hn => by
          have := hthin n (lotN_sub n (hlt ▸ hn))
          omega
        have hltl : lt.length ≤ 64 := by
          rw [hlt]
          exact Nat.le_trans lotN_len (by omega)
        have hlt0 : 0 < lt.length := List.length_pos_iff.mpr (hlt ▸ hne)
        rw [← hlt] at iyi
        rw [htn]
        refine wG_execs_cons ?_
        refine wG_Assign_Name hΓ2 ?_
        refine wG_Call hΓ2 ?_
        walk_at "mine.steps"
        refine wG_callWith_T1 hΓ2 ?_
        refine wG_Call hΓ2 ?_
        walk_at "mine.steps"
        refine wG_callWith_K (K := hd.heap_39 w.params) hΓ2 (by k_is) ?_
        walk_at "mine.steps"
        refine call_bytes_ints (isL (N _ (.tail _ mbi)).1) iyi hltin (by rw [iyi.length, sizeLine_eq]; omega) rfl fun h7 t7 tk7 hk7 => ?_
        replace N := News.kp N hk7
        replace F := Fr.kp F hk7
        walk_at "mine.steps"
        refine len_ints_fit (isL (N _ (.tail _ mbi)).1) iyi (by omega) ?_
        walk_at "mine.steps"
        refine byteswap_spec (In.up hΓ2 rfl (Nat.le_of_ble_eq_true rfl) (Nat.le_of_ble_eq_true rfl)) hcl2 (X.keeps F.keep) (T.keeps F.keep) (Kn := 1) (W := lt.length) hlt0 (by omega) (by rw [byteArr_size]; omega) (by rw [byteArr_size]; omega) fun R t8 h8 tk8 hk8 hR1 hR2 => ?_
        obtain rfl := rev_bytes hR1 hR2
        replace N := News.kp N hk8
        replace F := Fr.kp F hk8
        refine wG.any hΓ2 (call_list_bytes rfl _ t8 (by rw [byteArr_size]; simp; omega) fun h9 tk9 zs c9 hk9 hg9 hi9 => ?_)
        rw [KBa.ints_make (fun n hn => hltin n (List.mem_reverse.mp hn))] at hi9
        have hl9 := News.lt N (Nat.le_refl _)
        replace N := News.add F N hk9 (Nat.le_refl _) hg9
        replace F := Fr.kp F hk9
        walk_at "mine.steps"
        rename Fr _ _ _ _ => F
        rename News _ _ _ _ => N
        exact wG_execs_nil ⟨_, _, _, c9, zs, _, rfl, rfl, F, ⟨rfl, rfl, rfl, rfl, rfl⟩, fun p hp => N p (.tail _ (.tail _ hp)), (N _ (.head _)).1, Nat.ne_of_gt (hl9 _ (.tail _ (.head _))), hi9⟩
      · rename_i hem hin
        refine wG_execs_nil ⟨_, _, bi, ki, yi, _, rfl, rfl, F, ⟨rfl, rfl, rfl, rfl, rfl⟩, fun p hp => N p (.tail _ hp), (N _ (.tail _ mbi)).1, hbil, ?_⟩
        have hin' : decide (((i : Nat) : Int) ∈ bs) ≠ rb := fun e => by
          rw [← e, beq_eq_false_iff_ne] at hin
          refine hin ?_
          rw [Bool.eq_iff_iff]
          simp
        unfold turnedN
        rw [if_neg hin']
        exact iyi
    clear F N
    obtain ⟨h6, tk6, bj, kj, zs, m6, rfl, rfl, F, ⟨r0, r1, r2, r3, r4⟩, N, hgj, hjld, hzs⟩ := hv
    rw [q1] at r1
    rw [q2] at r2
    rw [q3] at r3
    rw [q4] at r4
    refine wG_execs_any hΓ2 ?_
    walk_at "mine.steps"
    have hzl : lal.length + zs.length ≤ 4096 := by
      rw [hlal.length, hzs.length]
      have l1 := @laidN_len sg bs (thingsN sg.length rb) rb i
      have l2 := @turnedN_len sg bs (thingsN sg.length rb) rb i
      rw [hthl] at l1 l2
      have : i * sg.length ≤ 3 * 64 := Nat.mul_le_mul (by omega) hz
      omega
    refine extend_led (N (ld, _) (.head _)).1 hgj hzl fun h10 k10 hg10 hs10 => ?_
    have F10 := Fr.put F N (.head _) hs10
    have N10 := News.put N (fun p hp => ?o10) hs10 hg10
    case o10 =>
      simp only [List.mem_cons, List.not_mem_nil, or_false] at hp
      rcases hp with rfl | rfl | rfl | rfl | rfl | rfl | rfl
      · exact Nat.ne_of_lt hld.1
      · exact Nat.ne_of_lt hld.2.1
      · exact Nat.ne_of_lt hld.2.2.1
      · exact Nat.ne_of_lt hld.2.2.2.1
      · exact Nat.ne_of_lt hld.2.2.2.2.1
      · exact Nat.ne_of_lt hld.2.2.2.2.2
      · exact (hoffI _ (.head _)).symm
    refine wG_execs_nil ⟨_, _, m6, [(ld, listOf (lal ++ zs).toArray k10), (a, listOf #[Value.ref b0, Value.ref b1, Value.ref b2] k3), (b0, listOf ys0.toArray k0), (b1, listOf ys1.toArray k1'), (b2, listOf ys2.toArray k2'), (42, tabObj ps4), (xt, oxt)], rfl, F10, N10, ?_, r1, r2, r3, r4, lal ++ zs, k10, rfl, hlal.append hzs⟩
    intro p hp
    rcases List.mem_cons.mp hp with rfl | hp
    · exact hoffI (ld, listOf lal.toArray kl) (.head _)
    · exact hoffI p (.tail _ hp)
  · rintro m₂ news₁ h5 tk5 ⟨q1, q2, q3, q4, lal, kl, rfl, hlal⟩ F N
    refine wG_execs_any hΓ' ?_
    walk_at "mine.steps"
    have hl42 : (42 : Addr) ≠ ld := Nat.ne_of_lt hld.2.2.2.2.1
    have h42 := (N (42, tabObj ps4) (.tail _ (.tail _ (.tail _ (.tail _ (.tail _ (.head _))))))).1
    refine hQ ld lal kl _ _ F.keep ⟨ps4, h42, htab.ok F fun p hp => N p (.tail _ (.tail _ (.tail _ (.tail _ (.tail _ (.tail _ hp))))))⟩ ?_ (N _ (.head _)).1 hlal
    have := (N _ (.head _)).2.2
    rwa [Heap.hide_ne _ hl42.symm] at this
end Mine
end TLa

section THd
open PySem PySem.W PyProof.Rows PySem.Calls
set_option maxRecDepth 100000
set_option maxHeartbeats 8000000
namespace Mine
/-- the caller's own context -/
def G0 : Ctx := ⟨.builtin "claim.caller" {}, none, none, [], none⟩
theorem G0_in : G0.In callerA := caller_in
theorem G0_clean : Clean G0 := by
  intro c hc
  have : c = .builtin "claim.caller" {} := List.mem_singleton.mp hc
  subst this
  rw [okc_builtin]
  decide +kernel
/-- a thread whose tree ends well at the caller's context ends -/
theorem thread_G {prog : Program} {w : World} {t : Sem Fin} {s : Shared} {P : Value → Shared → Prop} (hz : s.asleep)
    (h : wG (model prog w) G0 t (fun fin s' => ∃ v, fin = .done (.ret v) ∧ P v s' ∧ AllBare s'.gens) (fun _ _ => False) s) :
    ∃ n v s' s'', runN (denote table) prog w n s ⟨t, .builtin "claim.caller" {}, default, []⟩ = .halted (outcomeOf (.ok (.ret v))) s' ∧
      schedN (denote table) prog w n (.single s ⟨t, .builtin "claim.caller" {}, default, []⟩) = .halted (outcomeOf (.ok (.ret v))) s' ∧ s'.forget = s''.forget ∧ P v s'' := by
  have h' : Sem.wp (model prog w) G0 t (Sem.finPost (model prog w) G0 fun r s' => (∃ v, r = .ok (.ret v) ∧ P v s') ∧ leftWithCleanup s'.gens = false) (fun e _ s' => (∃ v, (Except.error e : Result) = .ok (.ret v) ∧ P v s') ∧ leftWithCleanup s'.gens = false) default s :=
    Sem.wp_mono (model prog w) G0 t (fun fin _ s' x => by
      obtain ⟨v, rfl, y, z⟩ := x
      exact ⟨⟨v, rfl, y⟩, leftWithCleanup_false_of_bare z⟩) (fun e _ s' x => x.elim) default s (h default)
  obtain ⟨n, r, s₁, s₂, hs, hn, hfo, v, rfl, hR⟩ := wp_halts_full (M := model prog w) hz h'
  exact ⟨n, v, s₂, s₁, hn, hs, hfo, hR⟩

abbrev Rw : RowW := PySem.Challenge.rw_pk0011_01.row.toRowW
/-- what is left to show of the law: its def called at the caller's context -/
def CallG : Prop :=
  ∀ (w : World) (s₀ s₁ : Shared) (mg mb : Str → Option Value), Ground hd.view_39 [] Rw.records (XL hd.view_39 []) w s₀ mg mb s₁.heap → hk.says w s₁.heap → ∀ (args : List WData) (vs : List Value) (as : List Addr),
    Rw.claim.pre args = true → WData.layableAll args = true → ReadsAllW Rw.records (classAt s₀.heap) s₁.heap vs args as → WellAll w.params s₁.heap vs args → (∀ a ∈ as, (a == sysModules) = false) → s₁.gens = #[] → ∃ f, mg Rw.name = some f ∧
      wG (model Pg w) G0 (call f vs) (fun v s' => GoodWG Rw.claim (classAt s₀.heap) (ExcName.means s₀.heap) args s₁ (.ok (.ret v)) s') (fun _ _ => False) s₁

theorem tree_G {w : World} {s : Shared} {mg : Str → Option Value} {f : Value} {vs : List Value} {P : Value → Shared → Prop} (hg : s.heap.Ns mainGlobals mg) (hf : mg Rw.name = some f)
    (h : wG (model Pg w) G0 (call f vs) P (fun _ _ => False) s) :
    wG (model Pg w) G0 (callStub Rw.name vs).cur (fun fin s' => ∃ v, fin = .done (.ret v) ∧ P v s') (fun _ _ => False) s := by
  show wG _ _ (do match ← nsGet mainNs Rw.name with
      | some f => do ret (← call f vs)
      | none => unsupported "claim.caller:no-such-global") _ _ _
  refine wG.bindA G0_in (wpAny_nsGet hg ?_)
  rw [hf]
  exact wG.bind (wG.mono h (fun v s' x => wG.pure ⟨v, rfl, x⟩) fun _ _ x => x)
end Mine
end THd

section TC2
open PySem PySem.W PyProof.Rows PySem.Calls
open PyProof.Rows.LCg
set_option maxRecDepth 100000
set_option maxHeartbeats 8000000
namespace Mine
/-! a comprehension with two clauses, the second over the first one's name -/
abbrev cc2 (elt iter : Expr) (x y : Str) (px py px2 : Pos) (scope : Scope) (pos : Pos) : Expr := .ListComp elt [⟨.Name x px, iter, [], 0⟩, ⟨.Name y py, .Name x px2, [], 0⟩] scope pos
section
variable {elt iter : Expr} {x y : Str} {px py px2 : Pos} {scope : Scope} {pos : Pos}
theorem turn2_0 (it acc : Value) (env : Env) : compTurn (cc2 elt iter x y px py px2 scope pos) 0 it acc env = (standAt iter.pos >>= fun _ => pyNext it >>= fun r => match r with
      | none => pure (.done .next)
      | some v => letOwnedTupleGo (.Name x px) it v >>= fun _ => assign (.Name x px) env v >>= fun _ =>
        eval (.Name x px2) env >>= fun z => standAt px2 >>= fun _ => holding [z] (pyIter z) >>= fun jt => runOwn (.compStart (cc2 elt iter x y px py px2 scope pos) 1 jt acc env) env >>= fun _ =>
          again (.compLoop (cc2 elt iter x y px py px2 scope pos) 0 it acc env)) := by rfl
theorem turn2_1 (it acc : Value) (env : Env) : compTurn (cc2 elt iter x y px py px2 scope pos) 1 it acc env = (standAt px2 >>= fun _ => pyNext it >>= fun r => match r with
      | none => pure (.done .next)
      | some v => letOwnedTupleGo (.Name y py) it v >>= fun _ => assign (.Name y py) env v >>= fun _ =>
        (eval elt env >>= fun z => call (.builtin "list.append") [acc, z] >>= fun _ => pure ()) >>= fun _ =>
          again (.compLoop (cc2 elt iter x y px py px2 scope pos) 1 it acc env)) := by rfl
variable {prog : Program} {w : World} {A : Around} {R : Result → Shared → Prop} {s : Shared} {env : Env} {it acc : Value}
theorem start2 {d : Nat} (hd : d < 2)
    (h0 : codeAny (model prog w) A (.compLoop (cc2 elt iter x y px py px2 scope pos) d it acc env) R s)
    (h : ∀ E, wpAny (model prog w) A (pyIter it) (fun it' s' => codeAny (model prog w) A (.compLoop (cc2 elt iter x y px py px2 scope pos) d it' acc env) R s') E s) :
    codeAny (model prog w) A (.compStart (cc2 elt iter x y px py px2 scope pos) d it acc env) R s := by
  refine codeAny_of_tree ?_
  show wpAny _ _ ((compStart (cc2 elt iter x y px py px2 scope pos) d it acc env).onRaise (fun x => do noteFrame x env; standAt theWindowsPlace)) _ _ s
  refine wpAny_notedAt ?_
  have hd2 : d = 0 ∨ d = 1 := by omega
  rcases hd2 with rfl | rfl
  · unfold compStart
    show wpAny _ _ (ask >>= _) _ _ s
    refine wpAny_bind (wpAny_askSetting (wpAny_ite ?_))
    split
    · first
        | exact wpAny_bind (wpAny_pure (wpAny_pure (And.intro rfl h0)))
        | exact wpAny_pure (And.intro rfl h0)
    · first
        | exact wpAny_bind (wpAny_rule (wpAny_bind (wpAny_standAt (wpAny_bind (wpAny_mono (h _) (fun it' s' h' => wpAny_pure (And.intro rfl h')) fun _ _ x => x)))))
        | (refine wpAny_bind (wpAny_rule ?_); show wpAny _ _ (standAt iter.pos >>= _) _ _ s; exact wpAny_bind (wpAny_standAt (wpAny_bind (wpAny_mono (h _) (fun it' s' h' => wpAny_pure (And.intro rfl h')) fun _ _ x => x))))
  · unfold compStart
    show wpAny _ _ (ask >>= _) _ _ s
    refine wpAny_bind (wpAny_askSetting (wpAny_ite ?_))
    split
    · first
        | exact wpAny_bind (wpAny_pure (wpAny_pure (And.intro rfl h0)))
        | exact wpAny_pure (And.intro rfl h0)
    · first
        | exact wpAny_bind (wpAny_rule (wpAny_bind (wpAny_standAt (wpAny_bind (wpAny_mono (h _) (fun it' s' h' => wpAny_pure (And.intro rfl h')) fun _ _ x => x)))))
        | (refine wpAny_bind (wpAny_rule ?_); show wpAny _ _ (standAt px2 >>= _) _ _ s; exact wpAny_bind (wpAny_standAt (wpAny_bind (wpAny_mono (h _) (fun it' s' h' => wpAny_pure (And.intro rfl h')) fun _ _ x => x))))

theorem loop2_1 (I : Nat → Shared → Prop)
    (turn : ∀ n s (E : Value → Shared → Prop), I n s → wpAny (model prog w) A (pyNext it) (fun r s₁ => match r with
      | none => R (.ok .next) s₁
      | some v => wpAny (model prog w) A (assign (.Name y py) env v) (fun _ s₂ => wpAny (model prog w) A (eval elt env) (fun z s₃ =>
          wpAny (model prog w) A (call (.builtin "list.append") [acc, z]) (fun _ s₄ => ∃ m, m < n ∧ I m s₄) E s₃) E s₂) E s₁) E s)
    (n : Nat) (h : I n s) : codeAny (model prog w) A (.compLoop (cc2 elt iter x y px py px2 scope pos) 1 it acc env) R s := by
  refine codeAny_loop rfl I (fun n s hI => ?_) n h
  show wpAny _ _ ((compTurn (cc2 elt iter x y px py px2 scope pos) 1 it acc env).onRaise (fun x => do noteFrame x env; theTreesLotGoes x)) _ _ s
  refine wpAny_noted ?_
  rw [turn2_1]
  refine wpAny_bind (wpAny_standAt (wpAny_bind (wpAny_mono (turn n s _ hI) (fun r s₁ h₁ => ?_) fun _ _ h' => h')))
  cases r with
  | none => exact wpAny_pure h₁
  | some v =>
    refine wpAny_bind (wpAny_of_eq (a := ()) rfl ?_)
    exact wpAny_bind (wpAny_mono h₁ (fun _ s₂ h₂ => wpAny_bind (wpAny_bind (wpAny_mono h₂ (fun x s₃ h₃ => wpAny_bind (wpAny_mono h₃
      (fun _ s₄ h₄ => wpAny_pure (wpAny_pure ⟨rfl, h₄⟩)) fun _ _ h' => h')) fun _ _ h' => h'))) fun _ _ h' => h')
theorem loop2_0 (hh : A.handled = none) (I : Nat → Shared → Prop)
    (turn : ∀ n s (E : Value → Shared → Prop), I n s → wpAny (model prog w) A (pyNext it) (fun r s₁ => match r with
      | none => R (.ok .next) s₁
      | some v => wpAny (model prog w) A (assign (.Name x px) env v) (fun _ s₂ => wpAny (model prog w) A (eval (.Name x px2) env) (fun z s₃ =>
          wpAny (model prog w) A (pyIter z) (fun jt s₄ => codeAny (model prog w) A (.compStart (cc2 elt iter x y px py px2 scope pos) 1 jt acc env) (fun r s₅ => r = .ok .next ∧ ∃ m, m < n ∧ I m s₅) s₄) E s₃) E s₂) E s₁) E s)
    (n : Nat) (h : I n s) : codeAny (model prog w) A (.compLoop (cc2 elt iter x y px py px2 scope pos) 0 it acc env) R s := by
  refine codeAny_loop rfl I (fun n s hI => ?_) n h
  show wpAny _ A ((compTurn (cc2 elt iter x y px py px2 scope pos) 0 it acc env).onRaise (fun x => do noteFrame x env; theTreesLotGoes x)) _ _ s
  refine wpAny_noted ?_
  rw [turn2_0]
  refine wpAny_bind (wpAny_standAt (wpAny_bind (wpAny_mono (turn n s _ hI) (fun r s₁ h₁ => ?_) fun _ _ h' => h')))
  cases r with
  | none => exact wpAny_pure h₁
  | some v =>
    refine wpAny_bind (wpAny_of_eq (a := ()) rfl ?_)
    refine wpAny_bind (wpAny_mono h₁ (fun _ s₂ h₂ => wpAny_bind (wpAny_mono h₂ (fun z s₃ h₃ => ?_) fun _ _ h' => h')) fun _ _ h' => h')
    refine wpAny_bind (wpAny_standAt (wpAny_bind (wpAny_holding (wpAny_mono h₃ (fun jt s₄ h₄ => ?_) fun _ _ h' => h'))))
    refine wpAny_bind (wpAny_runOwn ?_)
    rw [mark_none hh]
    refine codeAny_mono h₄ fun r s₅ h₅ => ?_
    obtain ⟨rfl, h₅⟩ := h₅
    exact wpAny_pure ⟨rfl, h₅⟩
end
end Mine
end TC2

section TC3
open PySem PySem.W PyProof.Rows PySem.Calls
open PyProof.Rows.LCg
set_option maxRecDepth 100000
set_option maxHeartbeats 8000000
namespace Mine
section
variable {prog : Program} {w : World} {A : Around} {E : Value → Shared → Prop} {s : Shared} {elt iter : Expr} {x y : Str} {px py px2 : Pos} {scope : Scope} {cl : List (Str × Addr)} {pos : Pos} {env : Env} {f : Int → Int}
/-- what the element asks: an int's own image -/
def EltIs (prog : Program) (w : World) (A : Around) (elt : Expr) (y : Str) (scope : Scope) (cl : List (Str × Addr)) (env : Env) (f : Int → Int) : Prop :=
  ∀ C (s : Shared) n t m (E : Value → Shared → Prop), s.heap.Ns C m → m y = some (.int n t) → wpAny (model prog w) A (eval elt (compEnvC scope cl C env)) (fun v s' => (∃ t', v = .int (f n) t') ∧ ∃ tk, s' = { s with toks := tk }) E s
theorem inner2 {R : Result → Shared → Prop} (hh : A.handled = none) (hkind : scope.kind = .function) (hy : scope.names.lookup y = some .local) (helt : EltIs prog w A elt y scope cl env f)
    {C D J r : Addr} {m : Str → Option Value} {vs zs : List Value} {ns ks : List Int} (hrI : s.heap.IsList r vs.toArray) (hvs : IntsAre vs ns) (hJ : s.heap.IsListIter J r 0) (hD : s.heap.get? D = some (lst zs)) (hzs : IntsAre zs ks) (hC : s.heap.Ns C m)
    (hsz : ks.length + ns.length ≤ 4096) (hCD : C ≠ D) (hCJ : C ≠ J) (hDJ : D ≠ J) (hrC : r ≠ C) (hrD : r ≠ D) (hrJ : r ≠ J)
    (hR : ∀ h' tk m' zs', (∀ b o, b ≠ D → b ≠ C → b ≠ J → s.heap.get? b = some o → h'.get? b = some o) → h'.get? D = some (lst zs') → IntsAre zs' (ks ++ ns.map f) → h'.Ns C m' → R (.ok .next) { s with heap := h', toks := tk }) :
    codeAny (model prog w) A (.compStart (cc2 elt iter x y px py px2 scope pos) 1 (.ref J) (.ref D) (compEnvC scope cl C env)) R s := by
  have W := Walks.list (prog := prog) (w := w) hh J r hrJ vs.toArray
  have hlen := hvs.length
  have loop : codeAny (model prog w) A (.compLoop (cc2 elt iter x y px py px2 scope pos) 1 (.ref J) (.ref D) (compEnvC scope cl C env)) R s := by
    refine loop2_1 (fun k s' => ∃ h' tk i m' zs', s' = { s with heap := h', toks := tk } ∧ i ≤ ns.length ∧ k = ns.length + 1 - i ∧ (∀ b o, b ≠ D → b ≠ C → b ≠ J → s.heap.get? b = some o → h'.get? b = some o) ∧
      h'.get? D = some (lst zs') ∧ IntsAre zs' (ks ++ (ns.take i).map f) ∧ h'.Ns C m' ∧ h'.IsListIter J r i) ?_ (ns.length + 1) ⟨s.heap, s.toks, 0, m, zs, rfl, Nat.zero_le _, rfl, fun _ _ _ _ _ e => e, hD, by simpa using hzs, hC, hJ⟩
    rintro k s' E' ⟨h', tk, i, m', zs', rfl, hi, rfl, hk, hD', hz', hC', hJ'⟩
    have hl' : h'.IsList r vs.toArray := hrI.at fun o e => hk _ _ hrD hrC hrJ e
    by_cases hlt : i < ns.length
    · refine W.item i _ _ _ (by simpa [hlen] using hlt) ⟨hJ', hl'⟩ fun v h₂ tk₂ hv hst hk₂ => ?_
      have hk₂' : ∀ b o, b ≠ J → h'.get? b = some o → h₂.get? b = some o := fun b o hb e => hk₂ b o (fun q => hb (List.mem_singleton.mp q)) e
      obtain ⟨n, t, rfl, hn⟩ := hvs.at i v (by simpa using hv)
      dsimp only
      refine wpAny_assign_Name (wpAny_storeName_local (lookup_relabel_local hy) (hC'.at' fun o e => hk₂' _ o hCJ e) (fun h₃ hn₃ hs₃ => ?_) (by simp [compEnvC, relabel, hkind]))
      refine wpAny_mono (helt C _ n t _ E' hn₃ (by simp)) (fun v s₄ hv4 => ?_) fun _ _ e => e
      obtain ⟨⟨t', rfl⟩, tk₄, rfl⟩ := hv4
      have hD3 : h₃.get? D = some (lst zs') := hs₃.extBut _ _ (Ne.symm hCD) (hk₂' _ _ hDJ hD')
      have hzl : zs'.length ≤ 4096 := by
        rw [hz'.length, List.length_append, List.length_map, List.length_take]; omega
      refine append_at hD3 (fun h₅ hs₅ hD₅ => ?_) (by rw [sizeLine_eq]; simp; omega)
      refine ⟨ns.length + 1 - (i + 1), by omega, h₅, _, i + 1, _, zs' ++ [.int (f n) t'], rfl, hlt, rfl, fun b o hbD hbC hbJ e => ?_, hD₅.trans (congrArg some (lst_snoc _ _)), ?_, hn₃.sameBut hs₅ hCD, ?_⟩
      · exact hs₅.extBut _ _ hbD (hs₃.extBut _ _ hbC (hk₂' _ _ hbJ (hk b o hbD hbC hbJ e)))
      · rw [List.take_add_one, hn, List.map_append, ← List.append_assoc]
        exact hz'.append (.cons _ _ .nil)
      · exact hst.1.at fun o e => hs₅.extBut _ _ (Ne.symm hDJ) (hs₃.extBut _ _ (Ne.symm hCJ) e)
    · have hin : i = ns.length := by omega
      subst hin
      refine W.done _ _ _ (by rw [show vs.toArray.size = ns.length by simp [hlen]]; exact ⟨hJ', hl'⟩) fun h₂ tk₂ hk₂ => ?_
      have hk₂' : ∀ b o, b ≠ J → h'.get? b = some o → h₂.get? b = some o := fun b o hb e => hk₂ b o (fun q => hb (List.mem_singleton.mp q)) e
      refine hR h₂ tk₂ m' zs' (fun b o hbD hbC hbJ e => hk₂' _ _ hbJ (hk b o hbD hbC hbJ e)) (hk₂' _ _ hDJ hD') ?_ (hC'.at' fun o e => hk₂' _ o hCJ e)
      rwa [List.take_length] at hz'
  exact start2 (by omega) loop fun E => W.self 0 _ _ _ ⟨hJ, hrI⟩ loop
/-- a table of int lists as the heap bears it -/
def TabAtH (h : Heap) (its : List Value) (rows : List (List Int)) : Prop := its.length = rows.length ∧ ∀ (i : Nat) (row : List Int), rows[i]? = some row → ∃ (r : Addr) (vs : List Value), its[i]? = some (Value.ref r) ∧ h.IsList r vs.toArray ∧ IntsAre vs row
theorem TabAtH.kp {h h' : Heap} {its : List Value} {rows : List (List Int)} (T : TabAtH h its rows) (hk : Kp h h') : TabAtH h' its rows :=
  ⟨T.1, fun i row e => let ⟨r, vs, a, b, c⟩ := T.2 i row e; ⟨r, vs, a, b.at fun o e => hk _ o e, c⟩⟩
theorem comp2_ints {Q : Value → Shared → Prop} (hh : A.handled = none) (hclos : closureFor scope env = pure cl) (hcell : ∀ z ∈ scope.names, z.2 ≠ .cell) (hkind : scope.kind = .function)
    (hnames : ∀ z ∈ scope.names, z.2 = .local → scope.names.lookup z.1 = some .local) (hx : scope.names.lookup x = some .local) (hy : scope.names.lookup y = some .local) (hb : (x == ("__debug__" : Str)) = false) (helt : EltIs prog w A elt y scope cl env f)
    (h : wpAny (model prog w) A (eval iter env) (fun xv s₁ => ∃ t its rows, xv = .ref t ∧ s₁.heap.IsList t its.toArray ∧ TabAtH s₁.heap its rows ∧ rows.flatten.length ≤ 4096 ∧
      ∀ D h' tk zs, Kp s₁.heap h' → s₁.heap.get? D = none → h'.get? D = some (lst zs) → IntsAre zs (rows.flatten.map f) → Q (.ref D) { s₁ with heap := h', toks := tk }) E s)
    (hs : ∀ x, foldedSetIterable iter env x = pure x := by intro _; rfl) :
    wpAny (model prog w) A (eval (cc2 elt iter x y px py px2 scope pos) env) Q E s := by
  rw [eval_ListComp]
  refine wpAny_comprehension_free (use := none) rfl hs hclos hkind hnames (wpAny_mono h (fun xv s₁ h₁ => ?_) fun _ _ e => e)
  obtain ⟨t, its, rows, rfl, hl, hT, hsz, hQ⟩ := h₁
  have hlt : t < s₁.heap.objs.size := by obtain ⟨_, e, _⟩ := hl; exact Heap.lt_size e
  refine wpAny_pyIter_list hl ?_
  refine wpAny_newObj_type (wpAny_newFunctionEnv hcell (by intro y hy; simp at hy) (fun h₁ hns₁ hsb₁ => ?_) hkind)
  dsimp only at hns₁ hsb₁ ⊢
  obtain ⟨J, hJe⟩ : ∃ J, J = s₁.heap.objs.size := ⟨_, rfl⟩
  obtain ⟨H1, hH1⟩ : ∃ H1 : Heap, H1 = s₁.heap.push { cls := .type "list_iterator", data := .fields #[.ref t, .int 0 0] } := ⟨_, rfl⟩
  obtain ⟨H2, hH2⟩ : ∃ H2 : Heap, H2 = H1.push { cls := .type "list", dict := none, data := .seq ([] : List Value).toArray } := ⟨_, rfl⟩
  rw [← hH1, ← hH2] at hns₁ hsb₁
  rw [← hH1, ← hH2, ← hJe]
  obtain ⟨D, hDe⟩ : ∃ D, D = H1.objs.size := ⟨_, rfl⟩
  obtain ⟨C, hCe⟩ : ∃ C, C = H2.objs.size := ⟨_, rfl⟩
  rw [← hCe] at hns₁ hsb₁ ⊢
  rw [← hDe]
  have e1 : D = J + 1 := by rw [hDe, hH1, Heap.size_push, hJe]
  have e2 : C = J + 1 + 1 := by rw [hCe, hH2, Heap.size_push, ← hDe, e1]
  have k1 : Kp s₁.heap h₁ := fun b o e => by
    have hb := Heap.lt_size e
    refine hsb₁.extBut b o ?_ ?_
    · intro q; rw [← hJe] at hb; simp only [Addr] at *; omega
    · refine Heap.get?_push_of_some _ ?_
      rw [hH2, hH1]; exact Heap.get?_push_of_some _ (Heap.get?_push_of_some _ e)
  have hJ1 : h₁.IsListIter J t 0 := by
    refine ⟨{ cls := .type "list_iterator", data := .fields #[.ref t, .int 0 0] }, hsb₁.extBut _ _ (by simp only [Addr] at *; omega) ?_, rfl, rfl⟩
    refine Heap.get?_push_of_some _ ?_
    rw [hH2, hH1, hJe]
    exact Heap.get?_push_of_some _ (Heap.get?_push_size _ rfl)
  have hD1 : h₁.get? D = some (lst []) := by
    refine hsb₁.extBut _ _ (by simp only [Addr] at *; omega) ?_
    refine Heap.get?_push_of_some _ ?_
    rw [hH2, hDe]
    exact Heap.get?_push_size _ rfl
  have below : ∀ {b o}, s₁.heap.get? b = some o → b ≠ J ∧ b ≠ D ∧ b ≠ C := fun {b o} e => by
    have hb := Heap.lt_size e
    rw [← hJe] at hb
    simp only [Addr] at *
    omega
  have W := Walks.list (prog := prog) (w := w) hh J t (Nat.ne_of_lt (by rw [hJe]; exact hlt)) its.toArray
  have loop : ∀ tk₀, codeAny (model prog w) A (.compLoop (cc2 elt iter x y px py px2 scope pos) 0 (.ref J) (.ref D) (compEnvC scope cl C env)) (compPost (model prog w) A E none Q (.ref D) C) { s₁ with heap := h₁, toks := tk₀ } := by
    intro tk₀
    refine loop2_0 hh (fun k s' => ∃ h' tk i m' zs, s' = { s₁ with heap := h', toks := tk } ∧ i ≤ rows.length ∧ k = rows.length + 1 - i ∧ Kp s₁.heap h' ∧
      h'.get? D = some (lst zs) ∧ IntsAre zs ((rows.take i).flatten.map f) ∧ h'.Ns C m' ∧ h'.IsListIter J t i) ?_ (rows.length + 1) ⟨h₁, tk₀, 0, _, [], rfl, Nat.zero_le _, rfl, k1, hD1, by simpa using IntsAre.nil, hns₁, hJ1⟩
    rintro k s' E' ⟨h', tk, i, m', zs, rfl, hi, rfl, hk, hD', hz', hC', hJ'⟩
    have hl' : h'.IsList t its.toArray := hl.at fun o e => hk _ _ e
    by_cases hlt : i < rows.length
    · refine W.item i _ _ _ (by simpa [hT.1] using hlt) ⟨hJ', hl'⟩ fun v h₂ tk₂ hv hst hk₂ => ?_
      have hk₂' : ∀ b o, b ≠ J → h'.get? b = some o → h₂.get? b = some o := fun b o hb e => hk₂ b o (fun q => hb (List.mem_singleton.mp q)) e
      obtain ⟨row, hrow⟩ : ∃ row, rows[i]? = some row := ⟨_, List.getElem?_eq_getElem hlt⟩
      obtain ⟨r, vs, hr1, hr2, hr3⟩ := hT.2 i row hrow
      have hv' : its[i]? = some v := by simpa using hv
      rw [hr1] at hv'
      cases hv'
      obtain ⟨or, hor, hor2⟩ := id hr2
      have hrb := below hor
      have hr2k : ∀ {g : Heap}, (∀ o, s₁.heap.get? r = some o → g.get? r = some o) → g.IsList r vs.toArray := fun k => hr2.at k
      dsimp only
      refine wpAny_assign_Name (wpAny_storeName_local (lookup_relabel_local hx) (hC'.at' fun o e => hk₂' _ o (by simp only [Addr] at *; omega) e) (fun h₃ hn₃ hs₃ => ?_) (by simp [compEnvC, relabel, hkind]))
      refine wpAny_Name (wpAny_loadName_local (env := compEnvC scope cl C env) (v := .ref r) (by simp [compEnvC, relabel, hkind]) (lookup_relabel_local hx) hn₃ (by simp) ?_) hb
      have hs₃ : Heap.SameBut C h₂ h₃ := hs₃
      have k3 : Kp s₁.heap h₃ := fun b o e => hs₃.extBut b o (below e).2.2 (hk₂' _ _ (below e).1 (hk b o e))
      have hl3 : h₃.IsList r vs.toArray := hr2.at fun o e => k3 _ _ e
      refine wpAny_pyIter_list hl3 ?_
      dsimp only
      have hJlt : J < h₃.objs.size := by
        obtain ⟨o, e, _⟩ := hst.1
        exact Heap.lt_size (hs₃.extBut _ _ (by simp only [Addr] at *; omega) e)
      have hClt : C < h₃.objs.size := by
        obtain ⟨o, _, _, e, _⟩ := hn₃
        exact Heap.lt_size e
      have hD3 : h₃.get? D = some (lst zs) := hs₃.extBut _ _ (by simp only [Addr] at *; omega) (hk₂' _ _ (by simp only [Addr] at *; omega) hD')
      have hflat : (rows.take (i + 1)).flatten.length ≤ 4096 := by
        have h2 : rows.flatten.length = (rows.take (i + 1)).flatten.length + (rows.drop (i + 1)).flatten.length := by
          rw [← List.length_append, ← List.flatten_append, List.take_append_drop]
        omega
      have hflat2 : (rows.take (i + 1)).flatten = (rows.take i).flatten ++ row := by rw [List.take_add_one, hrow, List.flatten_append]; simp
      refine inner2 (m := _) (zs := zs) (ks := (rows.take i).flatten.map f) (ns := row) hh hkind hy helt (hl3.push _) hr3 ⟨_, Heap.get?_push_size _ rfl, rfl, rfl⟩ (Heap.get?_push_of_some _ hD3) hz' (hn₃.at' fun o e => Heap.get?_push_of_some _ e) ?_ ?_ ?_ ?_ hrb.2.2 hrb.2.1 ?_ ?_
      · rw [hflat2, List.length_append] at hflat
        rw [List.length_map]; exact hflat
      · simp only [Addr] at *; omega
      · exact Nat.ne_of_lt hClt
      · exact Nat.ne_of_lt (by have := Heap.lt_size hD3; exact this)
      · exact Nat.ne_of_lt (Nat.lt_trans (Heap.lt_size hor |> fun q => by rw [← hJe] at q; exact q) hJlt)
      · intro h₆ tk₆ m₆ zs₆ hk₆ hD₆ hz₆ hC₆
        have up : ∀ b o, b ≠ D → b ≠ C → h₃.get? b = some o → h₆.get? b = some o := fun b o h1 h2 e => hk₆ b o h1 h2 (Nat.ne_of_lt (Heap.lt_size e)) (Heap.get?_push_of_some _ e)
        refine ⟨rfl, rows.length + 1 - (i + 1), by omega, h₆, tk₆, i + 1, m₆, zs₆, rfl, hlt, rfl, fun b o e => up b o (below e).2.1 (below e).2.2 (k3 b o e), hD₆, ?_, hC₆, ?_⟩
        · rw [hflat2, List.map_append]; exact hz₆
        · exact hst.1.at fun o e => up _ _ (by simp only [Addr] at *; omega) (by simp only [Addr] at *; omega) (hs₃.extBut _ _ (by simp only [Addr] at *; omega) e)
    · have hin : i = rows.length := by omega
      subst hin
      refine W.done _ _ _ (by rw [show its.toArray.size = rows.length by simp [hT.1]]; exact ⟨hJ', hl'⟩) fun h₂ tk₂ hk₂ => ?_
      have hk₂' : ∀ b o, b ≠ J → h'.get? b = some o → h₂.get? b = some o := fun b o hb e => hk₂ b o (fun q => hb (List.mem_singleton.mp q)) e
      refine ⟨m', hC'.at' fun o e => hk₂' _ o (by simp only [Addr] at *; omega) e, fun h'' hs'' => hQ D h'' tk₂ zs (fun b o e => hs''.extBut _ _ (below e).2.2 (hk₂' _ _ (below e).1 (hk b o e))) (none_of_le (by rw [← hJe]; simp only [Addr] at *; omega)) (hs''.extBut _ _ (by simp only [Addr] at *; omega) (hk₂' _ _ (by simp only [Addr] at *; omega) hD')) ?_⟩
      rwa [List.take_length] at hz'
  exact start2 (by omega) (loop _) fun E => W.self 0 _ _ _ ⟨hJ1, hl.at fun o e => k1 _ _ e⟩ (loop _)
end
end Mine
end TC3

section TGr
open PySem PySem.W PyProof.Rows PySem.Calls
set_option maxRecDepth 100000
set_option maxHeartbeats 8000000
namespace Mine
theorem rows_gather {h h' : Heap} {f : Nat → List Int} {rows : List Value} : ∀ {n : Nat}, n ≤ rows.length → (∀ p < n, ∃ (r : Addr) (us : List Value) (kr : Nat), rows[p]? = some (.ref r) ∧ h'.get? r = some (listOf us.toArray kr) ∧ IntsAre us (f p) ∧ h.get? r = none) →
    ∃ rs, RowsAt f n (rows.take n) rs ∧ ∀ q ∈ rs, h.get? q.1 = none ∧ h'.get? q.1 = some q.2
  | 0, _, _ => ⟨[], ⟨rfl, fun j hj => absurd hj (Nat.not_lt_zero _)⟩, fun _ h => nomatch h⟩
  | n + 1, hn, H => by
    obtain ⟨rs, R, hq⟩ := rows_gather (n := n) (by omega) fun p hp => H p (by omega)
    obtain ⟨r, us, kr, e1, e2, e3, e4⟩ := H n (by omega)
    refine ⟨(r, listOf us.toArray kr) :: rs, ?_, fun q hq' => ?_⟩
    · have : rows.take (n + 1) = rows.take n ++ [.ref r] := by rw [List.take_add_one, e1]; rfl
      rw [this]
      exact R.snoc e3
    · rcases List.mem_cons.mp hq' with rfl | hq'
      · exact ⟨e4, e2⟩
      · exact hq q hq'
theorem News.hid {g h h' : Heap} {L : Addr} {news : List (Addr × Obj)} (N : News g L h news) (hk : Kp (h.hide 42) h') (hne : ∀ p ∈ news, p.1 ≠ 42) : News g L h' news :=
  fun p hp => ⟨hk _ _ ((Heap.hide_ne _ (hne p hp)).trans (N p hp).1), (N p hp).2⟩
theorem RowsAt.tab {g h : Heap} {L : Addr} {f : Nat → List Int} {n : Nat} {ys : List Value} {rs : List (Addr × Obj)} (R : RowsAt f n ys rs) (N : News g L h rs) :
    ys.length = ((List.range n).map f).length ∧ ∀ (i : Nat) (row : List Int), ((List.range n).map f)[i]? = some row → ∃ (r : Addr) (vs : List Value), ys[i]? = some (Value.ref r) ∧ h.IsList r vs.toArray ∧ IntsAre vs row := by
  refine ⟨by simp [R.1], fun i row e => ?_⟩
  have hi : i < n := by
    have := (List.getElem?_eq_some_iff.mp e).1
    simpa using this
  obtain ⟨a, us, k, e1, e2, e3⟩ := R.2 i hi
  have : row = f i := by simpa [hi] using e.symm
  subst this
  exact ⟨a, us, e1, isL (N _ e2).1, e3⟩
theorem RowsAt.more {f : Nat → List Int} {n : Nat} {ys : List Value} {rs rs' : List (Addr × Obj)} (R : RowsAt f n ys rs) (h : ∀ p ∈ rs, p ∈ rs') : RowsAt f n ys rs' :=
  ⟨R.1, fun j hj => let ⟨a, us, k, e1, e2, e3⟩ := R.2 j hj; ⟨a, us, k, e1, h _ e2, e3⟩⟩
end Mine
end TGr

section TPl0
open PySem PySem.W PyProof.Rows PySem.Calls
namespace Mine
/-! the plain law's words -/
def rowN (ws bs : List Int) (p : Nat) : List Int := turnN ws ((placesN ws bs ws.length).idxOf (p : Int))
def endsN (ws bs : List Int) : List Int := (List.range 8).map fun p => (rowN ws bs p).getD 7 0
def firstsN (ws bs : List Int) : List Int := (List.range 8).map fun p => (rowN ws bs p).getD 0 0
def lineN (ws bs : List Int) (rb : Bool) : List Int := laidN (endsN ws bs) bs rb (thingsN 8 rb) 3
def spotN (line : List Int) (st : Nat) : Nat → Nat
  | 0 => st
  | k + 1 => line.idxOf (spotN line st k : Int)
def tapeN (ends line : List Int) (n : Nat) : List Int := (List.range n).flatMap fun st => (List.range 8).map fun k => 127 * ends.getD (spotN line st k) 0
structure Plain (ws bs : List Int) (rb : Bool) : Prop where
  perm : ∀ p < ws.length, ((p : Nat) : Int) ∈ placesN ws bs ws.length
  small : ∀ p, ∀ n ∈ rowN ws bs p, 0 ≤ n ∧ n < 3
  parted : lotN [0, 1, 2] (endsN ws bs) 0 ++ lotN [0, 1, 2] (endsN ws bs) 1 ++ lotN [0, 1, 2] (endsN ws bs) 2 = firstsN ws bs
  len : (lineN ws bs rb).length = 8
  mem : ∀ q < 8, ((q : Nat) : Int) ∈ lineN ws bs rb
  told : ∀ k < 8, ∀ j < 8, (endsN ws bs).getD (spotN (lineN ws bs rb) k j) 0 = (rowN ws bs k).getD (7 - j) 0
theorem flat_len {f : Nat → List Int} (hf : ∀ k, (f k).length = 8) (n : Nat) : ((List.range n).flatMap f).length = n * 8 := by
  induction n with
  | zero => rfl
  | succ n ih => rw [List.range_succ, List.flatMap_append, List.length_append, ih]; simp [hf]; omega
theorem flat_get {f : Nat → List Int} (hf : ∀ k, (f k).length = 8) {k m : Nat} (hm : m < 8) : ∀ n, k < n → ((List.range n).flatMap f)[k * 8 + m]? = (f k)[m]?
  | 0, h => absurd h (Nat.not_lt_zero _)
  | n + 1, h => by
    rw [List.range_succ, List.flatMap_append]
    by_cases hk : k < n
    · rw [List.getElem?_append_left (by rw [flat_len hf]; omega)]
      exact flat_get hf hm n hk
    · have : k = n := by omega
      subst this
      rw [List.getElem?_append_right (by rw [flat_len hf]; omega), flat_len hf]
      simp
/-- what the law's ring is -/
def RingIs (ws : List Int) : Prop := ws.length = 8 ∧ ∀ n ∈ ws, 0 ≤ n ∧ n < 3
theorem turn_len {ws : List Int} {k : Nat} : (turnN ws k).length = ws.length := by
  unfold turnN; rw [List.length_append, List.length_drop, List.length_take]; omega
theorem row_len {ws bs : List Int} {p : Nat} : (rowN ws bs p).length = ws.length := turn_len
theorem ends_len {ws bs : List Int} : (endsN ws bs).length = 8 := by simp [endsN]
theorem tape_succ {e l : List Int} {i : Nat} : tapeN e l (i + 1) = tapeN e l i ++ (List.range 8).map fun k => 127 * e.getD (spotN l i k) 0 := by
  unfold tapeN
  generalize List.range 8 = r8
  rw [List.range_succ, List.flatMap_append]
  simp
theorem tape_len {e l : List Int} {i : Nat} : (tapeN e l i).length = i * 8 := by
  induction i with
  | zero => rfl
  | succ i ih => rw [tape_succ, List.length_append, ih, List.length_map, List.length_range]; omega
theorem told_eq {ws bs : List Int} {rb : Bool} {R : Array UInt8} (hr : RingIs ws) (P : Plain ws bs rb) (hR1 : R.size = (byteArr (tapeN (endsN ws bs) (lineN ws bs rb) 8)).size)
    (hR2 : ∀ k < 8, ∀ j < 8, R[k * 8 + (8 - 1 - j)]? = (byteArr (tapeN (endsN ws bs) (lineN ws bs rb) 8))[k * 8 + j]?) : R = byteArr (((List.range 8).map (rowN ws bs)).flatten.map fun n => 127 * n) := by
  have hrl : ∀ k, (rowN ws bs k).length = 8 := fun k => by rw [row_len, hr.1]
  have hfl : ((List.range 8).map (rowN ws bs)).flatten = (List.range 8).flatMap (rowN ws bs) := by rw [List.flatMap_def]
  rw [hfl]
  rw [byteArr_size, tape_len] at hR1
  apply Array.ext_getElem?
  intro i
  by_cases hi : i < 64
  · have e : i = (i / 8) * 8 + (8 - 1 - (7 - i % 8)) := by omega
    have hk : i / 8 < 8 := by omega
    have hj : 7 - i % 8 < 8 := by omega
    have h1 := hR2 (i / 8) hk (7 - i % 8) hj
    rw [← e] at h1
    rw [h1]
    have h2 : (tapeN (endsN ws bs) (lineN ws bs rb) 8)[i / 8 * 8 + (7 - i % 8)]? = some (127 * (rowN ws bs (i / 8)).getD (i % 8) 0) := by
      unfold tapeN
      rw [flat_get (f := fun st => (List.range 8).map fun k => 127 * (endsN ws bs).getD (spotN (lineN ws bs rb) st k) 0) (fun k => by simp) hj 8 hk]
      rw [List.getElem?_map, List.getElem?_range hj]
      simp only [Option.map_some]
      rw [P.told _ hk _ hj, show 7 - (7 - i % 8) = i % 8 by omega]
    have h3 : ((List.range 8).flatMap (rowN ws bs))[i]? = some ((rowN ws bs (i / 8)).getD (i % 8) 0) := by
      have := flat_get hrl (k := i / 8) (m := i % 8) (by omega) 8 hk
      rw [show i / 8 * 8 + i % 8 = i by omega] at this
      rw [this, List.getD_eq_getElem?_getD, List.getElem?_eq_getElem (by rw [hrl]; omega)]
      rfl
    simp only [byteArr, List.getElem?_toArray, List.getElem?_map, h2, h3, Option.map_some]
  · rw [Array.getElem?_eq_none (by omega), Array.getElem?_eq_none (by rw [byteArr_size, List.length_map, flat_len hrl]; omega)]
end Mine
end TPl0

section TPl1
namespace Mine
/-! the order of the words -/
theorem ahead_self {bs : List Int} : ∀ {bk : Bool} {xs : List Int}, ahead bs bk xs xs = false
  | _, [] => by simp [ahead]
  | bk, x :: xs => by rw [ahead, if_pos rfl]; exact ahead_self
theorem ahead_swap {bs : List Int} : ∀ {bk : Bool} {xs ys : List Int}, xs.length = ys.length → xs ≠ ys → ahead bs bk ys xs = !ahead bs bk xs ys
  | _, [], [], _, h => absurd rfl h
  | bk, x :: xs, y :: ys, hl, h => by
    by_cases e : x = y
    · subst e
      rw [ahead, ahead, if_pos rfl, if_pos rfl]
      exact ahead_swap (by simpa using hl) fun q => h (by rw [q])
    · rw [ahead, ahead, if_neg e, if_neg (Ne.symm e)]
      rcases Int.lt_or_gt_of_ne e with l | l
      · rw [decide_eq_true l, decide_eq_false (by omega)]; cases bk <;> rfl
      · rw [decide_eq_true (show y < x from l), decide_eq_false (by omega)]; cases bk <;> rfl
theorem ahead_flip {bs : List Int} : ∀ {bk : Bool} {xs ys : List Int}, xs.length = ys.length → xs ≠ ys → ahead bs (!bk) xs ys = !ahead bs bk xs ys
  | _, [], [], _, h => absurd rfl h
  | bk, x :: xs, y :: ys, hl, h => by
    by_cases e : x = y
    · subst e
      rw [ahead, ahead, if_pos rfl, if_pos rfl]
      have hl' : xs.length = ys.length := by simpa using hl
      have h' : xs ≠ ys := fun q => h (by rw [q])
      by_cases m : x ∈ bs
      · rw [if_pos m, if_pos m]; exact ahead_flip hl' h'
      · rw [if_neg m, if_neg m]; exact ahead_flip hl' h'
    · rw [ahead, ahead, if_neg e, if_neg e]
      cases bk <;> cases (decide (x < y)) <;> rfl
theorem ahead_trans {bs : List Int} : ∀ {bk : Bool} {xs ys zs : List Int}, ahead bs bk xs ys = true → ahead bs bk ys zs = true → ahead bs bk xs zs = true
  | _, [], _, _, h, _ => by simp [ahead] at h
  | _, _ :: _, [], _, h, _ => by simp [ahead] at h
  | _, _ :: _, _ :: _, [], _, h => by simp [ahead] at h
  | bk, x :: xs, y :: ys, z :: zs, h1, h2 => by
    rw [ahead] at h1 h2 ⊢
    by_cases e1 : x = y
    · subst e1
      rw [if_pos rfl] at h1
      by_cases e2 : x = z
      · subst e2
        rw [if_pos rfl] at h2 ⊢
        exact ahead_trans h1 h2
      · rw [if_neg e2] at h2 ⊢; exact h2
    · rw [if_neg e1] at h1
      by_cases e2 : y = z
      · subst e2
        rw [if_neg e1]; exact h1
      · rw [if_neg e2] at h2
        cases bk
        · simp only [Bool.bne_false, decide_eq_true_eq] at h1 h2
          rw [if_neg (by omega)]; simp; omega
        · simp only [Bool.bne_true, Bool.not_eq_true', decide_eq_false_iff_not] at h1 h2
          rw [if_neg (by omega)]; simp; omega
theorem ahead_snoc {bs : List Int} {c : Int} : ∀ {bk : Bool} {xs ys : List Int}, xs.length = ys.length → ahead bs bk (xs ++ [c]) (ys ++ [c]) = ahead bs bk xs ys
  | bk, [], [], _ => by simp [ahead]
  | bk, x :: xs, y :: ys, hl => by
    simp only [List.cons_append]
    rw [ahead, ahead]
    rw [ahead_snoc (by simpa using hl)]
/-- not behind -/
def leW (bs : List Int) (xs ys : List Int) : Prop := ahead bs false ys xs = false
theorem leW_anti {bs xs ys : List Int} (hl : xs.length = ys.length) (h1 : leW bs xs ys) (h2 : leW bs ys xs) : xs = ys := by
  by_cases e : xs = ys
  · exact e
  · unfold leW at h1 h2
    rw [ahead_swap hl e, h2] at h1
    cases h1
/-- the last letter to the front -/
def rot (xs : List Int) : List Int := xs.getD 7 0 :: xs.take 7
theorem split8 {xs : List Int} (h : xs.length = 8) : xs = xs.take 7 ++ [xs.getD 7 0] := by
  have : xs.getD 7 0 = xs[7] := by rw [List.getD_eq_getElem?_getD, List.getElem?_eq_getElem (by omega)]; rfl
  rw [this]
  have h2 := List.take_append_getElem (l := xs) (i := 7) (by omega)
  rw [h2, List.take_of_length_le (by omega)]
theorem take7_len {xs : List Int} (h : xs.length = 8) : (xs.take 7).length = 7 := by rw [List.length_take]; omega
/-- rows that end alike: their turns stand in the rows' order, or against it -/
theorem rot_le {bs xs ys : List Int} (hx : xs.length = 8) (hy : ys.length = 8) (hc : xs.getD 7 0 = ys.getD 7 0) (h : if xs.getD 7 0 ∈ bs then leW bs ys xs else leW bs xs ys) : leW bs (rot xs) (rot ys) := by
  have ex := split8 hx
  have ey := split8 hy
  have hl : (ys.take 7).length = (xs.take 7).length := by rw [take7_len hx, take7_len hy]
  unfold leW rot
  rw [hc, ahead, if_pos rfl]
  by_cases q : ys.take 7 = xs.take 7
  · rw [q]; exact ahead_self
  rw [hc] at h
  by_cases m : ys.getD 7 0 ∈ bs
  · rw [if_pos m] at h ⊢
    unfold leW at h
    rw [ex, ey] at h
    rw [hc, ahead_snoc hl.symm] at h
    rw [ahead_flip hl q, ahead_swap hl.symm (Ne.symm q), h]
    rfl
  · rw [if_neg m] at h ⊢
    unfold leW at h
    rw [ex, ey] at h
    rwa [hc, ahead_snoc hl] at h
theorem rot_lt {bs xs ys : List Int} (hc : xs.getD 7 0 < ys.getD 7 0) : leW bs (rot xs) (rot ys) := by
  unfold leW rot
  rw [ahead, if_neg (by omega), decide_eq_false (by omega)]
  rfl
end Mine
end TPl1

section TPl2
namespace Mine
/-! places are ranks -/
theorem countP_two {α : Type} {p q : α → Bool} : ∀ {l : List α}, (∀ x ∈ l, p x = true → q x = false) → l.countP p + l.countP q = l.countP fun x => p x || q x
  | [], _ => rfl
  | a :: l, h => by
    have ih := countP_two (l := l) fun x hx => h x (List.mem_cons_of_mem _ hx)
    have ha := h a List.mem_cons_self
    rw [List.countP_cons, List.countP_cons, List.countP_cons, ← ih]
    cases hp : p a
    · simp; omega
    · rw [ha hp]; simp; omega
theorem countP_lt {α : Type} {p q : α → Bool} {a : α} : ∀ {l : List α}, (∀ x ∈ l, p x = true → q x = true) → a ∈ l → q a = true → p a = false → l.countP p < l.countP q
  | [], _, h, _, _ => nomatch h
  | b :: l, h, ha, hq, hp => by
    have hmono : l.countP p ≤ l.countP q := List.countP_mono_left fun x hx => h x (List.mem_cons_of_mem _ hx)
    rw [List.countP_cons, List.countP_cons]
    rcases List.mem_cons.mp ha with rfl | ha
    · rw [hq, hp]; simp; omega
    · have ih := countP_lt (fun x hx => h x (List.mem_cons_of_mem _ hx)) ha hq hp
      have hb := h b List.mem_cons_self
      cases e : p b
      · simp; omega
      · rw [hb e]; simp; omega
theorem countP_upto {p : Nat → Bool} {k n : Nat} (h : k ≤ n) : (List.range k).countP p = (List.range n).countP fun j => p j && decide (j < k) := by
  obtain ⟨d, rfl⟩ : ∃ d, n = k + d := ⟨n - k, by omega⟩
  rw [List.range_add, List.countP_append]
  have h1 : (List.range k).countP (fun j => p j && decide (j < k)) = (List.range k).countP p := List.countP_congr fun x hx => by
    have := List.mem_range.mp hx
    simp [this]
  have h2 : ((List.range d).map (k + ·)).countP (fun j => p j && decide (j < k)) = 0 := by
    rw [List.countP_eq_zero]
    intro a ha
    obtain ⟨b, _, rfl⟩ := List.mem_map.mp ha
    simp
  rw [h1, h2]
  rfl
def before (ws bs : List Int) (i k : Nat) : Bool := ahead bs false (turnN ws i) (turnN ws k) || (decide (turnN ws i = turnN ws k) && decide (i < k))
theorem turn_eqlen {ws : List Int} {i k : Nat} : (turnN ws i).length = (turnN ws k).length := by rw [turn_len, turn_len]
theorem place_count {ws bs : List Int} {k : Nat} (hk : k ≤ ws.length) : placeN ws bs k = (List.range ws.length).countP fun j => before ws bs j k := by
  unfold placeN lessN likeN before
  rw [← List.countP_eq_length_filter, ← List.countP_eq_length_filter, countP_upto hk, countP_two]
  intro x _ hx
  by_cases e : turnN ws x = turnN ws k
  · rw [e, ahead_self] at hx; cases hx
  · simp [e]
theorem before_self {ws bs : List Int} {k : Nat} : before ws bs k k = false := by unfold before; rw [ahead_self]; simp
theorem before_trans {ws bs : List Int} {i j k : Nat} (h1 : before ws bs i j = true) (h2 : before ws bs j k = true) : before ws bs i k = true := by
  unfold before at h1 h2 ⊢
  simp only [Bool.or_eq_true, Bool.and_eq_true, decide_eq_true_eq] at h1 h2 ⊢
  rcases h1 with h1 | ⟨e1, l1⟩
  · rcases h2 with h2 | ⟨e2, l2⟩
    · exact .inl (ahead_trans h1 h2)
    · rw [e2] at h1; exact .inl h1
  · rcases h2 with h2 | ⟨e2, l2⟩
    · rw [e1]; exact .inl h2
    · exact .inr ⟨e1.trans e2, Nat.lt_trans l1 l2⟩
theorem before_total {ws bs : List Int} {i k : Nat} (h : i ≠ k) : before ws bs i k = true ∨ before ws bs k i = true := by
  unfold before
  by_cases e : turnN ws i = turnN ws k
  · rcases Nat.lt_or_gt_of_ne h with l | l
    · exact .inl (by simp [e, l])
    · exact .inr (by simp [e, l])
  · have := ahead_swap (bs := bs) (bk := false) turn_eqlen e
    cases q : ahead bs false (turnN ws i) (turnN ws k)
    · rw [q] at this; exact .inr (by rw [this]; rfl)
    · exact .inl rfl
theorem place_lt {ws bs : List Int} {i k : Nat} (hi : i < ws.length) (hk : k < ws.length) (h : before ws bs i k = true) : placeN ws bs i < placeN ws bs k := by
  rw [place_count (Nat.le_of_lt hi), place_count (Nat.le_of_lt hk)]
  exact countP_lt (a := i) (fun x _ hx => before_trans hx h) (List.mem_range.mpr hi) h before_self
theorem place_bound {ws bs : List Int} {k : Nat} (hk : k < ws.length) : placeN ws bs k < ws.length := by
  rw [place_count (Nat.le_of_lt hk)]
  have := countP_lt (p := fun j => before ws bs j k) (q := fun _ => true) (a := k) (l := List.range ws.length) (fun _ _ _ => rfl) (List.mem_range.mpr hk) rfl before_self
  simpa using this
theorem place_inj {ws bs : List Int} {i k : Nat} (hi : i < ws.length) (hk : k < ws.length) (h : placeN ws bs i = placeN ws bs k) : i = k := by
  by_cases e : i = k
  · exact e
  · rcases before_total (bs := bs) (ws := ws) e with q | q
    · have := place_lt hi hk q; omega
    · have := place_lt hk hi q; omega
theorem place_hit {ws bs : List Int} {p : Nat} (hp : p < ws.length) : ∃ k < ws.length, placeN ws bs k = p := by
  have hnd : ((List.range ws.length).map (placeN ws bs)).Nodup := by
    rw [List.nodup_iff_pairwise_ne, List.pairwise_map]
    refine List.Pairwise.imp_of_mem ?_ (List.nodup_iff_pairwise_ne.mp List.nodup_range)
    intro a b ha hb hab e
    exact hab (place_inj (List.mem_range.mp ha) (List.mem_range.mp hb) e)
  have hsub : ∀ a ∈ (List.range ws.length).map (placeN ws bs), a ∈ List.range ws.length := fun a ha => by
    obtain ⟨k, hk, rfl⟩ := List.mem_map.mp ha
    exact List.mem_range.mpr (place_bound (List.mem_range.mp hk))
  by_cases hm : p ∈ (List.range ws.length).map (placeN ws bs)
  · obtain ⟨k, hk, e⟩ := List.mem_map.mp hm
    exact ⟨k, List.mem_range.mp hk, e⟩
  · have := List.Nodup.length_le_of_subset (l₁ := p :: (List.range ws.length).map (placeN ws bs)) (l₂ := List.range ws.length) (List.nodup_cons.mpr ⟨hm, hnd⟩) (fun a ha => by
      rcases List.mem_cons.mp ha with rfl | ha
      · exact List.mem_range.mpr hp
      · exact hsub a ha)
    simp only [List.length_cons, List.length_map, List.length_range] at this
    omega
def idxN (ws bs : List Int) (p : Nat) : Nat := (placesN ws bs ws.length).idxOf (p : Int)
theorem places_mem {ws bs : List Int} {p : Nat} (hp : p < ws.length) : ((p : Nat) : Int) ∈ placesN ws bs ws.length := by
  obtain ⟨k, hk, e⟩ := place_hit (bs := bs) hp
  exact List.mem_map.mpr ⟨k, List.mem_range.mpr hk, by rw [e]⟩
theorem idx_lt {ws bs : List Int} {p : Nat} (hp : p < ws.length) : idxN ws bs p < ws.length := by
  have := List.idxOf_lt_length_iff.mpr (places_mem (bs := bs) hp)
  simpa [placesN, idxN] using this
theorem idx_place {ws bs : List Int} {p : Nat} (hp : p < ws.length) : placeN ws bs (idxN ws bs p) = p := by
  have h := List.idxOf_lt_length_iff.mpr (places_mem (bs := bs) hp)
  have h2 := List.getElem_idxOf h
  have key : ∀ i (h : i < (placesN ws bs ws.length).length), (placesN ws bs ws.length)[i] = (placeN ws bs i : Int) := fun i h => by simp [placesN]
  rw [key] at h2
  exact Int.ofNat.inj h2
theorem row_idx {ws bs : List Int} {p : Nat} : rowN ws bs p = turnN ws (idxN ws bs p) := rfl
theorem rows_sorted {ws bs : List Int} {p q : Nat} (hp : p < ws.length) (hq : q < ws.length) (h : p < q) : leW bs (rowN ws bs p) (rowN ws bs q) := by
  unfold leW
  cases e : ahead bs false (rowN ws bs q) (rowN ws bs p)
  · rfl
  · have : before ws bs (idxN ws bs q) (idxN ws bs p) = true := by
      unfold before
      rw [← row_idx, ← row_idx, e]; rfl
    have := place_lt (idx_lt hq) (idx_lt hp) this
    rw [idx_place hq, idx_place hp] at this
    omega
theorem idx_perm {ws bs : List Int} : ((List.range ws.length).map (idxN ws bs)).Perm (List.range ws.length) := by
  rw [List.perm_ext_iff_of_nodup ?_ List.nodup_range]
  · intro a
    constructor
    · intro ha
      obtain ⟨p, hp, rfl⟩ := List.mem_map.mp ha
      exact List.mem_range.mpr (idx_lt (List.mem_range.mp hp))
    · intro ha
      have ha := List.mem_range.mp ha
      have hb := place_bound (bs := bs) ha
      exact List.mem_map.mpr ⟨placeN ws bs a, List.mem_range.mpr hb, place_inj (bs := bs) (idx_lt hb) ha (idx_place hb)⟩
  · rw [List.nodup_iff_pairwise_ne, List.pairwise_map]
    refine List.Pairwise.imp_of_mem ?_ (List.nodup_iff_pairwise_ne.mp List.nodup_range)
    intro a b ha hb hab e
    have h1 := idx_place (bs := bs) (List.mem_range.mp ha)
    have h2 := idx_place (bs := bs) (List.mem_range.mp hb)
    rw [e, h2] at h1
    exact hab h1.symm
theorem rows_perm {ws bs : List Int} : ((List.range ws.length).map (rowN ws bs)).Perm ((List.range ws.length).map (turnN ws)) := by
  have := (idx_perm (ws := ws) (bs := bs)).map (turnN ws)
  rwa [List.map_map] at this
end Mine
end TPl2

section TPl3
namespace Mine
theorem row8 {ws bs : List Int} (h : ws.length = 8) {p : Nat} : (rowN ws bs p).length = 8 := by rw [row_len, h]
/-! turns -/
theorem rot_turn {ws : List Int} (h : ws.length = 8) {k : Nat} (hk : k < 8) : rot (turnN ws (k + 1)) = turnN ws k := by
  have hd : (ws.drop (k + 1)).length = 7 - k := by rw [List.length_drop]; omega
  have e1 : (turnN ws (k + 1)).getD 7 0 = ws[k] := by
    unfold turnN
    rw [List.getD_eq_getElem?_getD, List.getElem?_append_right (by omega), hd, show 7 - (7 - k) = k by omega, List.getElem?_take, if_pos (by omega), List.getElem?_eq_getElem (by omega)]
    rfl
  have e2 : (turnN ws (k + 1)).take 7 = ws.drop (k + 1) ++ ws.take k := by
    unfold turnN
    rw [List.take_append, hd, List.take_of_length_le (by omega), show 7 - (7 - k) = k by omega, List.take_take, Nat.min_eq_left (by omega)]
  unfold rot
  rw [e1, e2]
  unfold turnN
  rw [List.drop_eq_getElem_cons (by omega : k < ws.length)]
  rfl
theorem turn_round {ws : List Int} (h : ws.length = 8) : turnN ws 8 = turnN ws 0 := by
  unfold turnN
  rw [List.drop_of_length_le (by omega), List.take_of_length_le (by omega)]
  simp
theorem turns_perm {ws : List Int} (h : ws.length = 8) : (((List.range 8).map (turnN ws)).map rot).Perm ((List.range 8).map (turnN ws)) := by
  have h1 : ((List.range 8).map (turnN ws)).Perm ((List.range 8).map fun k => turnN ws (k + 1)) := by
    show ([turnN ws 0] ++ [turnN ws 1, turnN ws 2, turnN ws 3, turnN ws 4, turnN ws 5, turnN ws 6, turnN ws 7]).Perm ([turnN ws 1, turnN ws 2, turnN ws 3, turnN ws 4, turnN ws 5, turnN ws 6, turnN ws 7] ++ [turnN ws 8])
    rw [turn_round h]
    exact List.perm_append_comm
  refine (h1.map rot).trans (.of_eq ?_)
  rw [List.map_map]
  exact List.map_congr_left fun k hk => rot_turn h (List.mem_range.mp hk)
/-! the line -/
def upN : List Int := (List.range 8).map fun k : Nat => (k : Int)
theorem partP_iff {sg : List Int} {g n : Int} : partP sg g n = true ↔ sg.getD n.toNat 0 = g := by unfold partP; exact decide_eq_true_iff
/-- in what is left of a list of positions the signs are 0, 1 or 2 -/
theorem lot_form {sg th : List Int} (hs : ∀ n ∈ th, 0 ≤ sg.getD n.toNat 0 ∧ sg.getD n.toNat 0 < 3) : ∀ c < 3, lotN sg th c = th.filter (partP sg c)
  | 0, _ => rfl
  | 1, _ => by
    show (th.filter fun n => !partP sg 0 n).filter (partP sg 1) = th.filter (partP sg 1)
    rw [List.filter_filter]
    refine List.filter_congr fun n _ => ?_
    cases e : partP sg 1 n
    · rfl
    · have := partP_iff.mp e
      cases e0 : partP sg 0 n
      · rfl
      · have := partP_iff.mp e0; omega
  | 2, _ => by
    show (th.filter fun n => !partP sg 0 n).filter (fun n => !partP sg 1 n) = th.filter (partP sg 2)
    rw [List.filter_filter]
    refine List.filter_congr fun n hn => ?_
    have hb := hs n hn
    cases e : partP sg 2 n
    · cases e0 : partP sg 0 n
      · cases e1 : partP sg 1 n
        · have h0 : sg.getD n.toNat 0 ≠ 0 := fun q => by rw [partP_iff.mpr q] at e0; cases e0
          have h1 : sg.getD n.toNat 0 ≠ 1 := fun q => by rw [partP_iff.mpr q] at e1; cases e1
          have h2 : sg.getD n.toNat 0 ≠ 2 := fun q => by rw [partP_iff.mpr q] at e; cases e
          omega
        · rfl
      · simp
    · have h2 := partP_iff.mp e
      cases e0 : partP sg 0 n
      · cases e1 : partP sg 1 n
        · rfl
        · have := partP_iff.mp e1; omega
      · have := partP_iff.mp e0; omega
def blkN (sg bs : List Int) (c : Nat) : List Int := if ((c : Nat) : Int) ∈ bs then (upN.filter (partP sg c)).reverse else upN.filter (partP sg c)
theorem turned_form {sg bs : List Int} {rb : Bool} (hs : ∀ n ∈ upN, 0 ≤ sg.getD n.toNat 0 ∧ sg.getD n.toNat 0 < 3) {c : Nat} (hc : c < 3) : turnedN sg bs rb (thingsN 8 rb) c = blkN sg bs c := by
  have hth : thingsN 8 rb = if rb then upN else upN.reverse := rfl
  have hs' : ∀ n ∈ thingsN 8 rb, 0 ≤ sg.getD n.toNat 0 ∧ sg.getD n.toNat 0 < 3 := fun n hn => hs n (by
    rw [hth] at hn
    cases rb
    · simpa using hn
    · simpa using hn)
  unfold turnedN blkN
  rw [lot_form hs' c hc, hth]
  by_cases m : ((c : Nat) : Int) ∈ bs
  · rw [if_pos m, decide_eq_true m]
    cases rb
    · simp [List.filter_reverse]
    · simp
  · rw [if_neg m, decide_eq_false m]
    cases rb
    · simp [List.filter_reverse]
    · simp
theorem line_form {sg bs : List Int} {rb : Bool} (hs : ∀ n ∈ upN, 0 ≤ sg.getD n.toNat 0 ∧ sg.getD n.toNat 0 < 3) : laidN sg bs rb (thingsN 8 rb) 3 = blkN sg bs 0 ++ blkN sg bs 1 ++ blkN sg bs 2 := by
  show (([] ++ turnedN sg bs rb (thingsN 8 rb) 0) ++ turnedN sg bs rb (thingsN 8 rb) 1) ++ turnedN sg bs rb (thingsN 8 rb) 2 = _
  rw [turned_form hs (by omega), turned_form hs (by omega), turned_form hs (by omega), List.nil_append]
theorem blk_perm {sg bs : List Int} {c : Nat} : (blkN sg bs c).Perm (upN.filter (partP sg c)) := by
  unfold blkN
  split
  · exact List.reverse_perm _
  · exact .refl _
theorem line_perm {sg bs : List Int} {rb : Bool} (hs : ∀ n ∈ upN, 0 ≤ sg.getD n.toNat 0 ∧ sg.getD n.toNat 0 < 3) : (laidN sg bs rb (thingsN 8 rb) 3).Perm upN := by
  rw [line_form hs]
  refine ((blk_perm.append blk_perm).append blk_perm).trans ?_
  rw [← lot_form hs 0 (by omega), ← lot_form hs 1 (by omega), ← lot_form hs 2 (by omega)]
  show ((upN.filter (partP sg 0) ++ (upN.filter fun n => !partP sg 0 n).filter (partP sg 1)) ++ (upN.filter fun n => !partP sg 0 n).filter fun n => !partP sg 1 n).Perm upN
  rw [List.append_assoc]
  exact ((List.filter_append_perm (partP sg 1) (upN.filter fun n => !partP sg 0 n)).append_left _).trans (List.filter_append_perm (partP sg 0) upN)
theorem blk_mem {sg bs : List Int} {c : Nat} {n : Int} (h : n ∈ blkN sg bs c) : n ∈ upN ∧ sg.getD n.toNat 0 = c := by
  have := (blk_perm.mem_iff).mp h
  exact ⟨(List.mem_filter.mp this).1, partP_iff.mp (List.mem_filter.mp this).2⟩
end Mine
end TPl3

section TPl4
namespace Mine
section
variable {ws bs : List Int} {rb : Bool}
theorem small_row (hr : RingIs ws) (p : Nat) : ∀ n ∈ rowN ws bs p, 0 ≤ n ∧ n < 3 := fun n hn => by
  unfold rowN turnN at hn
  rcases List.mem_append.mp hn with h | h
  · exact hr.2 n (List.mem_of_mem_drop h)
  · exact hr.2 n (List.mem_of_mem_take h)
theorem ends_at {q : Nat} (hq : q < 8) : (endsN ws bs).getD q 0 = (rowN ws bs q).getD 7 0 := by
  unfold endsN
  rw [List.getD_eq_getElem?_getD, List.getElem?_map, List.getElem?_range hq]
  rfl
theorem row_at (hr : RingIs ws) {p i : Nat} (hi : i < 8) : 0 ≤ (rowN ws bs p).getD i 0 ∧ (rowN ws bs p).getD i 0 < 3 := by
  have h8 : (rowN ws bs p).length = 8 := row8 hr.1
  refine small_row (bs := bs) hr p _ ?_
  rw [List.getD_eq_getElem?_getD, List.getElem?_eq_getElem (by omega)]
  exact List.getElem_mem _
theorem up_nat {n : Int} (h : n ∈ upN) : ∃ k : Nat, k < 8 ∧ n = k := by
  obtain ⟨k, hk, rfl⟩ := List.mem_map.mp h
  exact ⟨k, List.mem_range.mp hk, rfl⟩
theorem ends_up (hr : RingIs ws) : ∀ n ∈ upN, 0 ≤ (endsN ws bs).getD n.toNat 0 ∧ (endsN ws bs).getD n.toNat 0 < 3 := fun n hn => by
  obtain ⟨k, hk, rfl⟩ := up_nat hn
  rw [Int.toNat_natCast, ends_at hk]
  exact row_at hr (by omega)
def rotRow (ws bs : List Int) (q : Int) : List Int := rot (rowN ws bs q.toNat)
theorem rot_len {xs : List Int} (h : xs.length = 8) : (rot xs).length = 8 := by unfold rot; rw [List.length_cons, take7_len h]
theorem up_sorted : upN.Pairwise (· < ·) := by
  unfold upN
  rw [List.pairwise_map]
  exact List.pairwise_lt_range.imp fun h => by omega
theorem blk_sorted (hr : RingIs ws) {c : Nat} : ((blkN (endsN ws bs) bs c).map (rotRow ws bs)).Pairwise (leW bs) := by
  have base : (upN.filter (partP (endsN ws bs) c)).Pairwise fun (a b : Int) => (∃ i k : Nat, i < k ∧ k < 8 ∧ a = (i : Int) ∧ b = (k : Int)) ∧ (endsN ws bs).getD a.toNat 0 = c ∧ (endsN ws bs).getD b.toNat 0 = c := by
    refine List.Pairwise.imp_of_mem ?_ (up_sorted.filter _)
    intro a b ha hb hab
    have ha' := List.mem_filter.mp ha
    have hb' := List.mem_filter.mp hb
    obtain ⟨i, hi, rfl⟩ := up_nat ha'.1
    obtain ⟨k, hk, rfl⟩ := up_nat hb'.1
    exact ⟨⟨i, k, by omega, hk, rfl, rfl⟩, partP_iff.mp ha'.2, partP_iff.mp hb'.2⟩
  unfold blkN
  by_cases m : ((c : Nat) : Int) ∈ bs
  · rw [if_pos m, List.pairwise_map, List.pairwise_reverse]
    refine base.imp ?_
    rintro a b ⟨⟨i, k, hik, hk, rfl, rfl⟩, e1, e2⟩
    unfold rotRow
    rw [Int.toNat_natCast] at e1 e2 ⊢
    rw [Int.toNat_natCast]
    rw [ends_at (by omega)] at e1 e2
    refine rot_le (row8 hr.1) (row8 hr.1) (e2.trans e1.symm) ?_
    rw [e2, if_pos m]
    exact rows_sorted (by rw [hr.1]; omega) (by rw [hr.1]; omega) hik
  · rw [if_neg m, List.pairwise_map]
    refine base.imp ?_
    rintro a b ⟨⟨i, k, hik, hk, rfl, rfl⟩, e1, e2⟩
    unfold rotRow
    rw [Int.toNat_natCast] at e1 e2 ⊢
    rw [Int.toNat_natCast]
    rw [ends_at (by omega)] at e1 e2
    refine rot_le (row8 hr.1) (row8 hr.1) (e1.trans e2.symm) ?_
    rw [e1, if_neg m]
    exact rows_sorted (by rw [hr.1]; omega) (by rw [hr.1]; omega) hik
theorem blk_cross {c d : Nat} (hcd : c < d) : ∀ x ∈ (blkN (endsN ws bs) bs c).map (rotRow ws bs), ∀ y ∈ (blkN (endsN ws bs) bs d).map (rotRow ws bs), leW bs x y := by
  intro x hx y hy
  obtain ⟨a, ha, rfl⟩ := List.mem_map.mp hx
  obtain ⟨b, hb, rfl⟩ := List.mem_map.mp hy
  have ha := blk_mem ha
  have hb := blk_mem hb
  obtain ⟨i, hi, rfl⟩ := up_nat ha.1
  obtain ⟨k, hk, rfl⟩ := up_nat hb.1
  have e1 := ha.2
  have e2 := hb.2
  unfold rotRow
  rw [Int.toNat_natCast] at e1 e2 ⊢
  rw [Int.toNat_natCast]
  rw [ends_at (by omega)] at e1 e2
  exact rot_lt (by omega)
/-- the line's rows, turned, are the rows in their order -/
theorem line_rows (hr : RingIs ws) : (lineN ws bs rb).map (rotRow ws bs) = (List.range 8).map (rowN ws bs) := by
  have hl := line_form (rb := rb) (bs := bs) (ends_up (bs := bs) hr)
  have h8 : ws.length = 8 := hr.1
  refine List.Perm.eq_of_pairwise (le := leW bs) ?_ ?_ ?_ ?_
  · intro a b ha hb h1 h2
    obtain ⟨q, _, rfl⟩ := List.mem_map.mp ha
    obtain ⟨p, _, rfl⟩ := List.mem_map.mp hb
    exact leW_anti ((rot_len (row8 h8)).trans (row8 h8).symm) h1 h2
  · unfold lineN
    rw [hl, List.map_append, List.map_append, List.pairwise_append, List.pairwise_append]
    refine ⟨⟨blk_sorted hr, blk_sorted hr, blk_cross (by omega)⟩, blk_sorted hr, fun x hx => ?_⟩
    rcases List.mem_append.mp hx with hx | hx
    · exact blk_cross (by omega) x hx
    · exact blk_cross (by omega) x hx
  · rw [List.pairwise_map]
    refine List.Pairwise.imp_of_mem ?_ List.pairwise_lt_range
    intro a b ha hb hab
    exact rows_sorted (by rw [h8]; exact List.mem_range.mp ha) (by rw [h8]; exact List.mem_range.mp hb) hab
  · have p1 := (line_perm (rb := rb) (bs := bs) (ends_up (bs := bs) hr)).map (rotRow ws bs)
    have e1 : upN.map (rotRow ws bs) = ((List.range 8).map (rowN ws bs)).map rot := by
      unfold upN
      rw [List.map_map, List.map_map]
      exact List.map_congr_left fun k _ => by simp [rotRow]
    have p2 := rows_perm (ws := ws) (bs := bs)
    rw [h8] at p2
    refine p1.trans ?_
    rw [e1]
    exact ((p2.map rot).trans (turns_perm h8)).trans p2.symm
theorem line_len (hr : RingIs ws) : (lineN ws bs rb).length = 8 := by
  have := (line_perm (rb := rb) (bs := bs) (ends_up (bs := bs) hr)).length_eq
  rw [show (lineN ws bs rb) = laidN (endsN ws bs) bs rb (thingsN 8 rb) 3 from rfl, this]
  rfl
theorem line_mem (hr : RingIs ws) {q : Nat} (hq : q < 8) : ((q : Nat) : Int) ∈ lineN ws bs rb :=
  (line_perm (rb := rb) (bs := bs) (ends_up (bs := bs) hr)).mem_iff.mpr (List.mem_map.mpr ⟨q, List.mem_range.mpr hq, rfl⟩)
theorem idx8 (hr : RingIs ws) {q : Nat} (hq : q < 8) : (lineN ws bs rb).idxOf (q : Int) < 8 := by
  have := List.idxOf_lt_length_iff.mpr (line_mem (rb := rb) (bs := bs) hr hq)
  rwa [line_len hr] at this
/-- one step of the walk turns the row -/
theorem step_row (hr : RingIs ws) {q : Nat} (hq : q < 8) : rowN ws bs ((lineN ws bs rb).idxOf (q : Int)) = rot (rowN ws bs q) := by
  have hi := idx8 (rb := rb) (bs := bs) hr hq
  have h1 := congrArg (fun l => l[(lineN ws bs rb).idxOf (q : Int)]?) (line_rows (rb := rb) (bs := bs) hr)
  simp only [List.getElem?_map] at h1
  rw [List.getElem?_range hi] at h1
  have hlt := List.idxOf_lt_length_iff.mpr (line_mem (rb := rb) (bs := bs) hr hq)
  rw [List.getElem?_eq_getElem hlt, List.getElem_idxOf hlt] at h1
  have h2 := Option.some.inj h1
  rw [← h2]
  simp [rotRow]
theorem rot_getD {xs : List Int} {i : Nat} (hi : i < 7) : (rot xs).getD (i + 1) 0 = xs.getD i 0 := by
  unfold rot
  rw [List.getD_cons_succ, List.getD_eq_getElem?_getD, List.getD_eq_getElem?_getD, List.getElem?_take, if_pos hi]
theorem spot_row (hr : RingIs ws) {k : Nat} (hk : k < 8) : ∀ j, spotN (lineN ws bs rb) k j < 8 ∧ ∀ i, i < 8 → j ≤ i → (rowN ws bs (spotN (lineN ws bs rb) k j)).getD i 0 = (rowN ws bs k).getD (i - j) 0
  | 0 => ⟨hk, fun i _ _ => rfl⟩
  | j + 1 => by
    obtain ⟨h1, h2⟩ := spot_row hr hk j
    refine ⟨idx8 hr h1, fun i hi hj => ?_⟩
    show (rowN ws bs ((lineN ws bs rb).idxOf (spotN (lineN ws bs rb) k j : Int))).getD i 0 = _
    rw [step_row hr h1]
    obtain ⟨i', rfl⟩ : ∃ i', i = i' + 1 := ⟨i - 1, by omega⟩
    rw [rot_getD (by omega), h2 i' (by omega) (by omega)]
    congr 1
    omega
theorem told_row (hr : RingIs ws) : ∀ k < 8, ∀ j < 8, (endsN ws bs).getD (spotN (lineN ws bs rb) k j) 0 = (rowN ws bs k).getD (7 - j) 0 := fun k hk j hj => by
  obtain ⟨h1, h2⟩ := spot_row (rb := rb) (bs := bs) hr hk j
  rw [ends_at h1, h2 7 (by omega) (by omega)]
/-! the ends, parted, are the firsts -/
theorem const_rev {c : Int} {l : List Int} (h : ∀ n ∈ l, n = c) : l.reverse = l := by
  have e := List.eq_replicate_iff.mpr ⟨rfl, h⟩
  rw [e, List.reverse_replicate]
theorem ends_map : upN.map (fun n => (endsN ws bs).getD n.toNat 0) = endsN ws bs := by
  apply List.ext_getElem?
  intro i
  unfold upN
  rw [List.map_map, List.getElem?_map]
  by_cases hi : i < 8
  · rw [List.getElem?_range hi, List.getElem?_eq_getElem (by rw [ends_len]; exact hi)]
    simp only [Option.map_some, Function.comp_apply, Int.toNat_natCast]
    rw [List.getD_eq_getElem?_getD, List.getElem?_eq_getElem (by rw [ends_len]; exact hi)]
    rfl
  · rw [List.getElem?_eq_none (by simp; omega), List.getElem?_eq_none (by rw [ends_len]; omega)]
    rfl
theorem blk_ends {c : Nat} : (blkN (endsN ws bs) bs c).map (fun n => (endsN ws bs).getD n.toNat 0) = (endsN ws bs).filter fun z => decide (z = (c : Int)) := by
  have h1 : (upN.filter (partP (endsN ws bs) c)).map (fun n => (endsN ws bs).getD n.toNat 0) = (endsN ws bs).filter fun z => decide (z = (c : Int)) := by
    have h2 := List.filter_map (p := fun z : Int => decide (z = (c : Int))) (f := fun n : Int => (endsN ws bs).getD n.toNat 0) (l := upN)
    rw [ends_map] at h2
    rw [h2]
    congr 1
  unfold blkN
  split
  · rw [List.map_reverse, h1]
    exact const_rev (c := (c : Int)) fun n hn => of_decide_eq_true (List.mem_filter.mp hn).2
  · exact h1
theorem lot_ends (hr : RingIs ws) {c : Nat} (hc : c < 3) : lotN [0, 1, 2] (endsN ws bs) c = (endsN ws bs).filter fun z => decide (z = (c : Int)) := by
  have hb : ∀ n ∈ endsN ws bs, ([0, 1, 2] : List Int).getD n.toNat 0 = n := fun n hn => by
    obtain ⟨p, _, rfl⟩ := List.mem_map.mp hn
    have h := row_at (bs := bs) hr (p := p) (i := 7) (by omega)
    generalize (rowN ws bs p).getD 7 0 = z at h ⊢
    have : z = 0 ∨ z = 1 ∨ z = 2 := by omega
    rcases this with rfl | rfl | rfl <;> rfl
  have hs : ∀ n ∈ endsN ws bs, 0 ≤ ([0, 1, 2] : List Int).getD n.toNat 0 ∧ ([0, 1, 2] : List Int).getD n.toNat 0 < 3 := fun n hn => by
    rw [hb n hn]
    obtain ⟨p, _, rfl⟩ := List.mem_map.mp hn
    exact row_at hr (by omega)
  rw [lot_form hs c hc]
  refine List.filter_congr fun n hn => ?_
  unfold partP
  rw [hb n hn]
theorem parted_row (hr : RingIs ws) : lotN [0, 1, 2] (endsN ws bs) 0 ++ lotN [0, 1, 2] (endsN ws bs) 1 ++ lotN [0, 1, 2] (endsN ws bs) 2 = firstsN ws bs := by
  rw [lot_ends hr (by omega), lot_ends hr (by omega), lot_ends hr (by omega), ← blk_ends, ← blk_ends, ← blk_ends, ← List.map_append, ← List.map_append]
  rw [← line_form (rb := true) (bs := bs) (ends_up (bs := bs) hr)]
  have h1 := congrArg (List.map fun l => l.getD 0 0) (line_rows (rb := true) (bs := bs) hr)
  rw [List.map_map, List.map_map] at h1
  refine Eq.trans ?_ h1
  refine List.map_congr_left fun n hn => ?_
  obtain ⟨k, hk, rfl⟩ := up_nat ((line_perm (rb := true) (bs := bs) (ends_up (bs := bs) hr)).mem_iff.mp hn)
  simp only [Function.comp_apply, Int.toNat_natCast, rotRow]
  rw [ends_at hk]
  rfl
theorem plain (hr : RingIs ws) : Plain ws bs rb := ⟨fun _ hp => places_mem hp, small_row hr, parted_row hr, line_len hr, fun _ hq => line_mem hr hq, told_row hr⟩
end
end Mine
end TPl4

section TLw
open PySem PySem.W PyProof.Rows PySem.Calls
open PyProof.Rows.LCg PyProof.Rows.LCt
set_option maxRecDepth 100000
set_option maxHeartbeats 8000000
namespace Mine
theorem fillW : (PySem.Challenge.rw_pk0011_01 = PySem.Challenge.rw_pk0011_01) ∧ hd.heap_39 = hd.heap_39 := by
  k_fill
  exact ⟨rfl, rfl⟩
local macro_rules | `(tactic| walk_at "eval Name") => `(tactic| (k_here; k_dflt (refine' nameX_L ?k1 ?k2 ?_; (case k1 => k_asm); (case k2 => assumption); k_whole)))
local macro_rules | `(tactic| walk_at "mine.steps") => `(tactic| repeat' (first | ((fail_if_success (with_reducible show wpAny _ _ (exec (Stmt.For _ _ _ _ _) _) _ _ _)); (fail_if_success (with_reducible show wG _ _ _ _ _ _)); (fail_if_success (with_reducible show wpAny _ _ (eval (Expr.ListComp _ _ _ _) _) _ _ _)); (fail_if_success (with_reducible show wpAny _ _ (exec (Stmt.Assign _ (Expr.ListComp _ _ _ _) _) _) _ _ _)); (fail_if_success (with_reducible show wpAny _ _ (eval (Expr.IfExp _ _ _ _) _) _ _ _)); (fail_if_success (with_reducible show wpAny _ _ (call (Value.type _) _) _ _ _)); (fail_if_success (with_reducible show wpAny _ _ (call (Value.builtin _) _) _ _ _)); (fail_if_success (with_reducible show wpAny _ _ (call (Value.ref 40) _) _ _ _)); (fail_if_success (with_reducible show wpAny _ _ (call (Value.ref 47) _) _ _ _)); (fail_if_success (with_reducible show wpAny _ _ (compareOp _ (Value.ref _) (Value.ref _)) _ _ _)); (fail_if_success (with_reducible show wpAny _ _ (binaryOp _ (Value.ref _) (Value.ref _)) _ _ _)); (fail_if_success (with_reducible show wpAny _ _ (subscriptTail _ _ _ _) _ _ _)); (fail_if_success (with_reducible show LCg.CompEnd _ _ _ _ _ _ _ _ _ _ _ _ _ _)); (fail_if_success (with_reducible show LCg.CompSrc _ _ _ _ _ _ _ _ _ _ _ _ _ _)); (fail_if_success (with_reducible show LCt.CompSrcT _ _ _ _ _ _ _ _ _ _ _ _ _ _ _)); (fail_if_success (with_reducible show LCg.FinA _ _ _ _ _ _ _ _)); (fail_if_success (with_reducible show LCg.FinE _ _ _ _ _ _ _)); (fail_if_success (with_reducible show wpAny _ _ (eval (Expr.Name _ _) (compEnvC _ _ _ _)) _ _ _)); first | walk1 | (dsimp only; walk1))))
theorem law_walk {w : World} {s : Shared} {mg mb : Str → Option Value} {l : Addr} {vs : List Value} {ns : List Int} {Q : Value → Shared → Prop}
   (G : G42 w mg mb s.heap) (hl : s.heap.IsList l vs.toArray) (hi : IntsAre vs ns) (hz : ns.length ≤ 63) (HP : ∀ ws bs rb, RingIs ws → Plain ws bs rb)
   (hQ : ∀ h' tk, Kp (s.heap.hide 42) h' → (∃ ps, h'.get? 42 = some (tabObj ps)) → Q (.bool true) { s with heap := h', toks := tk }) :
   wG (model Pg w) G0 (call (.ref 59) [.ref l]) Q (fun _ _ => False) s := by
  have G00 := G
  obtain ⟨X, ⟨p, loose, mean, T⟩, C, ps, hps, hok⟩ := G
  refine' enterHG (binds := [(Str.ofString "script", .ref l)]) G0_in G0_clean hps X T ?k6 ?k7 ?k8 ?k9 ?kB ?kD ?_ ?c2 ?c3 ?c4
  case k6 => k_is
  case k7 => k_is
  case k8 => decide
  case k9 => exact BindsTo.of_eq rfl
  case kB => exact rfl
  case kD => decide +kernel
  case c2 => exact rfl
  case c3 => exact rfl
  case c4 => exact rfl
  intro Γ' L h₁ tk0 cells hΓ' hcl' F N Y hPL
  k_cells Y
  simp only [List.cons_append, List.nil_append] at N
  replace hl := hideL' hps hl
  rename_i o1 d1
  refine wG_execs_any hΓ' ?_
  walk_at "mine.steps"
  refine cut_upto (s := { s with heap := h₁, toks := _ }) F N (hl.at fun o e => F.keep _ o e) (by rw [hi.length]; omega) (a := 8) rfl ?_
  intro a1 h2 F N hlt1
  walk_at "mine.steps"
  rename Fr _ _ _ _ => F
  rename News _ _ _ _ => N
  refine cut_upto (s := { s with heap := _, toks := _ }) F N (hl.at fun o e => F.keep _ o e) (by rw [hi.length]; omega) (a := 8) rfl ?_
  intro a2 h3 F N hlt2
  walk_at "mine.steps"
  refine len_ints_fit (isL (N (a2, _) (.head _)).1) (hi.take 8) (by rw [List.length_take]; omega) ?_
  walk_at "mine.steps"
  refine kba_turn (value' := PySem.Expr.Name (PySem.Str.ofString "_") ⟨0, 0, 0, 0⟩) (fun _ => rfl) ?_
  refine cut_from (s := { s with heap := h3, toks := _ }) (vs := [_, _, _, _, _, _, _, _]) F N (isL (N _ (.tail _ (.head _))).1) (Nat.le_of_ble_eq_true rfl) (a := (ns.take 8).length) rfl ?_
  intro a3 h4 F N hlt3
  walk_at "mine.steps"
  have hpad : IntsAre [Value.int 3 (tk0 + 1), Value.int 1 (tk0 + 1 + 1), Value.int 0 (tk0 + 1 + 1 + 1), Value.int 4 (tk0 + 1 + 1 + 1 + 1), Value.int 2 (tk0 + 1 + 1 + 1 + 1 + 1), Value.int 0 (tk0 + 1 + 1 + 1 + 1 + 1 + 1), Value.int 1 (tk0 + 1 + 1 + 1 + 1 + 1 + 1 + 1), Value.int 0 (tk0 + 1 + 1 + 1 + 1 + 1 + 1 + 1 + 1)] [3, 1, 0, 4, 2, 0, 1, 0] := by l_intsW
  refine add_led F N (isL (N (a1, _) (.tail _ (.tail _ (.tail _ (.head _))))).1) (isL (N (a3, _) (.head _)).1) (by rw [List.length_drop, List.length_take]; simp; omega) fun a4 h5 F N hlt4 => ?_
  walk_at "mine.steps"
  rename Fr _ _ _ _ => F
  rename News _ _ _ _ => N
  obtain ⟨m1, hm1, F1⟩ : ∃ m1 : Str → Option Value, m1 (Str.ofString "numbers") = some (.ref a4) ∧ Fr (s.heap.hide 42) L _ m1 := ⟨_, rfl, F⟩
  have hnv := (hi.take 8).append (hpad.drop (ns.take 8).length)
  obtain ⟨nu, hnu⟩ : ∃ nu, nu = ns.take 8 ++ ([3, 1, 0, 4, 2, 0, 1, 0] : List Int).drop (ns.take 8).length := ⟨_, rfl⟩
  have hnul : nu.length = 8 := by rw [hnu, List.length_append, List.length_drop, List.length_take]; simp; omega
  rw [← hnu] at hnv
  obtain ⟨nv, hnvN⟩ : ∃ nv : List Value, IntsAre nv nu ∧ News (s.heap.hide 42) L _ [(a4, listOf nv.toArray 0), (L + 1, o1), (42, tabObj ps)] := ⟨_, hnv, fun p hp => N p (by
    simp only [List.mem_cons, List.not_mem_nil, or_false] at hp
    rcases hp with rfl | rfl | rfl
    · exact .head _
    · exact .tail _ (.tail _ (.tail _ (.tail _ (.tail _ (.head _)))))
    · exact .tail _ (.tail _ (.tail _ (.tail _ (.tail _ (.tail _ (.head _)))))))⟩
  have la4 : L + 1 < a4 := hlt4 (L + 1, o1) (.tail _ (.tail _ (.tail _ (.tail _ (.head _)))))
  clear F N hnv hpad hnu hlt1 hlt2 hlt3 hlt4 hi hl
  obtain ⟨hnv, N⟩ := hnvN
  refine wG_execs_any hΓ' ?_
  refine LCg.Assign_ListComp_U F1 rfl (by rfl) (by with_unfolding_all rfl) (by decide) (by rfl) (by decide) (by rfl) (by rfl) (by rfl) ?_
  walk_at "mine.steps"
  have hnvl : nv.length = 8 := by rw [hnv.length, hnul]
  refine LCg.CompSrc.ledger (k := 0) rfl F1 N (.head _) (by rw [sizeLine_eq]; simp; omega) fun g => ?_
  have hsz1 : nv.toArray.size = 8 := by simp [hnvl]
  rw [hsz1]
  refine rest_inv (n := 8) (fun i ys news => news = [(a4, listOf nv.toArray 0), (L + 1, o1), (42, tabObj ps)] ∧ IntsAre ys ((nu.take i).map fun z => Int.fmod z 3)) ?_ ?_ _ 0 _ _ (by omega) ⟨rfl, .nil⟩
  · rintro i ys _ v I oI Cc oC D m₂ h tk E' hi' ⟨rfl, hys⟩ hv hC hx F N o3' ne
    obtain ⟨z, t, rfl, hz1⟩ := hnv.at i v (by simpa using hv)
    walk_at "mine.steps"
    refine nameC_L N (.tail _ (.head _)) hC hx ?_
    walk_at "mine.steps"
    refine CompEnd.intro F N _ (fun p hp => hp) o3' (.inr ⟨_, .head _, rfl, _, rfl⟩) ⟨rfl, ?_⟩
    rw [List.take_add_one, hz1, List.map_append]
    exact hys.append (.cons _ _ .nil)
  · rintro rv _ ⟨rfl, hrv⟩ D1 h6 tk6 F N hoff
    have hD1 := off1_mem hoff
    rw [List.take_of_length_le (by omega)] at hrv
    dsimp only
    show wG _ _ (execs _ _) _ _ { s with heap := _, toks := _ }
    clear F1 hnvl
    obtain ⟨m2, ⟨hm2a, hm2b⟩, F2⟩ : ∃ m2 : Str → Option Value, (m2 (Str.ofString "numbers") = some (.ref a4) ∧ m2 (Str.ofString "ring") = some (.ref D1)) ∧ Fr (s.heap.hide 42) L _ m2 := ⟨_, ⟨by exact hm1, by rfl⟩, F⟩
    clear F hm1
    refine wG_execs_any hΓ' ?_
    walk_at "mine.steps"
    refine LCg.ListComp_U F2 (by with_unfolding_all rfl) (by decide) (by rfl) (by decide) (by rfl) ?_
    walk_at "mine.steps"
    refine LCg.CompSrc.ledger (k := 0) rfl F2 N (.tail _ (.head _)) (by rw [sizeLine_eq]; exact Nat.le_trans (Nat.le_of_eq hsz1) (by decide)) fun g2 => ?_
    rw [hsz1]
    refine rest_inv (n := 8) (fun i ys news => news = [(D1, lst rv), (a4, listOf nv.toArray 0), (L + 1, o1), (42, tabObj ps)] ∧ IntsAre ys ((nu.take i).map fun z => Int.fdiv z 3)) ?_ ?_ _ 0 _ _ (by omega) ⟨rfl, .nil⟩
    · rintro i ys _ v I oI Cc oC D m₂ h tk E' hi' ⟨rfl, hys⟩ hv hC hx F N o3' ne
      obtain ⟨z, t, rfl, hz1⟩ := hnv.at i v (by simpa using hv)
      walk_at "mine.steps"
      refine nameC_L N (.tail _ (.head _)) hC hx ?_
      walk_at "mine.steps"
      refine CompEnd.intro F N _ (fun p hp => hp) o3' (.inr ⟨_, .tail _ (.head _), rfl, _, rfl⟩) ⟨rfl, ?_⟩
      rw [List.take_add_one, hz1, List.map_append]
      exact hys.append (.cons _ _ .nil)
    rintro qv _ ⟨rfl, hqv⟩ D2 h7 tk7 F N hoff2
    dsimp only
    walk_at "mine.steps"
    refine sumK rfl F N (isL (N (D2, _) (.head _)).1) hqv fun h8 tk8 t8 F N => ?_
    walk_at "mine.steps"
    rename_i h9 o1' F N hd9
    generalize (List.map (fun z => Int.fdiv z 3) (List.take 8 nu)).sum = fg at *
    have hD1' : D1 ≠ L + 1 := (hD1 (L + 1, o1) (.tail _ (.head _))).symm
    replace N : News (s.heap.hide 42) L h9 [(D1, lst rv), (L + 1, o1'), (42, tabObj ps)] := fun p hp => N p (by
      simp only [List.cons_append, List.nil_append, List.mem_cons, List.not_mem_nil, or_false] at hp ⊢
      rcases hp with h | h | h <;> simp [h])
    clear F2 hqv hoff2
    show wG _ _ (execs _ _) _ _ { s with heap := _, toks := _ }
    refine wG_execs_any hΓ' ?_
    refine LCt.Assign_ListComp_T F rfl (by rfl) (by with_unfolding_all rfl) (by decide) (by rfl) (by decide) (by rfl) (by rfl) (by rfl) ?_
    walk_at "mine.steps"
    refine call_range_1 ?_
    have hrs3 : Builtin.Range.rangeSize 0 3 1 = ((3 : Nat) : Int) := rangeSize_pos (by omega) (by simp)
    refine LCt.CompSrcT.range (n := 3) rfl (F.push _) (News.kp N fun b o e => Heap.get?_push_of_some _ e) (IsRange.new ..) (small_pos (by omega) hrs3 (by omega) (by omega) (by omega) (by omega) (by omega) (by omega)) hrs3 (by rw [sizeLine_eq]; omega) fun g3 => ?_
    refine restT_inv (n := 3) (fun i ys news => news = [(D1, lst rv), (L + 1, o1'), (42, tabObj ps)] ∧ ∃ ks, IntsAre ys ks ∧ ks.length ≤ i) ?_ ?_ _ 0 _ _ (by omega) ⟨rfl, [], .nil, Nat.le_refl _⟩
    · rintro i ys _ v I oI Cc oC D m₂ h tk E' hi' ⟨rfl, ks, hks, hksl⟩ ⟨t, rfl⟩ hC hx F N o3' ne
      walk_at "mine.steps"
      refine lcf_cell N rfl (.tail _ (.tail _ (.tail _ (.tail _ (.head _))))) hd9 ?_ rfl rfl
      walk_at "mine.steps"
      refine nameC_L N (.tail _ (.head _)) hC hx ?_
      walk_at "mine.steps"
      · refine nameC_L N (.tail _ (.head _)) hC hx ?_
        exact CompEnd.intro F N _ (fun p hp => hp) o3' trivial ⟨rfl, _, hks.append (.cons _ _ .nil), by simp; omega⟩
      · exact CompEnd.intro F N _ (fun p hp => hp) o3' trivial ⟨rfl, _, hks, by omega⟩
    rintro fv _ ⟨rfl, bs, hfv, hbsl⟩ D3 h10 tk10 F N hoff3
    dsimp only
    show wG _ _ (execs _ _) _ _ { s with heap := _, toks := _ }
    obtain ⟨m3, ⟨hm3a, hm3b⟩, F3⟩ : ∃ m3 : Str → Option Value, (m3 (Str.ofString "ring") = some (.ref D1) ∧ m3 (Str.ofString "folds") = some (.ref D3)) ∧ Fr (s.heap.hide 42) L _ m3 := ⟨_, ⟨by exact hm2b, by rfl⟩, F⟩
    clear F
    obtain ⟨ws, hws⟩ : ∃ ws, ws = nu.map fun z => Int.fmod z 3 := ⟨_, rfl⟩
    rw [← hws] at hrv
    have hring : RingIs ws := by
      refine ⟨by rw [hws, List.length_map, hnul], fun n hn => ?_⟩
      rw [hws] at hn
      obtain ⟨z, _, rfl⟩ := List.mem_map.mp hn
      exact ⟨fmod_lo _ (by omega), fmod_hi _ (by omega)⟩
    clear hws
    have hwsl := hring.1
    have ne42 : ∀ {h : Heap} {a : Addr} {o : Obj}, h.get? 42 = some (tabObj ps) → h.get? a = some o → o.cls ≠ .none → a ≠ 42 := fun e1 e2 hc q => hc (by rw [q, e1] at e2; cases e2; rfl)
    have h42 := (N (42, tabObj ps) (.tail _ (.tail _ (.tail _ (.head _))))).1
    have hD1n : D1 ≠ 42 := ne42 h42 (N (D1, lst rv) (.tail _ (.head _))).1 (fun e => by cases e)
    have hD3n : D3 ≠ 42 := ne42 h42 (N (D3, lst fv) (.head _)).1 (fun e => by cases e)
    refine wG_execs_any hΓ' ?_
    walk_at "mine.steps"
    have G3 : G42 w mg mb h10 := G00.next F3.keep h42 (by
      rcases hok.hide with e | ⟨c', e1, e2, e3⟩
      · exact .inl e
      · exact .inr ⟨c', e1, e2, e3.keeps F3.keep⟩)
    refine up (table_spec G3 (isL (N (D1, lst rv) (.tail _ (.head _))).1) hrv (by omega) (isL (N (D3, lst fv) (.head _)).1) hfv (HP ws bs true hring).perm ?_) rfl (Nat.le_of_ble_eq_true rfl) (Nat.le_of_ble_eq_true rfl)
    intro ta rows kt h11 tk11 hk11 hta hga hrl hrows
    obtain ⟨rs, hrs, hrsq⟩ := rows_gather (f := rowN ws bs) (n := ws.length) (by omega) hrows
    rw [List.take_of_length_le (by omega)] at hrs
    rw [hwsl] at hrs
    have F4 := Fr.kp F3 hk11
    have N4 := News.more (ex := (ta, listOf rows.toArray kt) :: rs) F3 N hk11 (fun p hp => by
      rcases List.mem_cons.mp hp with rfl | hp
      · exact ⟨hta, hga⟩
      · exact hrsq p hp)
    have hrs42 : ∀ q ∈ rs, q.1 ≠ 42 := fun q hq e => by
      have := (hrsq q hq).1
      rw [e, h42] at this
      cases this
    have htan : ta ≠ 42 := fun e => by rw [e, h42] at hta; cases hta
    have hD3L : D3 ≠ L + 1 := fun e => by
      have hN := off1_mem hoff3 (L + 1, o1') (.tail _ (.head _))
      exact hN e.symm
    replace N4 : News (s.heap.hide 42) L h11 ((ta, listOf rows.toArray kt) :: (D3, lst fv) :: (L + 1, o1') :: (42, tabObj ps) :: rs) := fun p hp => N4 p (by
      simp only [List.cons_append, List.mem_cons, List.mem_append, List.not_mem_nil, or_false] at hp ⊢
      rcases hp with h | h | h | h | h <;> simp [h])
    clear N F3 hrows hrsq G3 hrv
    walk_at "mine.steps"
    rename Fr _ _ _ _ => F
    rename News _ _ _ _ => N
    try clear F4
    try clear N4
    obtain ⟨m4, ⟨hm4a, hm4b⟩, F4⟩ : ∃ m4 : Str → Option Value, (m4 (Str.ofString "folds") = some (.ref D3) ∧ m4 (Str.ofString "table") = some (.ref ta)) ∧ Fr (s.heap.hide 42) L _ m4 := ⟨_, ⟨by exact hm3b, by rfl⟩, F⟩
    clear F
    refine wG_execs_any hΓ' ?_
    refine LCg.Assign_ListComp_U F4 rfl (by rfl) (by with_unfolding_all rfl) (by decide) (by rfl) (by decide) (by rfl) (by rfl) (by rfl) ?_
    walk_at "mine.steps"
    have hrsz : rows.toArray.size = 8 := by simp [hrs.1]
    refine LCg.CompSrc.ledger (k := kt) rfl F4 N (.head _) (by rw [sizeLine_eq]; exact Nat.le_trans (Nat.le_of_eq hrsz) (by decide)) fun g4 => ?_
    rw [hrsz]
    refine rest_inv (n := 8) (fun i ys news => news = (ta, listOf rows.toArray kt) :: (D3, lst fv) :: (L + 1, o1') :: (42, tabObj ps) :: rs ∧ IntsAre ys ((List.range i).map fun p => (rowN ws bs p).getD 7 0)) ?_ ?_ _ 0 _ _ (by omega) ⟨rfl, .nil⟩
    · rintro i ys _ v I oI Cc oC D m₂ h tk E' hi' ⟨rfl, hys⟩ hv hC hx F N o3' ne
      obtain ⟨aj, uj, kj, ej, mj, ij⟩ := hrs.2 i hi'
      obtain rfl : v = .ref aj := by
        have : rows[i]? = some v := by simpa using hv
        rw [ej] at this; cases this; rfl
      walk_at "mine.steps"
      refine nameC_L N (.tail _ (.head _)) hC hx ?_
      walk_at "mine.steps"
      have hrlen : (rowN ws bs i).length = 8 := by rw [row_len, hwsl]
      refine item_list_ints_neg (isL (N _ (.tail _ (.tail _ (.tail _ (.tail _ (.tail _ (.tail _ (.tail _ mj)))))))).1) ij (by decide) (by omega) (by decide) fun tx => ?_
      refine CompEnd.intro F N _ (fun p hp => hp) o3' (.inr ⟨_, .head _, rfl, _, rfl⟩) ⟨rfl, ?_⟩
      rw [List.range_succ, List.map_append, hrlen]
      exact hys.append (.cons _ _ .nil)
    rintro ev _ ⟨rfl, hev⟩ D4 h12 tk12 F N hoff4
    dsimp only
    show wG _ _ (execs _ _) _ _ { s with heap := _, toks := _ }
    obtain ⟨m5, ⟨hm5a, hm5b, hm5c⟩, F5⟩ : ∃ m5 : Str → Option Value, (m5 (Str.ofString "folds") = some (.ref D3) ∧ m5 (Str.ofString "table") = some (.ref ta) ∧ m5 (Str.ofString "ends") = some (.ref D4)) ∧ Fr (s.heap.hide 42) L _ m5 := ⟨_, ⟨by exact hm4a, by exact hm4b, by rfl⟩, F⟩
    clear F F4
    refine wG_execs_any hΓ' ?_
    walk_at "mine.steps"
    rename Fr _ _ _ _ => F
    rename News _ _ _ _ => N
    replace hev : IntsAre ev (endsN ws bs) := hev
    have hends : ∀ n ∈ endsN ws bs, 0 ≤ n ∧ n < 3 := fun n hn => by
      obtain ⟨p, hp, rfl⟩ := List.mem_map.mp hn
      have hl7 : 7 < (rowN ws bs p).length := by rw [row_len, hwsl]; omega
      refine (HP ws bs true hring).small p _ ?_
      rw [List.getD_eq_getElem?_getD, List.getElem?_eq_getElem hl7]
      exact List.getElem_mem hl7
    have hD4n : D4 ≠ 42 := fun e => off1_mem hoff4 (42, tabObj ps) (.tail _ (.tail _ (.tail _ (.head _)))) e.symm
    have hD4L : D4 ≠ L + 1 := fun e => off1_mem hoff4 (L + 1, o1') (.tail _ (.tail _ (.head _))) e.symm
    have h42 := (N (42, tabObj ps) (.tail _ (.tail _ (.tail _ (.tail _ (.tail _ (.head _))))))).1
    have G4 : G42 w mg mb _ := G00.next F.keep h42 (by
      rcases hok.hide with e | ⟨c', e1, e2, e3⟩
      · exact .inl e
      · exact .inr ⟨c', e1, e2, e3.keeps F.keep⟩)
    refine up (parted_spec G4 (isL (N (D4, _) (.tail _ (.head _))).1) hev (by rw [ends_len]; omega) (isL (N _ (.head _)).1) (sg := [0, 1, 2]) (by l_intsW) (by decide) hends ?_) rfl (Nat.le_of_ble_eq_true rfl) (Nat.le_of_ble_eq_true rfl)
    intro a b0 b1 b2 ys0 ys1 ys2 k3 k0 k1 k2 h13 tk13 hk13 ht13 ha hga hg0 hg1 hg2 hi0 hi1 hi2 hb0 hb1 hb2
    obtain ⟨ps5, ht13, hok13⟩ := ht13
    have hL42 : L ≠ 42 := Nat.ne_of_gt hPL
    have F6 := Fr.hid F hk13 (Heap.hide_self _ _) hL42
    obtain ⟨xt, oxt, Nx, htab⟩ := tab_extra F6 (Heap.hide_self _ _) hL42 ht13 hok13
    have N6 : News (s.heap.hide 42) L h13 ((a, listOf #[.ref b0, .ref b1, .ref b2] k3) :: (b0, listOf ys0.toArray k0) :: (b1, listOf ys1.toArray k1) :: (b2, listOf ys2.toArray k2) :: (D4, lst ev) :: (ta, listOf rows.toArray kt) :: (D3, lst fv) :: (L + 1, o1') :: (42, tabObj ps5) :: (xt, oxt) :: rs) := by
      have n1 := News.fresh (h' := h13) (ex := [(a, listOf #[.ref b0, .ref b1, .ref b2] k3), (b0, listOf ys0.toArray k0), (b1, listOf ys1.toArray k1), (b2, listOf ys2.toArray k2)]) F (fun p hp => by
        simp only [List.mem_cons, List.not_mem_nil, or_false] at hp
        rcases hp with rfl | rfl | rfl | rfl
        · exact ⟨ha, hga⟩
        · exact ⟨hb0, hg0⟩
        · exact ⟨hb1, hg1⟩
        · exact ⟨hb2, hg2⟩)
      have n2 : News (s.heap.hide 42) L h13 ((D4, lst ev) :: (ta, listOf rows.toArray kt) :: (D3, lst fv) :: (L + 1, o1') :: rs) := News.hid (fun p hp => N p (by
        simp only [List.mem_cons] at hp ⊢
        rcases hp with h | h | h | h | h <;> simp [h])) hk13 (fun p hp => by
          rcases List.mem_cons.mp hp with rfl | hp
          · exact hD4n
          rcases List.mem_cons.mp hp with rfl | hp
          · exact htan
          rcases List.mem_cons.mp hp with rfl | hp
          · exact hD3n
          rcases List.mem_cons.mp hp with rfl | hp
          · exact fun e => by simp only [Addr] at *; omega
          · exact hrs42 p hp)
      intro p hp
      simp only [List.mem_cons] at hp
      rcases hp with rfl | rfl | rfl | rfl | rfl | rfl | rfl | rfl | rfl | rfl | hp
      · exact n1 _ (.head _)
      · exact n1 _ (.tail _ (.head _))
      · exact n1 _ (.tail _ (.tail _ (.head _)))
      · exact n1 _ (.tail _ (.tail _ (.tail _ (.head _))))
      · exact n2 _ (.head _)
      · exact n2 _ (.tail _ (.head _))
      · exact n2 _ (.tail _ (.tail _ (.head _)))
      · exact n2 _ (.tail _ (.tail _ (.tail _ (.head _))))
      · exact ⟨ht13, hL42.symm, Heap.hide_self _ _⟩
      · exact Nx _ (.head _)
      · exact n2 _ (.tail _ (.tail _ (.tail _ (.tail _ hp))))
    clear F N G4 Nx hoff4
    show wpAny _ _ (assign _ _ _) _ _ { s with heap := h13, toks := tk13 }
    refine kun_list (s := { s with heap := h13, toks := tk13 }) F6 N6 (isL (N6 _ (.head _)).1) rfl rfl rfl fun h14 F N => ?_
    clear F6 N6
    walk_at "mine.steps"
    rename Fr _ _ _ _ => F
    rename News _ _ _ _ => N
    show wG _ _ (execs _ _) _ _ { s with heap := _, toks := _ }
    obtain ⟨m6, ⟨hm6a, hm6b, hm6c, hm6d, hm6e, hm6f⟩, F6⟩ : ∃ m6 : Str → Option Value, (m6 (Str.ofString "folds") = some (.ref D3) ∧ m6 (Str.ofString "table") = some (.ref ta) ∧ m6 (Str.ofString "ends") = some (.ref D4) ∧ m6 (Str.ofString "zeros") = some (.ref b0) ∧ m6 (Str.ofString "ones") = some (.ref b1) ∧ m6 (Str.ofString "twos") = some (.ref b2)) ∧ Fr (s.heap.hide 42) L _ m6 := ⟨_, ⟨by exact hm5a, by exact hm5b, by exact hm5c, by rfl, by rfl, by rfl⟩, F⟩
    clear F
    refine wG_execs_cons ?_
    refine wG_If hΓ' ?_
    walk_at "mine.steps"
    have hlot0 : (lotN [0, 1, 2] (endsN ws bs) 0).length ≤ 8 := by have := @lotN_len [0, 1, 2] (endsN ws bs) 0; rwa [ends_len] at this
    have hlot1 : (lotN [0, 1, 2] (endsN ws bs) 1).length ≤ 8 := by have := @lotN_len [0, 1, 2] (endsN ws bs) 1; rwa [ends_len] at this
    have hlot2 : (lotN [0, 1, 2] (endsN ws bs) 2).length ≤ 8 := by have := @lotN_len [0, 1, 2] (endsN ws bs) 2; rwa [ends_len] at this
    replace hi0 : IntsAre ys0 (lotN [0, 1, 2] (endsN ws bs) 0) := hi0
    replace hi1 : IntsAre ys1 (lotN [0, 1, 2] (endsN ws bs) 1) := hi1
    replace hi2 : IntsAre ys2 (lotN [0, 1, 2] (endsN ws bs) 2) := hi2
    refine add_led F6 N (isL (N (b0, _) (.tail _ (.head _))).1) (isL (N (b1, _) (.tail _ (.tail _ (.head _)))).1) (by rw [hi0.length, hi1.length]; omega) fun c1 h15 F N hltc1 => ?_
    walk_at "mine.steps"
    refine add_led F N (isL (N (c1, _) (.head _)).1) (isL (N (b2, _) (.tail _ (.tail _ (.tail _ (.tail _ (.head _)))))).1) (by rw [List.length_append, hi0.length, hi1.length, hi2.length]; omega) fun c2 h16 F N hltc2 => ?_
    walk_at "mine.steps"
    refine LCg.ListComp_U F (by with_unfolding_all rfl) (by decide) (by rfl) (by decide) (by rfl) ?_
    walk_at "mine.steps"
    obtain ⟨led, hled⟩ : ∃ led, led = (D4, lst ev) :: (ta, listOf rows.toArray kt) :: (D3, lst fv) :: (L + 1, o1') :: (42, tabObj ps5) :: (xt, oxt) :: rs := ⟨_, rfl⟩
    have N8 : News (s.heap.hide 42) L h16 ((ta, listOf rows.toArray kt) :: (c2, listOf (ys0 ++ ys1 ++ ys2).toArray 0) :: led) := fun p hp => N p (by
      rw [hled] at hp
      simp only [List.mem_cons] at hp ⊢
      rcases hp with h | h | h <;> simp [h])
    have hrsled : ∀ p ∈ rs, p ∈ led := fun p hp => by rw [hled]; simp [hp]
    refine LCg.CompSrc.ledger (k := kt) rfl F N8 (.head _) (by rw [sizeLine_eq]; exact Nat.le_trans (Nat.le_of_eq hrsz) (by decide)) fun g5 => ?_
    rw [hrsz]
    refine rest_inv (n := 8) (fun i ys news => news = (ta, listOf rows.toArray kt) :: (c2, listOf (ys0 ++ ys1 ++ ys2).toArray 0) :: led ∧ IntsAre ys ((List.range i).map fun p => (rowN ws bs p).getD 0 0)) ?_ ?_ _ 0 _ _ (by omega) ⟨rfl, .nil⟩
    · rintro i ys _ v I oI Cc oC D m₂ h tk E' hi' ⟨rfl, hys⟩ hv hC hx F N o3' ne
      obtain ⟨aj, uj, kj, ej, mj, ij⟩ := hrs.2 i hi'
      obtain rfl : v = .ref aj := by
        have : rows[i]? = some v := by simpa using hv
        rw [ej] at this; cases this; rfl
      walk_at "mine.steps"
      refine nameC_L N (.tail _ (.head _)) hC hx ?_
      walk_at "mine.steps"
      have hrlen : (rowN ws bs i).length = 8 := by rw [row_len, hwsl]
      refine item_list_ints (isL (N _ (.tail _ (.tail _ (.tail _ (.tail _ (.tail _ (hrsled _ mj))))))).1) ij (by decide) (by omega) (by decide) fun tx => ?_
      refine CompEnd.intro F N _ (fun p hp => hp) o3' (.inr ⟨_, .head _, rfl, _, rfl⟩) ⟨rfl, ?_⟩
      rw [List.range_succ, List.map_append]
      exact hys.append (.cons _ _ .nil)
    rintro zv _ ⟨rfl, hzv⟩ D5 h17 tk17 F N hoff5
    dsimp only
    refine ke_ne_ints (isL (N (c2, _) (.tail _ (.tail _ (.head _)))).1) (isL (N _ (.head _)).1) ((hi0.append hi1).append hi2) hzv (Nat.le_of_ble_eq_true rfl) ?_
    rw [show (!decide (lotN [0, 1, 2] (endsN ws bs) 0 ++ lotN [0, 1, 2] (endsN ws bs) 1 ++ lotN [0, 1, 2] (endsN ws bs) 2 = (List.range 8).map fun p => (rowN ws bs p).getD 0 0)) = false by
      rw [show (List.range 8).map (fun p => (rowN ws bs p).getD 0 0) = firstsN ws bs from rfl, (HP ws bs true hring).parted]; simp]
    walk_at "mine.steps"
    refine wG_execs_nil ?_
    dsimp only
    replace N : News (s.heap.hide 42) L h17 ((D4, lst ev) :: (ta, listOf rows.toArray kt) :: (D3, lst fv) :: (L + 1, o1') :: (42, tabObj ps5) :: (xt, oxt) :: rs) := fun p hp => N p (by
      rw [← hled] at hp
      exact .tail _ (.tail _ (.tail _ hp)))
    clear N8 hoff5 hzv hltc1 hltc2 hi0 hi1 hi2 hlot0 hlot1 hlot2 hrsled
    clear hled
    clear led
    show wG _ _ (execs _ _) _ _ { s with heap := _, toks := _ }
    refine wG_execs_cons ?_
    refine wG_Assign_Name hΓ' ?_
    refine wG_Call hΓ' ?_
    walk_at "mine.steps"
    refine wG_callWith_K (K := hd.heap_39 w.params) hΓ' (by k_is) ?_
    walk_at "mine.steps"
    obtain ⟨rb, hrb⟩ : ∃ rb, rb = ((fg.fdiv 8).fmod 2 == 1) := ⟨_, rfl⟩
    rw [← hrb]
    clear hrb
    have h42b := (N (42, tabObj ps5) (.tail _ (.tail _ (.tail _ (.tail _ (.head _)))))).1
    have G5 : G42 w mg mb h17 := G00.next F.keep h42b (htab.ok F fun p hp => N p (by
      simp only [List.mem_cons, List.not_mem_nil, or_false] at hp ⊢
      simp [hp]))
    refine laid_spec (In.up hΓ' rfl (Nat.le_of_ble_eq_true rfl) (Nat.le_of_ble_eq_true rfl)) hcl' G5 (isL (N (D4, _) (.head _)).1) hev (by rw [ends_len]; omega) (isL (N (D3, _) (.tail _ (.tail _ (.head _)))).1) hfv ?_
    intro ln lv kl h18 tk18 hk18 ht18 hln hlg hlv
    rw [ends_len] at hlv
    replace hlv : IntsAre lv (lineN ws bs rb) := hlv
    obtain ⟨ps6, ht18, hok18⟩ := ht18
    have F7 := Fr.hid F hk18 (Heap.hide_self _ _) hL42
    have N7 : News (s.heap.hide 42) L h18 ((ln, listOf lv.toArray kl) :: (D4, lst ev) :: (ta, listOf rows.toArray kt) :: (42, tabObj ps6) :: rs) := by
      have n1 := News.fresh (h' := h18) (ex := [(ln, listOf lv.toArray kl)]) F (fun p hp => by
        rw [List.mem_singleton.mp hp]
        exact ⟨hln, hlg⟩)
      have n2 : News (s.heap.hide 42) L h18 ((D4, lst ev) :: (ta, listOf rows.toArray kt) :: rs) := News.hid (fun p hp => N p (by
        simp only [List.mem_cons] at hp ⊢
        rcases hp with h | h | h <;> simp [h])) hk18 (fun p hp => by
          rcases List.mem_cons.mp hp with rfl | hp
          · exact hD4n
          rcases List.mem_cons.mp hp with rfl | hp
          · exact htan
          · exact hrs42 p hp)
      intro p hp
      simp only [List.mem_cons] at hp
      rcases hp with rfl | rfl | rfl | rfl | hp
      · exact n1 _ (.head _)
      · exact n2 _ (.head _)
      · exact n2 _ (.tail _ (.head _))
      · exact ⟨ht18, hL42.symm, Heap.hide_self _ _⟩
      · exact n2 _ (.tail _ (.tail _ hp))
    have lineL := (HP ws bs rb hring).len
    have hln42 : ln ≠ 42 := fun e => by rw [e, h42b] at hln; cases hln
    clear F N G5 F6
    walk_at "mine.steps"
    rename Fr _ _ _ _ => F
    rename News _ _ _ _ => N
    show wG _ _ (execs _ _) _ _ { s with heap := _, toks := _ }
    obtain ⟨m7, ⟨hm7a, hm7b, hm7c⟩, F7⟩ : ∃ m7 : Str → Option Value, (m7 (Str.ofString "table") = some (.ref ta) ∧ m7 (Str.ofString "ends") = some (.ref D4) ∧ m7 (Str.ofString "line") = some (.ref ln)) ∧ Fr (s.heap.hide 42) L _ m7 := ⟨_, ⟨by exact hm6b, by exact hm6c, by rfl⟩, F⟩
    clear F
    refine wG_execs_any hΓ' ?_
    walk_at "mine.steps"
    rename Fr _ _ _ _ => F
    rename News _ _ _ _ => N
    obtain ⟨m8, tp, ⟨hm8a, hm8b, hm8c, hm8d⟩, ltp, F8, N8⟩ : ∃ (m8 : Str → Option Value) (tp : Addr), (m8 (Str.ofString "table") = some (.ref ta) ∧ m8 (Str.ofString "ends") = some (.ref D4) ∧ m8 (Str.ofString "line") = some (.ref ln) ∧ m8 (Str.ofString "tape") = some (.ref tp)) ∧
        (ln < tp ∧ D4 < tp ∧ ta < tp ∧ 42 < tp ∧ AllLt tp rs) ∧ Fr (s.heap.hide 42) L _ m8 ∧ News (s.heap.hide 42) L _ ((tp, listOf #[] 0) :: (ln, listOf lv.toArray kl) :: (D4, lst ev) :: (ta, listOf rows.toArray kt) :: (42, tabObj ps6) :: rs) :=
      ⟨_, _, ⟨by exact hm7a, by exact hm7b, by exact hm7c, by rfl⟩, by assumption, F, N⟩
    clear F N
    have spot_lt : ∀ st k, st < 8 → spotN (lineN ws bs rb) st k < 8 := fun st k hst => by
      induction k with
      | zero => exact hst
      | succ k ih =>
        have := List.idxOf_lt_length_iff.mpr ((HP ws bs rb hring).mem _ ih)
        rw [lineL] at this
        exact this
    show wG _ _ (execs _ _) _ _ { s with heap := _, toks := _ }
    refine wG_execs_any hΓ' ?_
    refine For_turns F8 ?_ (hE := PassesOwn.never)
    walk_at "mine.steps"
    refine call_range_1 ?_
    have hrs8 : Builtin.Range.rangeSize 0 8 1 = ((8 : Nat) : Int) := rangeSize_pos (by omega) (by simp)
    have hsm8 := small_pos (a := 0) (b := 8) (c := 1) (by omega) hrs8 (by omega) (by omega) (by omega) (by omega) (by omega) (by omega)
    refine range_turns (n := 8) (news := [(tp, listOf #[] 0)]) (fix := (ln, listOf lv.toArray kl) :: (D4, lst ev) :: (ta, listOf rows.toArray kt) :: (42, tabObj ps6) :: rs) rfl (IsRange.new ..) hsm8 hrs8 (F8.push _)
      (News.kp N8 fun b o e => Heap.get?_push_of_some _ e) ?_
      (fun i m news => (m (Str.ofString "table") = some (.ref ta) ∧ m (Str.ofString "ends") = some (.ref D4) ∧ m (Str.ofString "line") = some (.ref ln) ∧ m (Str.ofString "tape") = some (.ref tp)) ∧ ∃ tl k, news = [(tp, listOf tl.toArray k)] ∧ IntsAre tl (tapeN (endsN ws bs) (lineN ws bs rb) i)) ⟨⟨hm8a, hm8b, hm8c, hm8d⟩, [], 0, rfl, .nil⟩ ?_ ?_
    · intro p hp q hq
      rw [List.mem_singleton.mp hp]
      exact Nat.ne_of_lt (kst_ltOf (l := (ln, listOf lv.toArray kl) :: (D4, lst ev) :: (ta, listOf rows.toArray kt) :: (42, tabObj ps6) :: rs) ltp q hq)
    · rintro i t₁ m₁ news₁ h tk own hi2 hadr hown hsub ⟨⟨q1, q2, q3, q4⟩, tl, k, rfl, htl⟩ F N
      dsimp only [List.map, List.cons_append, List.nil_append] at *
      walk_at "mine.steps"
      rename Fr _ _ _ _ => F
      rename News _ _ _ _ => N
      obtain ⟨m9, ⟨r1, r2, r3, r4, r5⟩, F9⟩ : ∃ m9 : Str → Option Value, (m9 (Str.ofString "table") = some (.ref ta) ∧ m9 (Str.ofString "ends") = some (.ref D4) ∧ m9 (Str.ofString "line") = some (.ref ln) ∧ m9 (Str.ofString "tape") = some (.ref tp) ∧ m9 (Str.ofString "spot") = some (.int (0 + (i : Int) * 1) t₁)) ∧ Fr (s.heap.hide 42) L _ m9 := ⟨_, ⟨by exact q1, by exact q2, by exact q3, by exact q4, by rfl⟩, F⟩
      clear F
      refine For_turns F9 ?_ (hE := PassesOwn.never)
      walk_at "mine.steps"
      refine call_range_1 ?_
      refine range_turns (n := 8) (news := [(tp, listOf tl.toArray k)]) (fix := own) rfl (IsRange.new ..) hsm8 hrs8 (F9.push _)
        (News.kp N fun b o e => Heap.get?_push_of_some _ e) (fun p hp q hq => by rw [List.mem_singleton.mp hp]; exact hown q hq tp (.head _))
        (fun j m news => (m (Str.ofString "table") = some (.ref ta) ∧ m (Str.ofString "ends") = some (.ref D4) ∧ m (Str.ofString "line") = some (.ref ln) ∧ m (Str.ofString "tape") = some (.ref tp)) ∧ (∃ ts, m (Str.ofString "spot") = some (.int (spotN (lineN ws bs rb) i j) ts)) ∧
          ∃ tl k, news = [(tp, listOf tl.toArray k)] ∧ IntsAre tl (tapeN (endsN ws bs) (lineN ws bs rb) i ++ (List.range j).map fun k => 127 * (endsN ws bs).getD (spotN (lineN ws bs rb) i k) 0))
        ⟨⟨r1, r2, r3, r4⟩, ⟨t₁, by rw [r5]; simp [spotN]⟩, tl, k, rfl, by simpa using htl⟩ ?_ ?_
      · rintro j t₂ m₂ news₂ h2 tk2 own2 hj2 hadr2 hown2 hsub2 ⟨⟨r1, r2, r3, r4⟩, ⟨ts, r5⟩, tl2, kk2, rfl, htl2⟩ F N
        dsimp only [List.map, List.cons_append, List.nil_append] at *
        walk_at "mine.steps"
        rename Fr _ _ _ _ => F
        rename News _ _ _ _ => N
        have hsp := spot_lt i j hi2
        generalize hspe : spotN (lineN ws bs rb) i j = sp at *
        refine item_list_ints (isL (N (D4, _) (.tail _ (hsub2 _ (hsub _ (.tail _ (.head _)))))).1) hev (by omega) (by rw [ends_len]; omega) (by omega) fun tx => ?_
        have hbd : 0 ≤ (endsN ws bs).getD (sp : Int).toNat 0 ∧ (endsN ws bs).getD (sp : Int).toNat 0 < 3 := by
          refine hends _ ?_
          rw [List.getD_eq_getElem?_getD, List.getElem?_eq_getElem (by rw [ends_len]; omega)]
          exact List.getElem_mem _
        have hbd1 := hbd.1
        have hbd2 := hbd.2
        clear hbd
        walk_at "mine.steps"
        have htl2l : tl2.length ≤ 4096 := by
          rw [htl2.length, List.length_append, tape_len, List.length_map, List.length_range]; omega
        refine append_led (N (tp, _) (.head _)).1 (by rw [sizeLine_eq]; omega) fun h3 k3 hg3 hs3 => ?_
        have F3 := Fr.put F N (.head _) hs3
        have N3 := News.put N (fun p hp => hown2 p hp tp (.head _)) hs3 hg3
        replace N3 : News _ _ _ ((tp, listOf (tl2 ++ [Value.int (127 * (endsN ws bs).getD (sp : Int).toNat 0) (tk + 1)]).toArray k3) :: (ln, listOf lv.toArray kl) :: own2) := fun p hp => N3 p (by
          rcases List.mem_cons.mp hp with rfl | hp
          · exact .head _
          rcases List.mem_cons.mp hp with rfl | hp
          · exact .tail _ (hsub2 _ (hsub _ (.head _)))
          · exact .tail _ hp)
        clear F N
        walk_at "mine.steps"
        refine index_ints (isL (N3 (ln, _) (.tail _ (.head _))).1) hlv (by omega) ((HP ws bs rb hring).mem _ hsp) ?_
        walk_at "mine.steps"
        rename Fr _ _ _ _ => F
        rename News _ _ _ _ => N
        refine InvEndN.intro (nx := [(tp, _)]) F N ⟨⟨by exact r1, by exact r2, by exact r3, by exact r4⟩, ⟨_, by exact congrArg (fun z : Nat => some (Value.int (z : Int) _)) (show List.idxOf (sp : Int) (lineN ws bs rb) = spotN (lineN ws bs rb) i (j + 1) by rw [← hspe]; rfl)⟩, _, _, rfl, ?_⟩ rfl (fun p hp => by rw [List.mem_singleton.mp hp]; exact .head _) fun p hp => .tail _ (.tail _ hp)
        rw [List.range_succ, List.map_append, ← List.append_assoc]
        refine htl2.append ?_
        simp only [List.map_cons, List.map_nil, hspe]
        exact .cons _ _ .nil
      · rintro m₂ news₂ h2 tk2 ⟨⟨r1, r2, r3, r4⟩, ⟨ts, r5⟩, tl2, kk2, rfl, htl2⟩ hadr2 F N
        walk_at "mine.steps"
        refine InvEndN.intro (nx := [(tp, listOf tl2.toArray kk2)]) F N ⟨⟨r1, r2, r3, r4⟩, tl2, kk2, rfl, ?_⟩ rfl (fun p hp => List.mem_append_left _ hp) fun p hp => List.mem_append_right _ hp
        rw [tape_succ]
        exact htl2
    · rintro m₁ news₁ h tk ⟨⟨q1, q2, q3, q4⟩, tl, k, rfl, htl⟩ hadr F N
      dsimp only
      show wG _ _ (execs _ _) _ _ { s with heap := h, toks := tk }
      replace N : News (s.heap.hide 42) L h ((tp, listOf tl.toArray k) :: (ta, listOf rows.toArray kt) :: (42, tabObj ps6) :: rs) := fun p hp => N p (by
        simp only [List.cons_append, List.nil_append, List.mem_cons] at hp ⊢
        rcases hp with h | h | h | h <;> simp [h])
      replace F : Fr (s.heap.hide 42) L h m₁ := F
      clear F8 N8
      refine wG_execs_cons ?_
      refine wG_Assign_Name hΓ' ?_
      refine wG_Call hΓ' ?_
      walk_at "mine.steps"
      refine wG_callWith_K (K := hd.heap_39 w.params) hΓ' (by k_is) ?_
      walk_at "mine.steps"
      have htin : ∀ n ∈ tapeN (endsN ws bs) (lineN ws bs rb) 8, 0 ≤ n ∧ n < 256 := fun n hn => by
        unfold tapeN at hn
        obtain ⟨st, hst, hn⟩ := List.mem_flatMap.mp hn
        obtain ⟨kk, hkk, rfl⟩ := List.mem_map.mp hn
        have h8 := spot_lt st kk (List.mem_range.mp hst)
        have hb : 0 ≤ (endsN ws bs).getD (spotN (lineN ws bs rb) st kk) 0 ∧ (endsN ws bs).getD (spotN (lineN ws bs rb) st kk) 0 < 3 := by
          refine hends _ ?_
          rw [List.getD_eq_getElem?_getD, List.getElem?_eq_getElem (by rw [ends_len]; omega)]
          exact List.getElem_mem _
        omega
      refine call_bytes_ints (isL (N (tp, _) (.head _)).1) htl htin (by rw [htl.length, tape_len, sizeLine_eq]; omega) rfl fun h7 t7 tk7 hk7 => ?_
      replace N := News.kp N hk7
      replace F := Fr.kp F hk7
      walk_at "mine.steps"
      refine byteswap_spec (In.up hΓ' rfl (Nat.le_of_ble_eq_true rfl) (Nat.le_of_ble_eq_true rfl)) hcl' (X.keeps F.keep) (T.keeps F.keep) (Kn := 8) (W := 8) (by omega) (by omega) (by rw [byteArr_size, tape_len]) (by rw [byteArr_size, tape_len]; omega) fun R t8 h8 tk8 hk8 hR1 hR2 => ?_
      replace N := News.kp N hk8
      replace F := Fr.kp F hk8
      walk_at "mine.steps"
      rename Fr _ _ _ _ => F
      rename News _ _ _ _ => N
      show wG _ _ (execs _ _) _ _ { s with heap := _, toks := _ }
      obtain ⟨m9, ⟨hm9a, hm9b⟩, F9⟩ : ∃ m9 : Str → Option Value, (m9 (Str.ofString "table") = some (.ref ta) ∧ m9 (Str.ofString "told") = some (.bytes R t8)) ∧ Fr (s.heap.hide 42) L _ m9 := ⟨_, ⟨by exact q1, by rfl⟩, F⟩
      clear F
      refine wG.any hΓ' ?_
      walk_at "mine.steps"
      walk1
      walk_at "mine.steps"
      refine comp2_ints (f := fun n => 127 * n) rfl (by with_unfolding_all rfl) (by decide) (by rfl) (by decide) (by rfl) (by rfl) (by decide) ?_ ?_
      · intro C sq n t m E hC hm
        walk_at "mine.steps"
        refine wpAny_Name (wpAny_loadName_local (env := compEnvC _ [] C _) (v := .int n t) rfl rfl hC hm ?_) (by decide)
        walk_at "mine.steps"
      · walk1
        have hflen : (((List.range 8).map (rowN ws bs)).flatten).length = 64 := by
          rw [← List.flatMap_def, flat_len (fun k => by rw [row_len, hwsl])]
        refine ⟨ta, rows, (List.range 8).map (rowN ws bs), rfl, isL (N (ta, _) (.tail _ (.head _))).1, hrs.tab (fun p hp => N p (.tail _ (.tail _ (.tail _ hp)))), by rw [hflen]; omega, ?_⟩
        intro D h19 tk19 zs hk19 hD19 hg19 hz19
        replace N := News.kp N hk19
        replace F9 := Fr.kp F9 hk19
        walk_at "mine.steps"
        have hzin : ∀ n ∈ ((List.range 8).map (rowN ws bs)).flatten.map fun n => 127 * n, 0 ≤ n ∧ n < 256 := fun n hn => by
          obtain ⟨z, hz, rfl⟩ := List.mem_map.mp hn
          obtain ⟨row, hrow, hz⟩ := List.mem_flatten.mp hz
          obtain ⟨p, _, rfl⟩ := List.mem_map.mp hrow
          have := (HP ws bs rb hring).small p z hz
          omega
        refine call_bytes_ints (isL hg19) hz19 hzin (by rw [hz19.length, List.length_map, hflen, sizeLine_eq]; omega) rfl fun h20 t20 tk20 hk20 => ?_
        refine eq_bytes ?_
        rw [← told_eq hring (HP ws bs rb hring) hR1 hR2]
        rw [beq_self_eq_true]
        refine hQ _ _ (fun b o e => hk20 _ _ (F9.keep _ _ e)) ⟨ps6, hk20 _ _ (N (42, _) (.tail _ (.tail _ (.head _)))).1⟩
end Mine
end TLw

section THe
open PySem PySem.W PyProof.Rows PySem.Calls
set_option maxRecDepth 100000
set_option maxHeartbeats 8000000
namespace Mine
theorem own_from (call : CallG) (hw : Rw.promised) (ok : (chainsOk hd.view_39 && opensWell Pg && frees Rw) = true) (hb : Pg.bare)
    (hdef : ∃ d kwd, defOf hd.view_39 Rw.name = some (d, kwd) ∧ Pg.theDef Rw.name = some (d.params, d.body, d.scope) ∧ kwWritten? d.params.kwonlyargs d.params.kw_defaults = some kwd) :
    Rw.claim.HoldsOpenBy (callStub Rw.name) [Rw.name] PySem.Challenge.rw_pk0011_01.row.keeps false := by
  obtain ⟨ok, hfr⟩ := Bool.and_eq_true_iff.mp ok
  obtain ⟨hch, hop⟩ := Bool.and_eq_true_iff.mp ok
  obtain ⟨hsame, hu, ha, hap, hmk⟩ := frees_parts hfr
  have behind := fun w => LeftO.behind (XP := fun mg h => XL hd.view_39 [] mg h ∧ RecFacts Rw.records h) left0 (fun s e => ⟨xl_of s (Bool.and_eq_true_iff.mp e).1, recFacts_of (Bool.and_eq_true_iff.mp e).2⟩) hch w
  refine ⟨⟨hb, hop, rfl⟩, hw.witness, fun w => ⟨(behind w).1, fun s' hs' => ?_⟩⟩
  obtain ⟨s₀, hfen, hg0, s, hT, hz, hgens, hmain, G, hY⟩ := (behind w).2 s' hs'
  have Gx : Ground hd.view_39 [] Rw.records (XL hd.view_39 []) w s (s.heap.nsMap mainGlobals) (s.heap.nsMap builtinsNs) s.heap :=
    G.X.2.ground ⟨G.T, G.B, G.D, G.TE, G.TD, G.W, G.X.1, G.cls, G.has, G.apart, G.once, G.K⟩
  refine ⟨s₀, hfen, hg0, s, hT, fun n hn => ?_, G.X.2.1, G.X.2.2.1, fun args hpre hlay ord hord => ?_⟩
  · obtain ⟨d, kwd, h1, h2, h3⟩ := hdef
    rw [List.mem_singleton.mp hn]
    exact pinned_of_view hmain (⟨G.T, G.B, G.D, G.TE, G.TD, G.W, G.X.1, G.cls, G.has, G.apart, G.once, G.K⟩ : Ground hd.view_39 [] [] (XL hd.view_39 []) w s (s.heap.nsMap mainGlobals) (s.heap.nsMap builtinsNs) s.heap) h1 h2 h3
  have hgens : s.gens = #[] := Array.eq_empty_of_size_eq_zero (beq_iff_eq.mp hgens)
  obtain ⟨⟨vs, s₁⟩, hlaid⟩ := Option.isSome_iff_exists.mp (layAllW_isSome (P := w.params) (ord := ord) Gx.has args Rw.args s (pre_splitW hpre).1)
  have keeps := layAllW_keeps _ _ _ hlaid
  have rest := layAllW_rest _ _ _ hlaid
  obtain ⟨as, hrd, hin, hold⟩ := reads_layAllW hord _ _ _ hlaid hlay s₁.heap (fun _ _ e => e)
  have L : Laid Rw.records w s s₁ args vs as := ⟨⟨ord, hord, hlaid⟩, hrd, hin, hold, keeps, rest.1.trans hgens, rest.2.2.1⟩
  have Gx₁ := Gx.keeps XL.keeps keeps
  obtain ⟨f, hf, h⟩ := call w s s₁ _ _ Gx₁ (hk.keeps _ _ _ (hk.of w s hY) keeps) args vs as hpre hlay hrd L.well (L.low Gx.low) L.gens
  have hident := ident_freeW (r := Rw) hu ha hap
  obtain ⟨k, v, s₂, s₃, hrun, hsched, hfo, hends, hos⟩ := thread_G (P := fun v s' => Rw.claim.Ends s args vs s₁ (.ok (.ret v)) s' ∧ s'.os = s.os) (Shared.asleep_of_life rest.2.2.2 hz)
    (wG.mono (tree_G Gx₁.T.g hf h) (fun fin s' x => by
      obtain ⟨v, e, g⟩ := x
      have z := g.laid (c := Rw.claim) hsame rfl hident L
      exact ⟨v, e, ⟨z.1, z.2.1⟩, z.2.2⟩) fun _ _ x => x)
  obtain ⟨eh, _, _, eo, _⟩ := Shared.forget_eq hfo
  have hends := hends.congr eh
  rw [← eo] at hos
  have hlife : s₂.heap.life = s.heap.life := (runN_life _ _ _ hrun).trans rest.2.2.2
  refine ⟨vs, s₁, hlaid, k, _, s₂, hsched, ?_, (fun _ i x hx => by rw [hgens] at hx; simp at hx), (fun q => by cases q), by rw [hlife], Shared.rest_eq hos⟩
  rcases hends with ⟨v', e, d1, d2, d3, d4, d5⟩ | ⟨e, ob, cls, d0, d1, d2, d3, d4, d5⟩
  · cases e
    exact .inl ⟨v, rfl, d1, d2, d3, fun b o y _ => d4 b o y, d5⟩
  · cases d0
theorem own_head (call : CallG) : PySem.Challenge.rw_pk0011_01.Holds := by
  w_on
  o_law
  have hw : PySem.Challenge.rw_pk0011_01.row.toRowW.promised := by w_witness2
  refine ⟨by assumption, hw, own_from call hw (by decide +kernel) ⟨rfl, rfl, rfl, rfl, rfl, by decide +kernel⟩ ⟨_, _, by rfl, by rfl, by rfl⟩⟩
end Mine
end THe

section THf
open PySem PySem.W PyProof.Rows PySem.Calls
set_option maxRecDepth 100000
set_option maxHeartbeats 8000000
namespace Mine
theorem fillF : (PySem.Challenge.rw_pk0011_01 = PySem.Challenge.rw_pk0011_01) ∧ hd.heap_39 = hd.heap_39 := by
  k_fill
  exact ⟨rfl, rfl⟩
/-- the law's call, in plain words -/
def LawG : Prop :=
  ∀ (w : World) (s : Shared) (mg mb : Str → Option Value) (l : Addr) (vs : List Value) (ns : List Int), G42 w mg mb s.heap → s.heap.IsList l vs.toArray → IntsAre vs ns → ns.length ≤ 63 →
    ∀ Q : Value → Shared → Prop, (∀ h' tk, Kp (s.heap.hide 42) h' → (∃ ps, h'.get? 42 = some (tabObj ps)) → Q (.bool true) { s with heap := h', toks := tk }) →
      wG (model Pg w) G0 (call (.ref 59) [.ref l]) Q (fun _ _ => False) s
theorem call_of_law (H : LawG) : CallG := by
  intro w s₀ s₁ mg mb G Y args vals as hpre hlay hrd hwl hlo hgens
  have KX := km_in_of Y
  have hT8 := km_tabs_of Y
  have hTt : TabsAt [((46 : Addr), (42 : Addr))] s₁.heap := List.forall_mem_cons.mpr ⟨⟨codeHd_of_K (c := 46) (P := 42) KX (by kernel_rfl), hT8 42 (.head _)⟩, fun _ h => nomatch h⟩
  have T := G.T
  have hX : (hd.heap_39 w.params).In (s₁.heap.hide 42) := ghost_K hTt KX (by kernel_rfl)
  have hG : G42 w mg mb s₁.heap := ⟨hX, ⟨_, _, _, ghost_top hTt T⟩, (ghost_code hTt).1, #[], hT8 42 (.head _), .inl rfl⟩
  refine ⟨.ref 59, mg_of KX T.g (by kernel_rfl), ?_⟩
  clear hX T KX hT8 Y
  wrow_args hpre hlay hrd hwl hlo
  refine H w s₁ mg mb _ _ _ hG (by assumption) (by assumption) (by omega) _ fun h' tk hk ⟨ps, hp⟩ => ?_
  have old : ∀ b o, b ≠ 42 → s₁.heap.get? b = some o → h'.get? b = some o := fun b o hb e => hk b o ((Heap.hide_ne _ hb).trans e)
  have h42 := (hTt (46, 42) (.head _)).2
  refine ⟨.inl ⟨.bool true, .bool true, [], rfl, fun _ => rfl, .bool _, by wrow_post, fun _ => ⟨.nil, fun _ h => nomatch h⟩⟩, ⟨fun b o e => ?_, fun b o e => ?_⟩, rfl, .of_eq hgens⟩
  · by_cases hb : b = 42
    · subst hb
      obtain rfl := Option.some.inj (e.symm.trans h42)
      exact .inr (.inl ⟨((hTt (46, 42) (.head _)).1.tab h42).isCodeTable, rfl, #[], ps, rfl, by rw [Array.empty_append]; exact hp⟩)
    · exact .inl (old b o hb e)
  · by_cases hb : b = 42
    · exact ⟨_, hb ▸ hp⟩
    · exact ⟨o, old b o hb e⟩
theorem top_of_law (H : LawG) : PySem.Challenge.rw_pk0011_01.Holds := own_head (call_of_law H)
end Mine
end THf

open PySem PySem.W PyProof.Rows
theorem PySem.Challenge.cw_pk0011_01_holds : PySem.Challenge.rw_pk0011_01.Holds :=
  Mine.top_of_law fun _ _ _ _ _ _ _ G hl hi hz Q hQ => Mine.law_walk G hl hi hz (fun _ _ _ hr => Mine.plain hr) hQ
