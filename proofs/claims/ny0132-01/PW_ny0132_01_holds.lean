import PyProof.Rows.All
import Wide.All
import OpenK.AllK
import Wide.FinOn
import PySem.Challenge.RW_ny0132_01
set_option Elab.async false
set_option linter.all false
set_option maxRecDepth 100000
set_option maxHeartbeats 8000000
set_option rowWalk.seconds 0
namespace Mine

section
open PySem PySem.W PyProof.Rows
section
noncomputable def keepK (K : Params → Frag) (_ : (∀ K' : Params → Frag, K = K' → PySem.Challenge.rw_ny0132_01.row.Holds) → PySem.Challenge.rw_ny0132_01.row.Holds) : Params → Frag := K
theorem useC {X : Prop} {K : Params → Frag} (c : ∀ K' : Params → Frag, K = K' → X) (K' : Params → Frag) (h : K = K') : X := c K' h
local macro_rules | `(tactic| o_head (kHook $K $as $e)) => `(tactic| exact useC (by assumption) $K rfl)
noncomputable def cap : Params → Frag := by
  refine' keepK _ (fun c => ?h)
  rotate_left
  k_head
end
section
noncomputable def FragAt (_ : Str) : Type := Frag
noncomputable def KP : Params → Frag := by
  intro P
  refine @id (FragAt (Str.ofString "a")) ?_
  refine' (?f : ∀ v : Frag, cap.heap_1 P = v → Frag) _ ?h
  case f => exact fun v _ => v
  case h => delta cap.heap_1; exact rfl
theorem kp_eq : KP = cap.heap_1 := rfl
noncomputable def ads : List Addr := [2, 3, 15, 17, 18, 20, 21, 22, 24, 25, 27, 28, 29, 31, 32, 34, 35, 36, 38, 39, 41, 42, 43, 45, 46, 48, 49, 50, 52, 53, 55, 56, 57, 59, 60, 62, 63, 64, 71, 73, 74, 76, 77, 78, 79, 80, 83, 90, 92, 93, 95, 96, 97, 99, 100, 102, 103, 104, 106, 107, 109, 110, 111, 112, 113, 116, 118, 119, 121, 122, 123, 125, 126, 128, 129, 130, 132, 133, 135, 136, 137, 139, 140, 142, 143, 144, 146, 147, 149, 150, 151, 153, 154, 156, 157, 158, 160, 161, 163, 164, 165, 168, 169, 170, 172, 173, 175, 176, 177, 179, 180, 182, 183, 184, 186, 187, 189, 190, 191, 194, 195, 196, 199, 200]
theorem ads_eq (P : Params) : ads = (KP P).map (·.1) := by kernel_rfl
local macro_rules | `(tactic| k_head) => `(tactic| o_head (kHook KP ads ads_eq))
open_top hd for PySem.Challenge.rw_ny0132_01
theorem walk_turn {q : Program} {loose : List Str} {XP : (Str → Option Value) → Heap → Prop} {r : RowW} {d : DefRec} {kwd : List (Str × Expr)} {run : Value → List Value → Sem Value} {K K' : Params → Frag} (h : K = K') {as : List Addr} {e : ∀ P, as = (K P).map (·.1)}
    (x : WalkO q loose XP (kHook K' as (h ▸ e)).says r d kwd run) : WalkO q loose XP (kHook K as e).says r d kwd run := by
  subst h; exact x
end

theorem walkOff : True := by
  w_top off
  trivial
end

section
open PySem PySem.W PyProof.Rows PySem.Calls

noncomputable def Le (g h : Heap) : Prop := ∀ b o, g.get? b = some o → h.get? b = some o
theorem Le.refl (g : Heap) : Le g g := fun _ _ e => e
theorem Le.trans {a b c : Heap} (h1 : Le a b) (h2 : Le b c) : Le a c := fun x o e => h2 x o (h1 x o e)

structure Amb (w : World) (g : Heap) : Prop where
  X : (cap.heap_1 w.params).In g
  T : ∃ mean mg mb, Top hd.view_39 (looseW hd.view_39 []) mean mg mb g
theorem Amb.le {w : World} {g g' : Heap} (a : Amb w g) (l : Le g g') : Amb w g' :=
  ⟨a.X.keeps l, let ⟨x, y, z, t⟩ := a.T; ⟨x, y, z, t.keeps l⟩⟩

/-- the room around a call at level k -/
structure Room (k : Nat) (A : Around) : Prop where
  depth : A.depth ≤ 340 + k
  units : A.units ≤ 400 + 10 * k
  hnd : A.handled = none
theorem Room.deeper {k : Nat} {fr : Option (List Env)} {gd : Option (List Code)} (env : Env) : Room (k + 1) (({ handled := none, depth := 340 + k, frames := fr, guards := gd, units := 400 + 10 * k } : Around).deeper env) :=
  ⟨by show 340 + k + 1 ≤ _; omega, by show 400 + 10 * k + 3 ≤ _; omega, rfl⟩

theorem weaken {α : Type} {M : Model} {A : Around} {t : Sem α} {Q : α → Shared → Prop} {E : Value → Shared → Prop} {s : Shared} {k : Nat} (r : Room k A)
    (h : wpAny M { handled := none, depth := 340 + k, frames := A.frames, guards := A.guards, units := 400 + 10 * k } t Q E s) : wpAny M A t Q E s :=
  fun Γ p hΓ => h Γ p ⟨hΓ.1.trans r.hnd, Nat.le_trans hΓ.2.1 r.depth, hΓ.2.2.1, hΓ.2.2.2.1, Nat.le_trans hΓ.2.2.2.2 r.units⟩

theorem enter {prog : Program} {w : World} {A : Around} {E : Value → Shared → Prop} {s : Shared} {K : Frag} {g : Heap} {Q : Value → Shared → Prop}
    {name qual : Str} {params : Arguments} {body : List Stmt} {scope : Scope} {dV kV doc pm cdv ct oc : Value} {an od : Option Addr} {osl : Array (Option Value)} {f : Addr} {args : List Value} {binds : List (Str × Value)}
    (X : K.In g) (hlim : g.NoLimit) (l : Le g s.heap) (hsz : g.objs.size ≤ s.heap.objs.size)
    (ho : K.lookup f = some ⟨oc, od, .func (fnOf name qual params body scope dV kV doc pm an cdv ct), osl⟩) (hcd : codeIn K cdv qual = true) (hroom : A.depth < recursionLimit)
    (hbind : BindsTo s (fnOf name qual params body scope dV kV doc pm an cdv ct) ⟨args, []⟩ binds) (hloc : ∀ y ∈ binds, scope.names.lookup y.1 = some .local)
    (h : ∀ h₁, Fr g s.heap.objs.size h₁ (fun y => binds.reverse.lookup y) → Le s.heap h₁ →
      wpAny (model prog w) (A.deeper (envOf qual scope s.heap.objs.size f cdv)) (execs body (envOf qual scope s.heap.objs.size f cdv))
        (fun fl s' => Q (match fl with | .ret v => v | _ => .none) s')
        (fun _ _ => False)
        { s with heap := h₁, toks := s.toks + binds.length })
    (hcell : ∀ x ∈ scope.names, x.2 ≠ .cell) (hco : scope.isCoroutine = false) (hgen : scope.isGenerator = false) (hk : scope.kind = .function) :
    wpAny (model prog w) A (call (.ref f) args) Q E s := by
  refine wpAny_call ?_
  refine codeAny_call_def (fd := fnOf name qual params body scope dV kV doc pm an cdv ct) (body := body) (binds := binds) hroom (X.keeps l _ _ ho) rfl (hlim.keeps l) (codeRec_of (X.keeps l) hcd) rfl hbind hcell hloc (fun h₁ hns hk₁ => ?_) hco hgen hk
  exact wpAny_mono (h h₁ ⟨hns, fun b o e => hk₁ b o (l b o e), hsz⟩ hk₁) (fun fl s' h' => h') (fun _ _ x => x.elim)
end

section
open PySem PySem.W PyProof.Rows PySem.Calls PySem.SeqAt
open PySem.AutoSeq1 (wpAny_loadPart')
open MeetsSeq MeetsSeq2 MeetsSeq3 SeqRoads2

noncomputable def tx : Bool → Str
  | false => Str.ofString "a"
  | true => Str.ofString "b"
noncomputable def dW (w : List Bool) : PyData := .list (w.map fun b => PyData.str (tx b))
noncomputable def dWs (ws : List (List Bool)) : PyData := .list (ws.map dW)

noncomputable def ltW : List Bool → List Bool → Bool
  | [], [] => false
  | [], _ :: _ => true
  | _ :: _, [] => false
  | x :: xs, y :: ys => if x = y then ltW xs ys else (!x && y)

theorem tx_lt (x y : Bool) : decide ((tx x).cps.toList < (tx y).cps.toList) = (!x && y) := by cases x <;> cases y <;> decide +kernel
theorem tx_eq (x y : Bool) : (tx x == tx y) = (x == y) := by cases x <;> cases y <;> decide +kernel

/-- an array of the texts -/
noncomputable def TxA (items : Array Value) (xs : List Bool) : Prop := items.size = xs.length ∧ ∀ (j : Nat) (x : Bool), xs[j]? = some x → ∃ t, items[j]? = some (Value.str (tx x) t)

theorem txA_of : ∀ {vs : List Value} {xs : List Bool} {h : Heap} {as : List Addr}, ReadsAll h vs (xs.map fun b => PyData.str (tx b)) as → TxA vs.toArray xs
  | [], [], _, _, _ => ⟨rfl, fun j x e => by simp at e⟩
  | v :: vs, x :: xs, h, as, r => by
    cases r with
    | cons r1 r2 =>
      have ih := txA_of r2
      cases r1 with
      | str _ t =>
        refine ⟨by simpa using ih.1, fun j y e => ?_⟩
        cases j with
        | zero => simp at e; subst e; exact ⟨t, by simp⟩
        | succ j => simpa using ih.2 j y (by simpa using e)
  | [], _ :: _, _, _, r => by cases r
  | _ :: _, [], _, _, r => by cases r

theorem lt_loopW (l b : Addr) (items items2 : Array Value) (n n2 : Nat) (dd dd2 : Option Addr) (sl sl2 : Array (Option Value)) (xs ys : List Bool) (hx : TxA items xs) (hy : TxA items2 ys) (k : Nat) :
    ∀ i : Nat, xs.length - i = k → Meets (Builtin.«list.__eq__.loop» ⟨[.ref l, .ref b, rawInt i, rawInt 0], []⟩)
      (fun A R s => s.heap.get? l = some { cls := .type "list", dict := dd, data := .seq items n, slots := sl } ∧ s.heap.get? b = some { cls := .type "list", dict := dd2, data := .seq items2 n2, slots := sl2 } ∧
        i ≤ xs.length ∧ i ≤ ys.length ∧ R (.ok (.ret (.bool (ltW (xs.drop i) (ys.drop i))))) s) := by
  have hi0 : items.size = xs.length := hx.1
  have hj0 : items2.size = ys.length := hy.1
  induction k with
  | zero =>
    intro i hk prog w A R s h
    obtain ⟨hp, g, d, tk, os⟩ := s; obtain ⟨hl, hb, hix, hiy, h⟩ := h
    wp_walk using wpAny_loadPart' hl, wpAny_loadPart' hb
    have hi1 : items[((i : Nat) : Int).toNat]? = none := by simp; omega
    rw [hi1]
    wp_walk using wpAny_loadPart' hl, wpAny_loadPart' hb
    have hd : xs.drop i = [] := by simp; omega
    rw [hd] at h
    show R (.ok (.ret (.bool (decide (items.size < items2.size))))) _
    have e : ltW [] (ys.drop i) = decide (items.size < items2.size) := by
      cases hq : ys.drop i with
      | nil =>
        have : ys.length - i = 0 := by rw [← List.length_drop, hq]; rfl
        have : ¬ items.size < items2.size := by omega
        simp [ltW, this]
      | cons y r =>
        have : ys.length - i = r.length + 1 := by rw [← List.length_drop, hq]; rfl
        have : items.size < items2.size := by omega
        simp [ltW, this]
    rw [← e]; exact h
  | succ k ih =>
    intro i hk prog w A R s h
    obtain ⟨hp, g, d, tk, os⟩ := s; obtain ⟨hl, hb, hix, hiy, h⟩ := h
    wp_walk using wpAny_loadPart' hl, wpAny_loadPart' hb
    have hlt : i < xs.length := by omega
    obtain ⟨t, ht⟩ := hx.2 i xs[i] (by simp [hlt])
    have hi1 : items[((i : Nat) : Int).toNat]? = some (.str (tx xs[i]) t) := by simpa using ht
    have hdx : xs.drop i = xs[i] :: xs.drop (i + 1) := by rw [List.drop_eq_getElem_cons hlt]
    have hc : ((i : Int) + 1) = ((i + 1 : Nat) : Int) := by push_cast; rfl
    rw [hdx] at h
    rw [hi1]
    by_cases hlt2 : i < ys.length
    · obtain ⟨u, hu⟩ := hy.2 i ys[i] (by simp [hlt2])
      have hi2 : items2[((i : Nat) : Int).toNat]? = some (.str (tx ys[i]) u) := by simpa using hu
      have hdy : ys.drop i = ys[i] :: ys.drop (i + 1) := by rw [List.drop_eq_getElem_cons hlt2]
      rw [hdy] at h
      rw [hi2]
      refine wpAny_bind (EqAt.str_str (tx xs[i]) t (tx ys[i]) u prog w _ _ ?_)
      rw [tx_eq]
      cases hb' : xs[i] == ys[i] with
      | true =>
        have hq : xs[i] = ys[i] := eq_of_beq hb'
        have h' : R (.ok (.ret (.bool (ltW (xs.drop (i + 1)) (ys.drop (i + 1)))))) ⟨hp, g, d, tk, os⟩ := by rw [ltW, if_pos hq] at h; exact h
        wp_walk
        rw [hc]
        exact ⟨plainId_quiet plain_eq_loop _, codeAny_builtin entry_eq_loop (by
          rw [Around.under_plainId plain_eq_loop _]
          exact ih (i + 1) (by omega) prog w A R _ ⟨hl, hb, by omega, by omega, h'⟩)⟩
      | false =>
        have hq : ¬ xs[i] = ys[i] := fun q => by rw [q] at hb'; simp at hb'
        rw [ltW, if_neg hq] at h
        wp_walk using wpAny_loadPart' hl, wpAny_loadPart' hb
        rw [hi1, hi2]
        refine wpAny_bind (show wpAny _ _ (richCompare .Lt (.str (tx xs[i]) t) (.str (tx ys[i]) u)) _ _ _ from PyProof.Rows.lt_str ?_)
        rw [tx_lt]
        exact wpAny_pure h
    · have hi2 : items2[((i : Nat) : Int).toNat]? = none := by simp; omega
      have hdy : ys.drop i = [] := by simp; omega
      rw [hdy] at h
      rw [hi2]
      wp_walk using wpAny_loadPart' hl, wpAny_loadPart' hb
      show R (.ok (.ret (.bool (decide (items.size < items2.size))))) _
      have e : decide (items.size < items2.size) = false := by simp; omega
      rw [e]; exact h

theorem list_ltW (l b : Addr) (items items2 : Array Value) (n n2 : Nat) (dd dd2 : Option Addr) (sl sl2 : Array (Option Value)) (xs ys : List Bool) (hx : TxA items xs) (hy : TxA items2 ys) :
    Meets (Builtin.«list.__lt__» ⟨[.ref l, .ref b], []⟩)
      (fun A R s => s.heap.get? l = some { cls := .type "list", dict := dd, data := .seq items n, slots := sl } ∧ s.heap.get? b = some { cls := .type "list", dict := dd2, data := .seq items2 n2, slots := sl2 } ∧
        R (.ok (.ret (.bool (ltW xs ys)))) s) := by
  intro prog w A R s h
  obtain ⟨hp, g, d, tk, os⟩ := s; obtain ⟨hl, hb, h⟩ := h
  have f3 := AutoSeq1.sub_list_list
  wp_walk using wpAny_loadPart' hl, wpAny_loadPart' hb
  exact ⟨plainId_quiet plain_eq_loop _, codeAny_builtin entry_eq_loop (by
    rw [Around.under_plainId plain_eq_loop _]
    exact lt_loopW l b items items2 n n2 dd dd2 sl sl2 xs ys hx hy _ 0 rfl prog w A R _ ⟨hl, hb, Nat.zero_le _, Nat.zero_le _, by simpa using h⟩)⟩

/-- read as -/
noncomputable def Rd (g : Heap) (v : Value) (d : PyData) : Prop := ∃ as, Reads g v d as
theorem Rd.le {g g' : Heap} {v : Value} {d : PyData} (r : Rd g v d) (l : Le g g') : Rd g' v d := let ⟨as, x⟩ := r; ⟨as, PyProof.Rows.Reads.keeps l x⟩

section
variable {prog : Program} {w : World} {A : Around} {E : Value → Shared → Prop} {s : Shared} {a b : Value} {x y : List Bool}
theorem lt_W {Q : Value → Shared → Prop} (ra : Rd s.heap a (dW x)) (rb : Rd s.heap b (dW y)) (hu : A.units < cLine) (h : Q (.bool (ltW x y)) s) : wpAny (model prog w) A (compareOp .Lt a b) Q E s := by
  obtain ⟨as, ra⟩ := ra
  obtain ⟨bs, rb⟩ := rb
  cases ra with
  | list ho hc hd hr =>
    cases rb with
    | list ho2 hc2 hd2 hr2 =>
      rename_i o vs n as _ o2 vs2 n2 bs
      obtain ⟨cls, dd, data, sl⟩ := o
      obtain ⟨cls2, dd2, data2, sl2⟩ := o2
      simp only at hc hd hc2 hd2
      subst hc hd hc2 hd2
      have hx : TxA vs x := by simpa using txA_of hr
      have hy : TxA vs2 y := by simpa using txA_of hr2
      exact richCompare_meets_room (op := .Lt) ⟨_, ho, rfl⟩ ⟨_, ho2, rfl⟩ F.slot_list_lt F.entry_list_lt (F.args_list_lt_2 _ _) (list_ltW _ _ vs vs2 n n2 dd dd2 sl sl2 x y hx hy)
        ⟨ho, ho2, show Value.bool (ltW x y) ≠ Value.notImplemented ∧ Q (.bool (ltW x y)) s from ⟨(fun x => nomatch x), h⟩⟩ hu
end
end

section
open PySem PySem.W PyProof.Rows PySem.Calls

noncomputable def Again (I : Nat → Shared → Prop) (n : Nat) (s : Shared) : Prop := ∃ m, m < n ∧ I m s
theorem mint {o : Option Value} {i j : Int} {t : Tok} (h : o = some (.int i t)) (e : i = j) : o = some (.int j t) := e ▸ h
noncomputable def Nope : Value → Shared → Prop := fun _ _ => False

section
variable {prog : Program} {w : World} {A : Around} {E : Value → Shared → Prop} {s : Shared} {env : Env}

theorem while_rule {test : Expr} {body : List Stmt} {pos : Pos} {Q : Flow → Shared → Prop} (I : Nat → Shared → Prop)
    (turn : ∀ n s, I n s →
      wpAny (model prog w) A (isTrue test env (eval test env)) (fun b s₂ =>
        if b = true then wpAny (model prog w) A (execs body env) (fun f s₃ => match f with
            | .next | .cont => Again I n s₃
            | .brk => Q .next s₃
            | .ret v => Q (.ret v) s₃) Nope s₂
        else Q .next s₂) Nope s)
    (n : Nat) (h : I n s) : wpAny (model prog w) A (exec (.While test body [] pos) env) Q E s := by
  refine wpAny_While (codeAny_whileLoop I (fun n s hI => ?_) n h)
  refine wpAny_mono (turn n s hI) (fun b s₂ h₂ => ?_) fun _ _ x => x.elim
  cases b with
  | false =>
    simp only [Bool.false_eq_true, if_false] at h₂ ⊢
    exact wpAny_execs_nil h₂
  | true =>
    simp only [if_true] at h₂ ⊢
    refine wpAny_mono h₂ (fun f s₃ h₃ => ?_) fun _ _ x => x.elim
    cases f <;> exact h₃

/-- what a turn's body must leave: the iterator, the frame, the ledger -/
noncomputable def TurnQ (h₀ : Heap) (L I : Addr) (oI : Obj) (s : Shared) (J : (Str → Option Value) → List (Addr × Obj) → Prop) (s₂ : Shared) : Prop :=
  ∃ h' tk m₂ news₂, s₂ = { s with heap := h', toks := tk } ∧ Fr h₀ L h' m₂ ∧ News h₀ L h' ((I, oI) :: news₂) ∧ (∀ p ∈ news₂, p.1 ≠ I) ∧ J m₂ news₂

theorem for_rule3 {h₀ : Heap} {L : Addr} {m : Str → Option Value} {news : List (Addr × Obj)} {x : Str} {px pos : Pos} {iter : Expr} {body : List Stmt} {ax : Addr} {items : Array Value} {Q : Flow → Shared → Prop}
    (F : Fr h₀ L s.heap m) (N : News h₀ L s.heap news) (hL : env.locals = L) (hh : A.handled = none) (hx : env.kindOf x = some .local)
    (hp : (env.scope.kind == .class || (env.scope.kind == .module && env.locals != env.globals)) = false)
    (hiter : ∀ Q', Q' (.ref ax) s → wpAny (model prog w) A (eval iter env) Q' E s)
    (J : Nat → (Str → Option Value) → List (Addr × Obj) → Prop) (h0 : J 0 m news)
    (hsrc : ∀ i h m' news', Fr h₀ L h m' → News h₀ L h news' → J i m' news' → h.IsList ax items)
    (step : ∀ i v I oI m₁ news₁ h₁ tk₁, items[i]? = some v → J i m₁ news₁ → Fr h₀ L h₁ (fun y => if y = x then some v else m₁ y) → News h₀ L h₁ ((I, oI) :: news₁) → (∀ p ∈ news₁, p.1 ≠ I) → (oI.cls ≠ .type "list" ∧ ∃ fs, oI.data = .fields fs) →
      wpAny (model prog w) A (execs body env) (fun f s₂ => match f with
        | .next | .cont => TurnQ h₀ L I oI s (J (i + 1)) s₂
        | .brk => Q .next s₂
        | .ret v => Q (.ret v) s₂) (notedBy (model prog w) A env (cameBackBy (model prog w) A env E)) { s with heap := h₁, toks := tk₁ })
    (hQ : ∀ h' tk m' news', Fr h₀ L h' m' → News h₀ L h' news' → J items.size m' news' → Q .next { s with heap := h', toks := tk })
    (hs : ∀ x, foldedSetIterable iter env x = pure x := by intro _; rfl) :
    wpAny (model prog w) A (exec (.For (.Name x px) iter body [] pos) env) Q E s := by
  subst hL
  refine wpAny_For (hiter _ (wpAny_pyIter_list (hsrc 0 _ _ _ F N h0) ?_)) hs
  have hI0 : h₀.get? s.heap.objs.size = none := by
    cases q : h₀.get? s.heap.objs.size with
    | none => rfl
    | some o => exact absurd (Heap.lt_size (F.keep _ _ q)) (Nat.lt_irrefl _)
  have hIL : s.heap.objs.size ≠ env.locals := Nat.ne_of_gt F.ns.lt
  refine codeAny_forLoop_any (fun k s' => ∃ i h' tk m' news', s' = { s with heap := h', toks := tk } ∧ i ≤ items.size ∧ k = items.size - i ∧ Fr h₀ env.locals h' m' ∧ News h₀ env.locals h' news' ∧ (∀ p ∈ news', p.1 ≠ s.heap.objs.size) ∧
    h'.IsListIter s.heap.objs.size ax i ∧ J i m' news') (fun n s' hI => ?_) items.size
    ⟨0, _, s.toks, m, news, rfl, Nat.zero_le _, rfl, F.push _, fun p hp => ⟨Heap.get?_push_of_some _ (N p hp).1, (N p hp).2⟩, fun p hp => Nat.ne_of_lt (Heap.lt_size (N p hp).1), ⟨_, Heap.get?_push_size _ rfl, rfl, rfl⟩, h0⟩
  obtain ⟨i, h', tk, m', news', rfl, hi, rfl, F', N', off, it, hJ⟩ := hI
  have src : h'.IsList ax items := hsrc i _ _ _ F' N' hJ
  by_cases hlt : i < items.size
  · refine wpAny_pyNext_list_item it src (x := items[i]) (by simp [hlt]) fun h₂ it₂ hs₂ => ?_
    refine wpAny_mono (Q := fun _ s₁ => s₁ = { s with heap := h₂, toks := tk }) (fun _ _ _ => rfl) (fun _ s₁ hs₁ => ?_) (E := Nope) fun _ _ x => x.elim
    subst hs₁
    have F₂ : Fr h₀ env.locals h₂ m' := F'.change hs₂ hIL hI0
    have N₂ : News h₀ env.locals h₂ news' := fun p hp => ⟨(hs₂.2 p.1 (off p hp)).trans (N' p hp).1, (N' p hp).2⟩
    refine wpAny_assign_Name (wpAny_storeName_local hx F₂.ns (fun h₃ hn₃ hs₃ => ?_) hp)
    have F₃ := F₂.set hn₃ hs₃
    have N₃ := N₂.set hs₃
    obtain ⟨oI, heI, rI⟩ := it₂
    have heI₃ : h₃.get? s.heap.objs.size = some oI := (hs₃.2 _ hIL).trans heI
    have NI : News h₀ env.locals h₃ ((s.heap.objs.size, oI) :: news') := fun p hp => by
      rcases List.mem_cons.mp hp with rfl | hp
      · exact ⟨heI₃, hIL, hI0⟩
      · exact N₃ p hp
    refine wpAny_mono (step i items[i] _ oI m' news' h₃ _ (by simp [hlt]) hJ F₃ NI off ⟨by rw [rI.1]; simp, _, rI.2⟩) (fun f s₃ h₄ => ?_) fun _ _ x => x
    have go : TurnQ h₀ env.locals s.heap.objs.size oI s (J (i + 1)) s₃ → ∃ m, m < items.size - i ∧ ∃ i h' tk m' news', s₃ = { s with heap := h', toks := tk } ∧ i ≤ items.size ∧ m = items.size - i ∧ Fr h₀ env.locals h' m' ∧ News h₀ env.locals h' news' ∧ (∀ p ∈ news', p.1 ≠ s.heap.objs.size) ∧
        h'.IsListIter s.heap.objs.size ax i ∧ J i m' news' := by
      rintro ⟨h₅, tk₅, m₅, news₅, rfl, F₅, N₅, off₅, J₅⟩
      exact ⟨items.size - (i + 1), by omega, i + 1, h₅, tk₅, m₅, news₅, rfl, hlt, rfl, F₅, fun p hp => N₅ p (.tail _ hp), off₅, ⟨oI, (N₅ _ (.head _)).1, rI⟩, J₅⟩
    cases f with
    | next => exact go h₄
    | cont => exact go h₄
    | brk => exact h₄
    | ret v => exact h₄
  · have he : i = items.size := by omega
    subst he
    refine wpAny_pyNext_list_end hh it src (by simp) fun h₂ he₂ => wpAny_execs_nil ?_
    exact hQ h₂ tk m' news' (LCg.fr_but F' (fun b o hb e => he₂ b o (by simpa using hb) e) (Ne.symm hIL) hI0) (LCg.news_but N' (fun b o hb e => he₂ b o (by simpa using hb) e) off) hJ
theorem for_rule2 {h₀ : Heap} {L : Addr} {m : Str → Option Value} {news : List (Addr × Obj)} {x : Str} {px pos : Pos} {iter : Expr} {body : List Stmt} {ax : Addr} {items : Array Value} {Q : Flow → Shared → Prop}
    (F : Fr h₀ L s.heap m) (N : News h₀ L s.heap news) (hL : env.locals = L) (hh : A.handled = none) (hx : env.kindOf x = some .local)
    (hp : (env.scope.kind == .class || (env.scope.kind == .module && env.locals != env.globals)) = false)
    (hiter : ∀ Q', Q' (.ref ax) s → wpAny (model prog w) A (eval iter env) Q' E s)
    (J : Nat → (Str → Option Value) → List (Addr × Obj) → Prop) (h0 : J 0 m news)
    (hsrc : ∀ i h m' news', Fr h₀ L h m' → News h₀ L h news' → J i m' news' → h.IsList ax items)
    (step : ∀ i v I oI m₁ news₁ h₁ tk₁, items[i]? = some v → J i m₁ news₁ → Fr h₀ L h₁ (fun y => if y = x then some v else m₁ y) → News h₀ L h₁ ((I, oI) :: news₁) → (∀ p ∈ news₁, p.1 ≠ I) → oI.cls ≠ .type "list" →
      wpAny (model prog w) A (execs body env) (fun f s₂ => match f with
        | .next | .cont => TurnQ h₀ L I oI s (J (i + 1)) s₂
        | .brk => Q .next s₂
        | .ret v => Q (.ret v) s₂) Nope { s with heap := h₁, toks := tk₁ })
    (hQ : ∀ h' tk m' news', Fr h₀ L h' m' → News h₀ L h' news' → J items.size m' news' → Q .next { s with heap := h', toks := tk })
    (hs : ∀ x, foldedSetIterable iter env x = pure x := by intro _; rfl) :
    wpAny (model prog w) A (exec (.For (.Name x px) iter body [] pos) env) Q E s := by
  refine for_rule3 F N hL hh hx hp hiter J h0 hsrc (fun i v I oI m₁ news₁ h₁ tk₁ a1 a2 a3 a4 a5 a6 => ?_) hQ hs
  exact wpAny_mono (step i v I oI m₁ news₁ h₁ tk₁ a1 a2 a3 a4 a5 a6.1) (fun _ _ x => x) fun _ _ x => x.elim
theorem for_rule {h₀ : Heap} {L : Addr} {m : Str → Option Value} {news : List (Addr × Obj)} {x : Str} {px pos : Pos} {iter : Expr} {body : List Stmt} {ax : Addr} {items : Array Value} {Q : Flow → Shared → Prop}
    (F : Fr h₀ L s.heap m) (N : News h₀ L s.heap news) (hL : env.locals = L) (hh : A.handled = none) (hx : env.kindOf x = some .local)
    (hp : (env.scope.kind == .class || (env.scope.kind == .module && env.locals != env.globals)) = false)
    (hiter : ∀ Q', Q' (.ref ax) s → wpAny (model prog w) A (eval iter env) Q' E s)
    (hsrc : h₀.IsList ax items)
    (J : Nat → (Str → Option Value) → List (Addr × Obj) → Prop) (h0 : J 0 m news)
    (step : ∀ i v I oI m₁ news₁ h₁ tk₁, items[i]? = some v → J i m₁ news₁ → Fr h₀ L h₁ (fun y => if y = x then some v else m₁ y) → News h₀ L h₁ ((I, oI) :: news₁) → (∀ p ∈ news₁, p.1 ≠ I) →
      wpAny (model prog w) A (execs body env) (fun f s₂ => match f with
        | .next | .cont => TurnQ h₀ L I oI s (J (i + 1)) s₂
        | .brk => Q .next s₂
        | .ret v => Q (.ret v) s₂) Nope { s with heap := h₁, toks := tk₁ })
    (hQ : ∀ h' tk m' news', Fr h₀ L h' m' → News h₀ L h' news' → J items.size m' news' → Q .next { s with heap := h', toks := tk })
    (hs : ∀ x, foldedSetIterable iter env x = pure x := by intro _; rfl) :
    wpAny (model prog w) A (exec (.For (.Name x px) iter body [] pos) env) Q E s := by
  refine for_rule2 F N hL hh hx hp hiter J h0 (fun i h m' news' F' _ _ => hsrc.at fun o e => F'.keep _ o e) (fun i v I oI m₁ news₁ h₁ tk₁ a1 a2 a3 a4 a5 _ => step i v I oI m₁ news₁ h₁ tk₁ a1 a2 a3 a4 a5) hQ hs

end

section
variable {prog : Program} {w : World} {A : Around} {E : Value → Shared → Prop} {s : Shared} {h₀ : Heap} {L D : Addr} {m : Str → Option Value} {news news' : List (Addr × Obj)} {vs : List Value} {n k : Nat} {v : Value} {t u : Tok}

/-- an item of a list of the ledger, at a natural place -/
theorem item_L {value slice : Expr} {Q : Value → Shared → Prop} (N : News h₀ L s.heap news) (hm : (D, listOf vs.toArray n) ∈ news) (hlen : vs.length ≤ 100000) (hx : vs[k]? = some v) (h : Q v s)
    (hs : subscripted slice false (.ref D) (.int (k : Int) u) = operate [.ref D, .int (k : Int) u] (getItem (.ref D) (.int (k : Int) u)) := by with_unfolding_all rfl) :
    wpAny (model prog w) A (subscriptTail value slice (.ref D) (.int (k : Int) u)) Q E s := by
  have hk : k < vs.length := by
    rcases Nat.lt_or_ge k vs.length with q | q
    · exact q
    · rw [List.getElem?_eq_none q] at hx; cases hx
  exact item_litK (PySem.IsL.isList (n := n) (N _ hm).1) (by omega) (by omega) (by simpa using hx) h hs

theorem item_Li {value slice : Expr} {Q : Value → Shared → Prop} {i : Int} (N : News h₀ L s.heap news) (hm : (D, listOf vs.toArray n) ∈ news) (hlen : vs.length ≤ 100000) (hi : i = (k : Int)) (hx : vs[k]? = some v) (h : Q v s)
    (hs : subscripted slice false (.ref D) (.int i u) = operate [.ref D, .int i u] (getItem (.ref D) (.int i u)) := by with_unfolding_all rfl) :
    wpAny (model prog w) A (subscriptTail value slice (.ref D) (.int i u)) Q E s := by
  subst hi; exact item_L N hm hlen hx h hs
theorem set_Li {Q : Unit → Shared → Prop} {i : Int} (F : Fr h₀ L s.heap m) (N : News h₀ L s.heap news) (hi : i = (k : Int)) (U : Upd D (listOf vs.toArray n) (listOf (vs.set k v).toArray n) news news') (hk : k < vs.length) (hlen : vs.length ≤ 100000)
    (h : ∀ h', Fr h₀ L h' m → News h₀ L h' news' → Q () { s with heap := h' }) :
    wpAny (model prog w) A (setItem (.ref D) (.int i t) v) Q E s := by
  subst hi
  obtain ⟨pre, post, rfl, rfl, a, b⟩ := U.split
  have z := N (D, listOf vs.toArray n) (List.mem_append.mpr (.inr (.head _)))
  refine ki_setAt z.1 (by omega) (by omega) (by simp; omega) (h _ (F.change (Heap.SameBut.update ..) z.2.1 z.2.2) (ki_turn _ N a b ?_ ?_))
  · show vs.toArray.setIfInBounds (k : Int).toNat v = (vs.set k v).toArray
    apply Array.toList_inj.mp
    simp
  · simp
theorem len_L {Q : Value → Shared → Prop} (N : News h₀ L s.heap news) (hm : (D, listOf vs.toArray n) ∈ news) (hlen : vs.length ≤ 100000) (h : ∀ u, Q (.int (vs.length : Int) u) { s with toks := s.toks + 1 + 1 }) :
    wpAny (model prog w) A (call (.builtin "len") [.ref D]) Q E s :=
  len_list (PySem.IsL.isList (n := n) (N _ hm).1) (by simp; omega) (by simpa using h _)
theorem add_L {l b : Addr} {xs ys : List Value} {Q : Value → Shared → Prop} (F : Fr h₀ L s.heap m) (N : News h₀ L s.heap news) (hl : s.heap.IsList l xs.toArray) (hb : s.heap.IsList b ys.toArray) (hz : xs.length + ys.length ≤ sizeLine)
    (h : ∀ D h', Fr h₀ L h' m → News h₀ L h' ((D, listOf (xs ++ ys).toArray 0) :: news) → (∀ p ∈ news, p.1 < D) → Q (.ref D) { s with heap := h' }) :
    wpAny (model prog w) A (binaryOp .Add (.ref l) (.ref b)) Q E s :=
  add_lists F N hl hb (fun h' F' N' => h _ h' F' N' fun p hp => Heap.lt_size (N p hp).1) hz
theorem len_B {l : Addr} {Q : Value → Shared → Prop} (hl : s.heap.IsList l vs.toArray) (hlen : vs.length ≤ 100000) (h : ∀ u, Q (.int (vs.length : Int) u) { s with toks := s.toks + 1 + 1 }) :
    wpAny (model prog w) A (call (.builtin "len") [.ref l]) Q E s :=
  len_list hl (by simp; omega) (by simpa using h _)
theorem item_B {value slice : Expr} {l : Addr} {Q : Value → Shared → Prop} (hl : s.heap.IsList l vs.toArray) (hlen : vs.length ≤ 100000) (hx : vs[k]? = some v) (h : Q v s)
    (hs : subscripted slice false (.ref l) (.int (k : Int) u) = operate [.ref l, .int (k : Int) u] (getItem (.ref l) (.int (k : Int) u)) := by with_unfolding_all rfl) :
    wpAny (model prog w) A (subscriptTail value slice (.ref l) (.int (k : Int) u)) Q E s := by
  have hk : k < vs.length := by
    rcases Nat.lt_or_ge k vs.length with q | q
    · exact q
    · rw [List.getElem?_eq_none q] at hx; cases hx
  exact item_litK hl (by omega) (by omega) (by simpa using hx) h hs
theorem cname {M : Model} {C : Addr} {env : Env} {scope : Scope} {cl : List (Str × Addr)} {x : Str} {pos : Pos} {Q : Value → Shared → Prop} (F : Fr h₀ C s.heap m) (hv : m x = some v) (h : Q v s)
    (hk : (compEnvC scope cl C env).scope.kind = .function) (hl : (compEnvC scope cl C env).kindOf x = some .local) (hd : (x == ("__debug__" : Str)) = false := by decide) :
    wpAny M A (eval (.Name x pos) (compEnvC scope cl C env)) Q E s := wpAny_Name (wpAny_loadName_local hk hl F.ns hv h) hd
theorem shr1 {k : Nat} (h : 0 < k) : ((k : Int) - 1).fdiv (2 ^ Int.toNat 1) = (((k - 1) / 2 : Nat) : Int) := by
  have e : (2 ^ Int.toNat 1 : Int) = 2 := by decide
  rw [e, Int.fdiv_eq_ediv_of_nonneg _ (by decide)]
  omega
theorem set_L {Q : Unit → Shared → Prop} (F : Fr h₀ L s.heap m) (N : News h₀ L s.heap news) (U : Upd D (listOf vs.toArray n) (listOf (vs.set k v).toArray n) news news') (hk : k < vs.length) (hlen : vs.length ≤ 100000)
    (h : ∀ h', Fr h₀ L h' m → News h₀ L h' news' → Q () { s with heap := h' }) :
    wpAny (model prog w) A (setItem (.ref D) (.int (k : Int) t) v) Q E s := by
  obtain ⟨pre, post, rfl, rfl, a, b⟩ := U.split
  have z := N (D, listOf vs.toArray n) (List.mem_append.mpr (.inr (.head _)))
  refine ki_setAt z.1 (by omega) (by omega) (by simp; omega) (h _ (F.change (Heap.SameBut.update ..) z.2.1 z.2.2) (ki_turn _ N a b ?_ ?_))
  · show vs.toArray.setIfInBounds (k : Int).toNat v = (vs.set k v).toArray
    apply Array.toList_inj.mp
    simp
  · simp
end
end

section
open PySem PySem.W PyProof.Rows PySem.Calls PySem.SeqAt
theorem stG {prog : Program} {w : World} {A : Around} {E : Value → Shared → Prop} {s : Shared} {h₀ : Heap} {L a : Addr} {cd : Value} {m : Str → Option Value} {news : List (Addr × Obj)} {name x : Str} {scope : Scope} {v : Value} {Q : Unit → Shared → Prop} (F : Fr h₀ L s.heap m) (N : News h₀ L s.heap news)
    (hk : scope.kind = .function) (hl : (envOf name scope L a cd).kindOf x = some .local)
    (h : ∀ h' tk m', m' x = some v → (∀ y, y ≠ x → m' y = m y) → Fr h₀ L h' m' → News h₀ L h' news → Q () { s with heap := h', toks := tk }) : wpAny (model prog w) A (storeName (envOf name scope L a cd) x v) Q E s :=
  stN F N (fun h' F' N' => h h' _ _ (if_pos rfl) (fun y q => if_neg q) F' N') hk hl
theorem stG_at {m' m : Str → Option Value} {x y : Str} (h : ∀ y, y ≠ x → m' y = m y) (ne : y ≠ x) : m' y = m y := h y ne

noncomputable abbrev PP := Value × List Bool

noncomputable def sdF (it : PP) : Nat → Nat → List PP → Nat × List PP
  | 0, p, ps => (p, ps)
  | n + 1, p, ps => if _ : p = 0 then (p, ps) else
    match ps[(p - 1) / 2]? with
    | some par => if ltW it.2 par.2 = true then sdF it n ((p - 1) / 2) (ps.set p par) else (p, ps)
    | none => (p, ps)
noncomputable def sdGo (it : PP) (p : Nat) (ps : List PP) : Nat × List PP := sdF it p p ps
theorem sdF_zero (it : PP) (n : Nat) (ps : List PP) : sdF it n 0 ps = (0, ps) := by cases n <;> rfl
theorem sdF_more (it : PP) : ∀ (n m p : Nat) (ps : List PP), p ≤ n → p ≤ m → sdF it n p ps = sdF it m p ps
  | 0, m, p, ps, h, _ => by
    obtain rfl : p = 0 := by omega
    rw [sdF_zero, sdF_zero]
  | n + 1, 0, p, ps, _, h => by
    obtain rfl : p = 0 := by omega
    rw [sdF_zero, sdF_zero]
  | n + 1, m + 1, p, ps, h1, h2 => by
    unfold sdF
    by_cases hp : p = 0
    · rw [dif_pos hp, dif_pos hp]
    · rw [dif_neg hp, dif_neg hp]
      cases ps[(p - 1) / 2]? with
      | none => rfl
      | some par => simp only [sdF_more it n m ((p - 1) / 2) (ps.set p par) (by omega) (by omega)]
theorem sdGo_def (it : PP) (p : Nat) (ps : List PP) : sdGo it p ps = if _ : p = 0 then (p, ps) else
    match ps[(p - 1) / 2]? with
    | some par => if ltW it.2 par.2 = true then sdGo it ((p - 1) / 2) (ps.set p par) else (p, ps)
    | none => (p, ps) := by
  by_cases hp : p = 0
  · subst hp; rfl
  · obtain ⟨k, rfl⟩ : ∃ k, p = k + 1 := ⟨p - 1, by omega⟩
    unfold sdGo
    rw [sdF, dif_neg hp, dif_neg hp]
    cases ps[(k + 1 - 1) / 2]? with
    | none => rfl
    | some par => simp only [sdF_more it k ((k + 1 - 1) / 2) ((k + 1 - 1) / 2) (ps.set (k + 1) par) (by omega) (Nat.le_refl _)]
noncomputable def sd (p : Nat) (ps : List PP) : List PP := match ps[p]? with
  | some it => (sdGo it p ps).2.set (sdGo it p ps).1 it
  | none => ps

theorem Rd_mem {g : Heap} {ps : List PP} (hr : ∀ q ∈ ps, Rd g q.1 (dW q.2)) {i : Nat} {q : PP} (h : ps[i]? = some q) : Rd g q.1 (dW q.2) := hr q (List.mem_of_getElem? h)

theorem siftdown_c {w : World} {A : Around} {E : Value → Shared → Prop} {s : Shared} {g : Heap} {Q : Value → Shared → Prop} {hp : Addr} {ps₀ : List PP} {n p₀ : Nat} {t0 t1 : Tok} (a : Amb w g) (l : Le g s.heap) (r : Room 9 A)
    (hh : s.heap.get? hp = some (listOf (ps₀.map (·.1)).toArray n)) (hout : g.get? hp = none) (hr : ∀ q ∈ ps₀, Rd g q.1 (dW q.2)) (hlt : p₀ < ps₀.length) (hlen : ps₀.length ≤ 1000)
    (hQ : ∀ h' tk, (∀ b o, b ≠ hp → s.heap.get? b = some o → h'.get? b = some o) → h'.get? hp = some (listOf ((sd p₀ ps₀).map (·.1)).toArray n) → Q .none { s with heap := h', toks := tk }) :
    wpAny (model Challenge.rw_ny0132_01.row.prog w) A (call (.ref 42) [.ref hp, .int 0 t0, .int (p₀ : Int) t1]) Q E s := by
  have l' : Le g (s.heap.hide hp) := fun b o e => (Heap.hide_ne s.heap (fun q : b = hp => by rw [q, hout] at e; cases e)).trans (l b o e)
  have lh : ∀ b o, b ≠ hp → s.heap.get? b = some o → (s.heap.hide hp).get? b = some o := fun b o q e => (Heap.hide_ne s.heap q).trans e
  obtain ⟨X, mean, mg, mb, T⟩ := a.le l'
  revert X; k_fill; intro X
  have hr' : ∀ q ∈ ps₀, Rd (s.heap.hide hp) q.1 (dW q.2) := fun q hq => (hr q hq).le l'
  refine weaken r ?_
  refine enter (binds := [(Str.ofString "heap", .ref hp), (Str.ofString "startpos", .int 0 t0), (Str.ofString "pos", .int p₀ t1)]) X T.nolimit (fun b o e => Heap.of_hide e) (Nat.le_of_eq (Heap.hide_size _ _)) (by k_is) (by k_is) (by show 349 < recursionLimit; decide) (BindsTo.of_eq rfl) (locs rfl) (fun h₁ F L₁ => ?_) (by decide) rfl rfl rfl
  have N : News (s.heap.hide hp) s.heap.objs.size h₁ [(hp, listOf (ps₀.map (·.1)).toArray n)] := fun q hq => by
    rw [List.mem_singleton.mp hq]
    exact ⟨L₁ _ _ hh, Nat.ne_of_lt (Heap.lt_size hh), Heap.hide_self _ _⟩
  show wpAny _ _ _ _ _ _
  generalize s.heap.hide hp = g' at *
  k_fold
  (repeat' (first | (k_unfold; (try dsimp only)) | ((((fail_if_success (with_reducible show wpAny _ _ (exec (Stmt.While _ _ _ _) _) _ _ _)); (fail_if_success (with_reducible show wpAny _ _ (exec (Stmt.For _ _ _ _ _) _) _ _ _)); (fail_if_success (with_reducible show wpAny _ _ (call (Value.ref _) _ _) _ _ _)); (fail_if_success (with_reducible show wpAny _ _ (eval (Expr.ListComp _ _ _ _) _) _ _ _)); (fail_if_success (with_reducible show wpAny _ _ (subscriptTail _ _ (Value.ref _) (Value.int _ _)) _ _ _)); (fail_if_success (with_reducible show wpAny _ _ (setItem (Value.ref _) (Value.int _ _) _) _ _ _)))); (first | ((with_reducible show wpAny _ _ (storeName (envOf _ _ _ _ _) _ _) _ _ _); k_here; (with_reducible show wpAny _ _ (storeName (envOf _ _ _ _ _) _ _) _ _ _); k_dflt (refine' stG ?k1 ?k2 ?k3 ?k4 ?_; (case k1 => k_asm); (case k2 => k_asm); (case k3 => exact rfl); (case k4 => exact rfl); k_whole); intro sgH sgT sgM sgE sgD sgF sgN; (try k_sweep)) | (k_here; (with_reducible show wpAny _ _ (eval (Expr.Name _ _) (envOf _ _ _ _ _)) _ _ _); (with_reducible rename Fr _ _ _ _ => kF); k_dflt (refine' ld kF ?k2 ?_; (case k2 => ((repeat' (first | (with_reducible assumption) | exact if_pos rfl | refine Eq.trans (if_neg (by decide)) ?_ | (refine Eq.trans (stG_at (by with_reducible assumption) (by decide)) ?_) | exact rfl)); done)); k_whole)) | walk1)) | ((((fail_if_success (with_reducible show wpAny _ _ (exec (Stmt.While _ _ _ _) _) _ _ _)); (fail_if_success (with_reducible show wpAny _ _ (exec (Stmt.For _ _ _ _ _) _) _ _ _)); (fail_if_success (with_reducible show wpAny _ _ (call (Value.ref _) _ _) _ _ _)); (fail_if_success (with_reducible show wpAny _ _ (eval (Expr.ListComp _ _ _ _) _) _ _ _)); (fail_if_success (with_reducible show wpAny _ _ (subscriptTail _ _ (Value.ref _) (Value.int _ _)) _ _ _)); (fail_if_success (with_reducible show wpAny _ _ (setItem (Value.ref _) (Value.int _ _) _) _ _ _)))); dsimp only; (((fail_if_success (with_reducible show wpAny _ _ (exec (Stmt.While _ _ _ _) _) _ _ _)); (fail_if_success (with_reducible show wpAny _ _ (exec (Stmt.For _ _ _ _ _) _) _ _ _)); (fail_if_success (with_reducible show wpAny _ _ (call (Value.ref _) _ _) _ _ _)); (fail_if_success (with_reducible show wpAny _ _ (eval (Expr.ListComp _ _ _ _) _) _ _ _)); (fail_if_success (with_reducible show wpAny _ _ (subscriptTail _ _ (Value.ref _) (Value.int _ _)) _ _ _)); (fail_if_success (with_reducible show wpAny _ _ (setItem (Value.ref _) (Value.int _ _) _) _ _ _)))); (first | ((with_reducible show wpAny _ _ (storeName (envOf _ _ _ _ _) _ _) _ _ _); k_here; (with_reducible show wpAny _ _ (storeName (envOf _ _ _ _ _) _ _) _ _ _); k_dflt (refine' stG ?k1 ?k2 ?k3 ?k4 ?_; (case k1 => k_asm); (case k2 => k_asm); (case k3 => exact rfl); (case k4 => exact rfl); k_whole); intro sgH sgT sgM sgE sgD sgF sgN; (try k_sweep)) | (k_here; (with_reducible show wpAny _ _ (eval (Expr.Name _ _) (envOf _ _ _ _ _)) _ _ _); (with_reducible rename Fr _ _ _ _ => kF); k_dflt (refine' ld kF ?k2 ?_; (case k2 => ((repeat' (first | (with_reducible assumption) | exact if_pos rfl | refine Eq.trans (if_neg (by decide)) ?_ | (refine Eq.trans (stG_at (by with_reducible assumption) (by decide)) ?_) | exact rfl)); done)); k_whole)) | walk1)) | fail "no step"))
  obtain ⟨it, hit⟩ : ∃ it, ps₀[p₀]? = some it := ⟨ps₀[p₀], by simp [hlt]⟩
  refine item_L N (by k_mem) (by simp; omega) (v := it.1) (by simp [hit]) ?_
  (repeat' (first | (k_unfold; (try dsimp only)) | ((((fail_if_success (with_reducible show wpAny _ _ (exec (Stmt.While _ _ _ _) _) _ _ _)); (fail_if_success (with_reducible show wpAny _ _ (exec (Stmt.For _ _ _ _ _) _) _ _ _)); (fail_if_success (with_reducible show wpAny _ _ (call (Value.ref _) _ _) _ _ _)); (fail_if_success (with_reducible show wpAny _ _ (eval (Expr.ListComp _ _ _ _) _) _ _ _)); (fail_if_success (with_reducible show wpAny _ _ (subscriptTail _ _ (Value.ref _) (Value.int _ _)) _ _ _)); (fail_if_success (with_reducible show wpAny _ _ (setItem (Value.ref _) (Value.int _ _) _) _ _ _)))); (first | ((with_reducible show wpAny _ _ (storeName (envOf _ _ _ _ _) _ _) _ _ _); k_here; (with_reducible show wpAny _ _ (storeName (envOf _ _ _ _ _) _ _) _ _ _); k_dflt (refine' stG ?k1 ?k2 ?k3 ?k4 ?_; (case k1 => k_asm); (case k2 => k_asm); (case k3 => exact rfl); (case k4 => exact rfl); k_whole); intro sgH sgT sgM sgE sgD sgF sgN; (try k_sweep)) | (k_here; (with_reducible show wpAny _ _ (eval (Expr.Name _ _) (envOf _ _ _ _ _)) _ _ _); (with_reducible rename Fr _ _ _ _ => kF); k_dflt (refine' ld kF ?k2 ?_; (case k2 => ((repeat' (first | (with_reducible assumption) | exact if_pos rfl | refine Eq.trans (if_neg (by decide)) ?_ | (refine Eq.trans (stG_at (by with_reducible assumption) (by decide)) ?_) | exact rfl)); done)); k_whole)) | walk1)) | ((((fail_if_success (with_reducible show wpAny _ _ (exec (Stmt.While _ _ _ _) _) _ _ _)); (fail_if_success (with_reducible show wpAny _ _ (exec (Stmt.For _ _ _ _ _) _) _ _ _)); (fail_if_success (with_reducible show wpAny _ _ (call (Value.ref _) _ _) _ _ _)); (fail_if_success (with_reducible show wpAny _ _ (eval (Expr.ListComp _ _ _ _) _) _ _ _)); (fail_if_success (with_reducible show wpAny _ _ (subscriptTail _ _ (Value.ref _) (Value.int _ _)) _ _ _)); (fail_if_success (with_reducible show wpAny _ _ (setItem (Value.ref _) (Value.int _ _) _) _ _ _)))); dsimp only; (((fail_if_success (with_reducible show wpAny _ _ (exec (Stmt.While _ _ _ _) _) _ _ _)); (fail_if_success (with_reducible show wpAny _ _ (exec (Stmt.For _ _ _ _ _) _) _ _ _)); (fail_if_success (with_reducible show wpAny _ _ (call (Value.ref _) _ _) _ _ _)); (fail_if_success (with_reducible show wpAny _ _ (eval (Expr.ListComp _ _ _ _) _) _ _ _)); (fail_if_success (with_reducible show wpAny _ _ (subscriptTail _ _ (Value.ref _) (Value.int _ _)) _ _ _)); (fail_if_success (with_reducible show wpAny _ _ (setItem (Value.ref _) (Value.int _ _) _) _ _ _)))); (first | ((with_reducible show wpAny _ _ (storeName (envOf _ _ _ _ _) _ _) _ _ _); k_here; (with_reducible show wpAny _ _ (storeName (envOf _ _ _ _ _) _ _) _ _ _); k_dflt (refine' stG ?k1 ?k2 ?k3 ?k4 ?_; (case k1 => k_asm); (case k2 => k_asm); (case k3 => exact rfl); (case k4 => exact rfl); k_whole); intro sgH sgT sgM sgE sgD sgF sgN; (try k_sweep)) | (k_here; (with_reducible show wpAny _ _ (eval (Expr.Name _ _) (envOf _ _ _ _ _)) _ _ _); (with_reducible rename Fr _ _ _ _ => kF); k_dflt (refine' ld kF ?k2 ?_; (case k2 => ((repeat' (first | (with_reducible assumption) | exact if_pos rfl | refine Eq.trans (if_neg (by decide)) ?_ | (refine Eq.trans (stG_at (by with_reducible assumption) (by decide)) ?_) | exact rfl)); done)); k_whole)) | walk1)) | fail "no step"))
  rename Fr _ _ _ _ => F1
  rename News _ _ _ _ => N1
  obtain ⟨I, iI⟩ : ∃ I : Nat → Shared → Prop, ∀ k s', I k s' ↔ (∃ p ps h tk m t, s' = { s with heap := h, toks := tk } ∧ k = p ∧ p < ps.length ∧ ps.length = ps₀.length ∧ Fr g' s.heap.objs.size h m ∧ News g' s.heap.objs.size h [(hp, listOf (ps.map (·.1)).toArray n)] ∧
    m (Str.ofString "heap") = some (.ref hp) ∧ m (Str.ofString "startpos") = some (.int 0 t0) ∧ m (Str.ofString "pos") = some (.int (p : Int) t) ∧ m (Str.ofString "newitem") = some it.1 ∧
    (∀ q ∈ ps, Rd g' q.1 (dW q.2)) ∧ sdGo it p ps = sdGo it p₀ ps₀) := ⟨_, fun _ _ => Iff.rfl⟩
  refine while_rule I (fun k s' hI => ?_) p₀ ((iI _ _).mpr ⟨p₀, ps₀, _, _, _, t1, rfl, rfl, hlt, rfl, F1, N1, by ((repeat' (first | (with_reducible assumption) | exact if_pos rfl | refine Eq.trans (if_neg (by decide)) ?_ | (refine Eq.trans (stG_at (by with_reducible assumption) (by decide)) ?_) | exact rfl)); done), by ((repeat' (first | (with_reducible assumption) | exact if_pos rfl | refine Eq.trans (if_neg (by decide)) ?_ | (refine Eq.trans (stG_at (by with_reducible assumption) (by decide)) ?_) | exact rfl)); done), by ((repeat' (first | (with_reducible assumption) | exact if_pos rfl | refine Eq.trans (if_neg (by decide)) ?_ | (refine Eq.trans (stG_at (by with_reducible assumption) (by decide)) ?_) | exact rfl)); done), by ((repeat' (first | (with_reducible assumption) | exact if_pos rfl | refine Eq.trans (if_neg (by decide)) ?_ | (refine Eq.trans (stG_at (by with_reducible assumption) (by decide)) ?_) | exact rfl)); done), hr', rfl⟩)
  obtain ⟨p, ps, h, tk, m, t, rfl, rfl, hp1, hp2, F2, N2, m1, m2, m3, m4, hr2, hgo⟩ := (iI _ _).mp hI
  clear F1 N1
  (repeat' (first | (k_unfold; (try dsimp only)) | ((((fail_if_success (with_reducible show wpAny _ _ (exec (Stmt.While _ _ _ _) _) _ _ _)); (fail_if_success (with_reducible show wpAny _ _ (exec (Stmt.For _ _ _ _ _) _) _ _ _)); (fail_if_success (with_reducible show wpAny _ _ (call (Value.ref _) _ _) _ _ _)); (fail_if_success (with_reducible show wpAny _ _ (eval (Expr.ListComp _ _ _ _) _) _ _ _)); (fail_if_success (with_reducible show wpAny _ _ (subscriptTail _ _ (Value.ref _) (Value.int _ _)) _ _ _)); (fail_if_success (with_reducible show wpAny _ _ (setItem (Value.ref _) (Value.int _ _) _) _ _ _)))); (first | ((with_reducible show wpAny _ _ (storeName (envOf _ _ _ _ _) _ _) _ _ _); k_here; (with_reducible show wpAny _ _ (storeName (envOf _ _ _ _ _) _ _) _ _ _); k_dflt (refine' stG ?k1 ?k2 ?k3 ?k4 ?_; (case k1 => k_asm); (case k2 => k_asm); (case k3 => exact rfl); (case k4 => exact rfl); k_whole); intro sgH sgT sgM sgE sgD sgF sgN; (try k_sweep)) | (k_here; (with_reducible show wpAny _ _ (eval (Expr.Name _ _) (envOf _ _ _ _ _)) _ _ _); (with_reducible rename Fr _ _ _ _ => kF); k_dflt (refine' ld kF ?k2 ?_; (case k2 => ((repeat' (first | (with_reducible assumption) | exact if_pos rfl | refine Eq.trans (if_neg (by decide)) ?_ | (refine Eq.trans (stG_at (by with_reducible assumption) (by decide)) ?_) | exact rfl)); done)); k_whole)) | walk1)) | ((((fail_if_success (with_reducible show wpAny _ _ (exec (Stmt.While _ _ _ _) _) _ _ _)); (fail_if_success (with_reducible show wpAny _ _ (exec (Stmt.For _ _ _ _ _) _) _ _ _)); (fail_if_success (with_reducible show wpAny _ _ (call (Value.ref _) _ _) _ _ _)); (fail_if_success (with_reducible show wpAny _ _ (eval (Expr.ListComp _ _ _ _) _) _ _ _)); (fail_if_success (with_reducible show wpAny _ _ (subscriptTail _ _ (Value.ref _) (Value.int _ _)) _ _ _)); (fail_if_success (with_reducible show wpAny _ _ (setItem (Value.ref _) (Value.int _ _) _) _ _ _)))); dsimp only; (((fail_if_success (with_reducible show wpAny _ _ (exec (Stmt.While _ _ _ _) _) _ _ _)); (fail_if_success (with_reducible show wpAny _ _ (exec (Stmt.For _ _ _ _ _) _) _ _ _)); (fail_if_success (with_reducible show wpAny _ _ (call (Value.ref _) _ _) _ _ _)); (fail_if_success (with_reducible show wpAny _ _ (eval (Expr.ListComp _ _ _ _) _) _ _ _)); (fail_if_success (with_reducible show wpAny _ _ (subscriptTail _ _ (Value.ref _) (Value.int _ _)) _ _ _)); (fail_if_success (with_reducible show wpAny _ _ (setItem (Value.ref _) (Value.int _ _) _) _ _ _)))); (first | ((with_reducible show wpAny _ _ (storeName (envOf _ _ _ _ _) _ _) _ _ _); k_here; (with_reducible show wpAny _ _ (storeName (envOf _ _ _ _ _) _ _) _ _ _); k_dflt (refine' stG ?k1 ?k2 ?k3 ?k4 ?_; (case k1 => k_asm); (case k2 => k_asm); (case k3 => exact rfl); (case k4 => exact rfl); k_whole); intro sgH sgT sgM sgE sgD sgF sgN; (try k_sweep)) | (k_here; (with_reducible show wpAny _ _ (eval (Expr.Name _ _) (envOf _ _ _ _ _)) _ _ _); (with_reducible rename Fr _ _ _ _ => kF); k_dflt (refine' ld kF ?k2 ?_; (case k2 => ((repeat' (first | (with_reducible assumption) | exact if_pos rfl | refine Eq.trans (if_neg (by decide)) ?_ | (refine Eq.trans (stG_at (by with_reducible assumption) (by decide)) ?_) | exact rfl)); done)); k_whole)) | walk1)) | fail "no step"))
  · rename News _ _ _ _ => N3
    have hk0 : 0 < k := by omega
    obtain ⟨par, hpar⟩ : ∃ par, ps[(k - 1) / 2]? = some par := ⟨ps[(k - 1) / 2]'(by omega), by simp⟩
    refine item_Li N3 (by k_mem) (by simp; omega) (shr1 hk0) (v := par.1) (by simp [hpar]) ?_
    (repeat' (first | (k_unfold; (try dsimp only)) | ((((fail_if_success (with_reducible show wpAny _ _ (exec (Stmt.While _ _ _ _) _) _ _ _)); (fail_if_success (with_reducible show wpAny _ _ (exec (Stmt.For _ _ _ _ _) _) _ _ _)); (fail_if_success (with_reducible show wpAny _ _ (call (Value.ref _) _ _) _ _ _)); (fail_if_success (with_reducible show wpAny _ _ (eval (Expr.ListComp _ _ _ _) _) _ _ _)); (fail_if_success (with_reducible show wpAny _ _ (subscriptTail _ _ (Value.ref _) (Value.int _ _)) _ _ _)); (fail_if_success (with_reducible show wpAny _ _ (setItem (Value.ref _) (Value.int _ _) _) _ _ _)))); (first | ((with_reducible show wpAny _ _ (storeName (envOf _ _ _ _ _) _ _) _ _ _); k_here; (with_reducible show wpAny _ _ (storeName (envOf _ _ _ _ _) _ _) _ _ _); k_dflt (refine' stG ?k1 ?k2 ?k3 ?k4 ?_; (case k1 => k_asm); (case k2 => k_asm); (case k3 => exact rfl); (case k4 => exact rfl); k_whole); intro sgH sgT sgM sgE sgD sgF sgN; (try k_sweep)) | (k_here; (with_reducible show wpAny _ _ (eval (Expr.Name _ _) (envOf _ _ _ _ _)) _ _ _); (with_reducible rename Fr _ _ _ _ => kF); k_dflt (refine' ld kF ?k2 ?_; (case k2 => ((repeat' (first | (with_reducible assumption) | exact if_pos rfl | refine Eq.trans (if_neg (by decide)) ?_ | (refine Eq.trans (stG_at (by with_reducible assumption) (by decide)) ?_) | exact rfl)); done)); k_whole)) | walk1)) | ((((fail_if_success (with_reducible show wpAny _ _ (exec (Stmt.While _ _ _ _) _) _ _ _)); (fail_if_success (with_reducible show wpAny _ _ (exec (Stmt.For _ _ _ _ _) _) _ _ _)); (fail_if_success (with_reducible show wpAny _ _ (call (Value.ref _) _ _) _ _ _)); (fail_if_success (with_reducible show wpAny _ _ (eval (Expr.ListComp _ _ _ _) _) _ _ _)); (fail_if_success (with_reducible show wpAny _ _ (subscriptTail _ _ (Value.ref _) (Value.int _ _)) _ _ _)); (fail_if_success (with_reducible show wpAny _ _ (setItem (Value.ref _) (Value.int _ _) _) _ _ _)))); dsimp only; (((fail_if_success (with_reducible show wpAny _ _ (exec (Stmt.While _ _ _ _) _) _ _ _)); (fail_if_success (with_reducible show wpAny _ _ (exec (Stmt.For _ _ _ _ _) _) _ _ _)); (fail_if_success (with_reducible show wpAny _ _ (call (Value.ref _) _ _) _ _ _)); (fail_if_success (with_reducible show wpAny _ _ (eval (Expr.ListComp _ _ _ _) _) _ _ _)); (fail_if_success (with_reducible show wpAny _ _ (subscriptTail _ _ (Value.ref _) (Value.int _ _)) _ _ _)); (fail_if_success (with_reducible show wpAny _ _ (setItem (Value.ref _) (Value.int _ _) _) _ _ _)))); (first | ((with_reducible show wpAny _ _ (storeName (envOf _ _ _ _ _) _ _) _ _ _); k_here; (with_reducible show wpAny _ _ (storeName (envOf _ _ _ _ _) _ _) _ _ _); k_dflt (refine' stG ?k1 ?k2 ?k3 ?k4 ?_; (case k1 => k_asm); (case k2 => k_asm); (case k3 => exact rfl); (case k4 => exact rfl); k_whole); intro sgH sgT sgM sgE sgD sgF sgN; (try k_sweep)) | (k_here; (with_reducible show wpAny _ _ (eval (Expr.Name _ _) (envOf _ _ _ _ _)) _ _ _); (with_reducible rename Fr _ _ _ _ => kF); k_dflt (refine' ld kF ?k2 ?_; (case k2 => ((repeat' (first | (with_reducible assumption) | exact if_pos rfl | refine Eq.trans (if_neg (by decide)) ?_ | (refine Eq.trans (stG_at (by with_reducible assumption) (by decide)) ?_) | exact rfl)); done)); k_whole)) | walk1)) | fail "no step"))
    rename Fr _ _ _ _ => F4
    refine lt_W ((Rd_mem hr' hit).le F4.keep) ((Rd_mem hr2 hpar).le F4.keep) (by show 490 + 3 < cLine; decide) ?_
    (repeat' (first | (k_unfold; (try dsimp only)) | ((((fail_if_success (with_reducible show wpAny _ _ (exec (Stmt.While _ _ _ _) _) _ _ _)); (fail_if_success (with_reducible show wpAny _ _ (exec (Stmt.For _ _ _ _ _) _) _ _ _)); (fail_if_success (with_reducible show wpAny _ _ (call (Value.ref _) _ _) _ _ _)); (fail_if_success (with_reducible show wpAny _ _ (eval (Expr.ListComp _ _ _ _) _) _ _ _)); (fail_if_success (with_reducible show wpAny _ _ (subscriptTail _ _ (Value.ref _) (Value.int _ _)) _ _ _)); (fail_if_success (with_reducible show wpAny _ _ (setItem (Value.ref _) (Value.int _ _) _) _ _ _)))); (first | ((with_reducible show wpAny _ _ (storeName (envOf _ _ _ _ _) _ _) _ _ _); k_here; (with_reducible show wpAny _ _ (storeName (envOf _ _ _ _ _) _ _) _ _ _); k_dflt (refine' stG ?k1 ?k2 ?k3 ?k4 ?_; (case k1 => k_asm); (case k2 => k_asm); (case k3 => exact rfl); (case k4 => exact rfl); k_whole); intro sgH sgT sgM sgE sgD sgF sgN; (try k_sweep)) | (k_here; (with_reducible show wpAny _ _ (eval (Expr.Name _ _) (envOf _ _ _ _ _)) _ _ _); (with_reducible rename Fr _ _ _ _ => kF); k_dflt (refine' ld kF ?k2 ?_; (case k2 => ((repeat' (first | (with_reducible assumption) | exact if_pos rfl | refine Eq.trans (if_neg (by decide)) ?_ | (refine Eq.trans (stG_at (by with_reducible assumption) (by decide)) ?_) | exact rfl)); done)); k_whole)) | walk1)) | ((((fail_if_success (with_reducible show wpAny _ _ (exec (Stmt.While _ _ _ _) _) _ _ _)); (fail_if_success (with_reducible show wpAny _ _ (exec (Stmt.For _ _ _ _ _) _) _ _ _)); (fail_if_success (with_reducible show wpAny _ _ (call (Value.ref _) _ _) _ _ _)); (fail_if_success (with_reducible show wpAny _ _ (eval (Expr.ListComp _ _ _ _) _) _ _ _)); (fail_if_success (with_reducible show wpAny _ _ (subscriptTail _ _ (Value.ref _) (Value.int _ _)) _ _ _)); (fail_if_success (with_reducible show wpAny _ _ (setItem (Value.ref _) (Value.int _ _) _) _ _ _)))); dsimp only; (((fail_if_success (with_reducible show wpAny _ _ (exec (Stmt.While _ _ _ _) _) _ _ _)); (fail_if_success (with_reducible show wpAny _ _ (exec (Stmt.For _ _ _ _ _) _) _ _ _)); (fail_if_success (with_reducible show wpAny _ _ (call (Value.ref _) _ _) _ _ _)); (fail_if_success (with_reducible show wpAny _ _ (eval (Expr.ListComp _ _ _ _) _) _ _ _)); (fail_if_success (with_reducible show wpAny _ _ (subscriptTail _ _ (Value.ref _) (Value.int _ _)) _ _ _)); (fail_if_success (with_reducible show wpAny _ _ (setItem (Value.ref _) (Value.int _ _) _) _ _ _)))); (first | ((with_reducible show wpAny _ _ (storeName (envOf _ _ _ _ _) _ _) _ _ _); k_here; (with_reducible show wpAny _ _ (storeName (envOf _ _ _ _ _) _ _) _ _ _); k_dflt (refine' stG ?k1 ?k2 ?k3 ?k4 ?_; (case k1 => k_asm); (case k2 => k_asm); (case k3 => exact rfl); (case k4 => exact rfl); k_whole); intro sgH sgT sgM sgE sgD sgF sgN; (try k_sweep)) | (k_here; (with_reducible show wpAny _ _ (eval (Expr.Name _ _) (envOf _ _ _ _ _)) _ _ _); (with_reducible rename Fr _ _ _ _ => kF); k_dflt (refine' ld kF ?k2 ?_; (case k2 => ((repeat' (first | (with_reducible assumption) | exact if_pos rfl | refine Eq.trans (if_neg (by decide)) ?_ | (refine Eq.trans (stG_at (by with_reducible assumption) (by decide)) ?_) | exact rfl)); done)); k_whole)) | walk1)) | fail "no step"))
    · rename Fr _ _ _ _ => F5
      rename News _ _ _ _ => N5
      rename ltW _ _ = true => hc
      refine set_L F5 N5 (.head (by simp)) (by simp; omega) (by simp; omega) (fun h6 F6 N6 => ?_)
      clear F5 N5
      (repeat' (first | (k_unfold; (try dsimp only)) | ((((fail_if_success (with_reducible show wpAny _ _ (exec (Stmt.While _ _ _ _) _) _ _ _)); (fail_if_success (with_reducible show wpAny _ _ (exec (Stmt.For _ _ _ _ _) _) _ _ _)); (fail_if_success (with_reducible show wpAny _ _ (call (Value.ref _) _ _) _ _ _)); (fail_if_success (with_reducible show wpAny _ _ (eval (Expr.ListComp _ _ _ _) _) _ _ _)); (fail_if_success (with_reducible show wpAny _ _ (subscriptTail _ _ (Value.ref _) (Value.int _ _)) _ _ _)); (fail_if_success (with_reducible show wpAny _ _ (setItem (Value.ref _) (Value.int _ _) _) _ _ _)))); (first | ((with_reducible show wpAny _ _ (storeName (envOf _ _ _ _ _) _ _) _ _ _); k_here; (with_reducible show wpAny _ _ (storeName (envOf _ _ _ _ _) _ _) _ _ _); k_dflt (refine' stG ?k1 ?k2 ?k3 ?k4 ?_; (case k1 => k_asm); (case k2 => k_asm); (case k3 => exact rfl); (case k4 => exact rfl); k_whole); intro sgH sgT sgM sgE sgD sgF sgN; (try k_sweep)) | (k_here; (with_reducible show wpAny _ _ (eval (Expr.Name _ _) (envOf _ _ _ _ _)) _ _ _); (with_reducible rename Fr _ _ _ _ => kF); k_dflt (refine' ld kF ?k2 ?_; (case k2 => ((repeat' (first | (with_reducible assumption) | exact if_pos rfl | refine Eq.trans (if_neg (by decide)) ?_ | (refine Eq.trans (stG_at (by with_reducible assumption) (by decide)) ?_) | exact rfl)); done)); k_whole)) | walk1)) | ((((fail_if_success (with_reducible show wpAny _ _ (exec (Stmt.While _ _ _ _) _) _ _ _)); (fail_if_success (with_reducible show wpAny _ _ (exec (Stmt.For _ _ _ _ _) _) _ _ _)); (fail_if_success (with_reducible show wpAny _ _ (call (Value.ref _) _ _) _ _ _)); (fail_if_success (with_reducible show wpAny _ _ (eval (Expr.ListComp _ _ _ _) _) _ _ _)); (fail_if_success (with_reducible show wpAny _ _ (subscriptTail _ _ (Value.ref _) (Value.int _ _)) _ _ _)); (fail_if_success (with_reducible show wpAny _ _ (setItem (Value.ref _) (Value.int _ _) _) _ _ _)))); dsimp only; (((fail_if_success (with_reducible show wpAny _ _ (exec (Stmt.While _ _ _ _) _) _ _ _)); (fail_if_success (with_reducible show wpAny _ _ (exec (Stmt.For _ _ _ _ _) _) _ _ _)); (fail_if_success (with_reducible show wpAny _ _ (call (Value.ref _) _ _) _ _ _)); (fail_if_success (with_reducible show wpAny _ _ (eval (Expr.ListComp _ _ _ _) _) _ _ _)); (fail_if_success (with_reducible show wpAny _ _ (subscriptTail _ _ (Value.ref _) (Value.int _ _)) _ _ _)); (fail_if_success (with_reducible show wpAny _ _ (setItem (Value.ref _) (Value.int _ _) _) _ _ _)))); (first | ((with_reducible show wpAny _ _ (storeName (envOf _ _ _ _ _) _ _) _ _ _); k_here; (with_reducible show wpAny _ _ (storeName (envOf _ _ _ _ _) _ _) _ _ _); k_dflt (refine' stG ?k1 ?k2 ?k3 ?k4 ?_; (case k1 => k_asm); (case k2 => k_asm); (case k3 => exact rfl); (case k4 => exact rfl); k_whole); intro sgH sgT sgM sgE sgD sgF sgN; (try k_sweep)) | (k_here; (with_reducible show wpAny _ _ (eval (Expr.Name _ _) (envOf _ _ _ _ _)) _ _ _); (with_reducible rename Fr _ _ _ _ => kF); k_dflt (refine' ld kF ?k2 ?_; (case k2 => ((repeat' (first | (with_reducible assumption) | exact if_pos rfl | refine Eq.trans (if_neg (by decide)) ?_ | (refine Eq.trans (stG_at (by with_reducible assumption) (by decide)) ?_) | exact rfl)); done)); k_whole)) | walk1)) | fail "no step"))
      rename Fr _ _ _ _ => F7
      rename News _ _ _ _ => N7
      rw [← List.map_set] at N7
      refine ⟨(k - 1) / 2, by omega, (iI _ _).mpr ⟨(k - 1) / 2, ps.set k par, _, _, _, _, rfl, rfl, by simp; omega, by simpa using hp2, F7, N7, by ((repeat' (first | (with_reducible assumption) | exact if_pos rfl | refine Eq.trans (if_neg (by decide)) ?_ | (refine Eq.trans (stG_at (by with_reducible assumption) (by decide)) ?_) | exact rfl)); done), by ((repeat' (first | (with_reducible assumption) | exact if_pos rfl | refine Eq.trans (if_neg (by decide)) ?_ | (refine Eq.trans (stG_at (by with_reducible assumption) (by decide)) ?_) | exact rfl)); done), by rw [← shr1 hk0]; ((repeat' (first | (with_reducible assumption) | exact if_pos rfl | refine Eq.trans (if_neg (by decide)) ?_ | (refine Eq.trans (stG_at (by with_reducible assumption) (by decide)) ?_) | exact rfl)); done), by ((repeat' (first | (with_reducible assumption) | exact if_pos rfl | refine Eq.trans (if_neg (by decide)) ?_ | (refine Eq.trans (stG_at (by with_reducible assumption) (by decide)) ?_) | exact rfl)); done), ?_, ?_⟩⟩
      · intro q hq
        rcases List.mem_or_eq_of_mem_set hq with hq | rfl
        · exact hr2 q hq
        · exact Rd_mem hr2 hpar
      · rw [← hgo, sdGo_def it k ps, dif_neg (by omega), hpar]
        simp only [hc, if_true]
    · rename Fr _ _ _ _ => F5
      rename News _ _ _ _ => N5
      rename ltW _ _ = false => hc
      refine set_L F5 N5 (.head (by simp)) (by simp; omega) (by simp; omega) (fun h6 F6 N6 => ?_)
      clear F5 N5
      have e : sdGo it p₀ ps₀ = (k, ps) := by
        rw [← hgo, sdGo_def it k ps, dif_neg (by omega), hpar]
        simp only [hc, Bool.false_eq_true, if_false]
      (repeat' (first | (k_unfold; (try dsimp only)) | ((((fail_if_success (with_reducible show wpAny _ _ (exec (Stmt.While _ _ _ _) _) _ _ _)); (fail_if_success (with_reducible show wpAny _ _ (exec (Stmt.For _ _ _ _ _) _) _ _ _)); (fail_if_success (with_reducible show wpAny _ _ (call (Value.ref _) _ _) _ _ _)); (fail_if_success (with_reducible show wpAny _ _ (eval (Expr.ListComp _ _ _ _) _) _ _ _)); (fail_if_success (with_reducible show wpAny _ _ (subscriptTail _ _ (Value.ref _) (Value.int _ _)) _ _ _)); (fail_if_success (with_reducible show wpAny _ _ (setItem (Value.ref _) (Value.int _ _) _) _ _ _)))); (first | ((with_reducible show wpAny _ _ (storeName (envOf _ _ _ _ _) _ _) _ _ _); k_here; (with_reducible show wpAny _ _ (storeName (envOf _ _ _ _ _) _ _) _ _ _); k_dflt (refine' stG ?k1 ?k2 ?k3 ?k4 ?_; (case k1 => k_asm); (case k2 => k_asm); (case k3 => exact rfl); (case k4 => exact rfl); k_whole); intro sgH sgT sgM sgE sgD sgF sgN; (try k_sweep)) | (k_here; (with_reducible show wpAny _ _ (eval (Expr.Name _ _) (envOf _ _ _ _ _)) _ _ _); (with_reducible rename Fr _ _ _ _ => kF); k_dflt (refine' ld kF ?k2 ?_; (case k2 => ((repeat' (first | (with_reducible assumption) | exact if_pos rfl | refine Eq.trans (if_neg (by decide)) ?_ | (refine Eq.trans (stG_at (by with_reducible assumption) (by decide)) ?_) | exact rfl)); done)); k_whole)) | walk1)) | ((((fail_if_success (with_reducible show wpAny _ _ (exec (Stmt.While _ _ _ _) _) _ _ _)); (fail_if_success (with_reducible show wpAny _ _ (exec (Stmt.For _ _ _ _ _) _) _ _ _)); (fail_if_success (with_reducible show wpAny _ _ (call (Value.ref _) _ _) _ _ _)); (fail_if_success (with_reducible show wpAny _ _ (eval (Expr.ListComp _ _ _ _) _) _ _ _)); (fail_if_success (with_reducible show wpAny _ _ (subscriptTail _ _ (Value.ref _) (Value.int _ _)) _ _ _)); (fail_if_success (with_reducible show wpAny _ _ (setItem (Value.ref _) (Value.int _ _) _) _ _ _)))); dsimp only; (((fail_if_success (with_reducible show wpAny _ _ (exec (Stmt.While _ _ _ _) _) _ _ _)); (fail_if_success (with_reducible show wpAny _ _ (exec (Stmt.For _ _ _ _ _) _) _ _ _)); (fail_if_success (with_reducible show wpAny _ _ (call (Value.ref _) _ _) _ _ _)); (fail_if_success (with_reducible show wpAny _ _ (eval (Expr.ListComp _ _ _ _) _) _ _ _)); (fail_if_success (with_reducible show wpAny _ _ (subscriptTail _ _ (Value.ref _) (Value.int _ _)) _ _ _)); (fail_if_success (with_reducible show wpAny _ _ (setItem (Value.ref _) (Value.int _ _) _) _ _ _)))); (first | ((with_reducible show wpAny _ _ (storeName (envOf _ _ _ _ _) _ _) _ _ _); k_here; (with_reducible show wpAny _ _ (storeName (envOf _ _ _ _ _) _ _) _ _ _); k_dflt (refine' stG ?k1 ?k2 ?k3 ?k4 ?_; (case k1 => k_asm); (case k2 => k_asm); (case k3 => exact rfl); (case k4 => exact rfl); k_whole); intro sgH sgT sgM sgE sgD sgF sgN; (try k_sweep)) | (k_here; (with_reducible show wpAny _ _ (eval (Expr.Name _ _) (envOf _ _ _ _ _)) _ _ _); (with_reducible rename Fr _ _ _ _ => kF); k_dflt (refine' ld kF ?k2 ?_; (case k2 => ((repeat' (first | (with_reducible assumption) | exact if_pos rfl | refine Eq.trans (if_neg (by decide)) ?_ | (refine Eq.trans (stG_at (by with_reducible assumption) (by decide)) ?_) | exact rfl)); done)); k_whole)) | walk1)) | fail "no step"))
      refine hQ _ _ (fun b o q e => F6.keep b o (lh b o q e)) ?_
      rw [(N6 _ (.head _)).1, ← List.map_set]
      unfold sd; rw [hit]; simp only [e]
  · rename Fr _ _ _ _ => F5
    rename News _ _ _ _ => N5
    refine set_L F5 N5 (.head (by simp)) (by simp; omega) (by simp; omega) (fun h6 F6 N6 => ?_)
    have e : sdGo it p₀ ps₀ = (k, ps) := by
      rw [← hgo, sdGo_def it k ps, dif_pos (by omega)]
    (repeat' (first | (k_unfold; (try dsimp only)) | ((((fail_if_success (with_reducible show wpAny _ _ (exec (Stmt.While _ _ _ _) _) _ _ _)); (fail_if_success (with_reducible show wpAny _ _ (exec (Stmt.For _ _ _ _ _) _) _ _ _)); (fail_if_success (with_reducible show wpAny _ _ (call (Value.ref _) _ _) _ _ _)); (fail_if_success (with_reducible show wpAny _ _ (eval (Expr.ListComp _ _ _ _) _) _ _ _)); (fail_if_success (with_reducible show wpAny _ _ (subscriptTail _ _ (Value.ref _) (Value.int _ _)) _ _ _)); (fail_if_success (with_reducible show wpAny _ _ (setItem (Value.ref _) (Value.int _ _) _) _ _ _)))); (first | ((with_reducible show wpAny _ _ (storeName (envOf _ _ _ _ _) _ _) _ _ _); k_here; (with_reducible show wpAny _ _ (storeName (envOf _ _ _ _ _) _ _) _ _ _); k_dflt (refine' stG ?k1 ?k2 ?k3 ?k4 ?_; (case k1 => k_asm); (case k2 => k_asm); (case k3 => exact rfl); (case k4 => exact rfl); k_whole); intro sgH sgT sgM sgE sgD sgF sgN; (try k_sweep)) | (k_here; (with_reducible show wpAny _ _ (eval (Expr.Name _ _) (envOf _ _ _ _ _)) _ _ _); (with_reducible rename Fr _ _ _ _ => kF); k_dflt (refine' ld kF ?k2 ?_; (case k2 => ((repeat' (first | (with_reducible assumption) | exact if_pos rfl | refine Eq.trans (if_neg (by decide)) ?_ | (refine Eq.trans (stG_at (by with_reducible assumption) (by decide)) ?_) | exact rfl)); done)); k_whole)) | walk1)) | ((((fail_if_success (with_reducible show wpAny _ _ (exec (Stmt.While _ _ _ _) _) _ _ _)); (fail_if_success (with_reducible show wpAny _ _ (exec (Stmt.For _ _ _ _ _) _) _ _ _)); (fail_if_success (with_reducible show wpAny _ _ (call (Value.ref _) _ _) _ _ _)); (fail_if_success (with_reducible show wpAny _ _ (eval (Expr.ListComp _ _ _ _) _) _ _ _)); (fail_if_success (with_reducible show wpAny _ _ (subscriptTail _ _ (Value.ref _) (Value.int _ _)) _ _ _)); (fail_if_success (with_reducible show wpAny _ _ (setItem (Value.ref _) (Value.int _ _) _) _ _ _)))); dsimp only; (((fail_if_success (with_reducible show wpAny _ _ (exec (Stmt.While _ _ _ _) _) _ _ _)); (fail_if_success (with_reducible show wpAny _ _ (exec (Stmt.For _ _ _ _ _) _) _ _ _)); (fail_if_success (with_reducible show wpAny _ _ (call (Value.ref _) _ _) _ _ _)); (fail_if_success (with_reducible show wpAny _ _ (eval (Expr.ListComp _ _ _ _) _) _ _ _)); (fail_if_success (with_reducible show wpAny _ _ (subscriptTail _ _ (Value.ref _) (Value.int _ _)) _ _ _)); (fail_if_success (with_reducible show wpAny _ _ (setItem (Value.ref _) (Value.int _ _) _) _ _ _)))); (first | ((with_reducible show wpAny _ _ (storeName (envOf _ _ _ _ _) _ _) _ _ _); k_here; (with_reducible show wpAny _ _ (storeName (envOf _ _ _ _ _) _ _) _ _ _); k_dflt (refine' stG ?k1 ?k2 ?k3 ?k4 ?_; (case k1 => k_asm); (case k2 => k_asm); (case k3 => exact rfl); (case k4 => exact rfl); k_whole); intro sgH sgT sgM sgE sgD sgF sgN; (try k_sweep)) | (k_here; (with_reducible show wpAny _ _ (eval (Expr.Name _ _) (envOf _ _ _ _ _)) _ _ _); (with_reducible rename Fr _ _ _ _ => kF); k_dflt (refine' ld kF ?k2 ?_; (case k2 => ((repeat' (first | (with_reducible assumption) | exact if_pos rfl | refine Eq.trans (if_neg (by decide)) ?_ | (refine Eq.trans (stG_at (by with_reducible assumption) (by decide)) ?_) | exact rfl)); done)); k_whole)) | walk1)) | fail "no step"))
    refine hQ _ _ (fun b o q e => F6.keep b o (lh b o q e)) ?_
    rw [(N6 _ (.head _)).1, ← List.map_set]
    unfold sd; rw [hit]; simp only [e]
end

section
open PySem PySem.W PyProof.Rows PySem.Calls PySem.SeqAt

noncomputable def suChild (p : Nat) (ps : List PP) : Nat := match ps[2 * p + 1]?, ps[2 * p + 2]? with
  | some l, some r => if ltW l.2 r.2 = true then 2 * p + 1 else 2 * p + 2
  | _, _ => 2 * p + 1
theorem suChild_gt (p : Nat) (ps : List PP) : p < suChild p ps := by unfold suChild; split <;> (try split) <;> omega
noncomputable def suF : Nat → Nat → List PP → Nat × List PP
  | 0, p, ps => (p, ps)
  | n + 1, p, ps => if _ : 2 * p + 1 < ps.length then
    match ps[suChild p ps]? with
    | some q => suF n (suChild p ps) (ps.set p q)
    | none => (p, ps)
  else (p, ps)
noncomputable def suGo (p : Nat) (ps : List PP) : Nat × List PP := suF (ps.length - p) p ps
theorem suF_end : ∀ (n p : Nat) (ps : List PP), ps.length - p ≤ 0 → suF n p ps = (p, ps)
  | 0, _, _, _ => rfl
  | n + 1, p, ps, h => by rw [suF, dif_neg (by omega)]
theorem suF_more : ∀ (n m p : Nat) (ps : List PP), ps.length - p ≤ n → ps.length - p ≤ m → suF n p ps = suF m p ps
  | 0, m, p, ps, h, _ => by rw [suF_end 0 p ps h, suF_end m p ps h]
  | n + 1, 0, p, ps, _, h => by rw [suF_end 0 p ps h, suF_end (n + 1) p ps h]
  | n + 1, m + 1, p, ps, h1, h2 => by
    unfold suF
    by_cases hp : 2 * p + 1 < ps.length
    · rw [dif_pos hp, dif_pos hp]
      cases ps[suChild p ps]? with
      | none => rfl
      | some q =>
        have := suChild_gt p ps
        exact suF_more n m _ _ (by simp only [List.length_set]; omega) (by simp only [List.length_set]; omega)
    · rw [dif_neg hp, dif_neg hp]
theorem suGo_def (p : Nat) (ps : List PP) : suGo p ps = if _ : 2 * p + 1 < ps.length then
    match ps[suChild p ps]? with
    | some q => suGo (suChild p ps) (ps.set p q)
    | none => (p, ps)
  else (p, ps) := by
  unfold suGo
  by_cases hp : 2 * p + 1 < ps.length
  · obtain ⟨k, hk⟩ : ∃ k, ps.length - p = k + 1 := ⟨ps.length - p - 1, by omega⟩
    rw [hk, suF, dif_pos hp, dif_pos hp]
    cases ps[suChild p ps]? with
    | none => rfl
    | some q =>
      have := suChild_gt p ps
      exact suF_more _ _ _ _ (by simp only [List.length_set]; omega) (Nat.le_refl _)
  · rw [dif_neg hp]
    cases ps.length - p with
    | zero => rfl
    | succ k => rw [suF, dif_neg hp]
noncomputable def su (ps : List PP) : List PP := match ps[0]? with
  | some it => sd (suGo 0 ps).1 ((suGo 0 ps).2.set (suGo 0 ps).1 it)
  | none => ps

theorem suChild_lt {p : Nat} {ps : List PP} (h : 2 * p + 1 < ps.length) : suChild p ps < ps.length := by
  unfold suChild
  split
  · rename_i l r hl hr
    have : 2 * p + 2 < ps.length := by
      rcases Nat.lt_or_ge (2 * p + 2) ps.length with q | q
      · exact q
      · rw [List.getElem?_eq_none q] at hr; cases hr
    split <;> omega
  · exact h

theorem suGo_props : ∀ (p : Nat) (ps : List PP), (suGo p ps).2.length = ps.length ∧ (p < ps.length → (suGo p ps).1 < ps.length) ∧ ∀ q ∈ (suGo p ps).2, q ∈ ps := by
  intro p ps
  show (suF (ps.length - p) p ps).2.length = _ ∧ (_ → (suF (ps.length - p) p ps).1 < _) ∧ ∀ q ∈ (suF (ps.length - p) p ps).2, _
  generalize ps.length - p = n
  induction n generalizing p ps with
  | zero => exact ⟨rfl, fun z => z, fun _ z => z⟩
  | succ n ih =>
    unfold suF
    by_cases h : 2 * p + 1 < ps.length
    · rw [dif_pos h]
      cases hq : ps[suChild p ps]? with
      | none => exact ⟨rfl, fun z => z, fun _ z => z⟩
      | some q =>
        have ih := ih (suChild p ps) (ps.set p q)
        simp only [List.length_set] at ih
        refine ⟨ih.1, fun _ => ih.2.1 (suChild_lt h), fun x hx => ?_⟩
        rcases List.mem_or_eq_of_mem_set (ih.2.2 x hx) with z | rfl
        · exact z
        · exact List.mem_of_getElem? hq
    · rw [dif_neg h]; exact ⟨rfl, fun z => z, fun _ z => z⟩

theorem siftup_c {w : World} {A : Around} {E : Value → Shared → Prop} {s : Shared} {g : Heap} {Q : Value → Shared → Prop} {hp : Addr} {ps₀ : List PP} {n : Nat} {t0 : Tok} (a : Amb w g) (l : Le g s.heap) (r : Room 8 A)
    (hh : s.heap.get? hp = some (listOf (ps₀.map (·.1)).toArray n)) (hout : g.get? hp = none) (hr : ∀ q ∈ ps₀, Rd g q.1 (dW q.2)) (hlt : 0 < ps₀.length) (hlen : ps₀.length ≤ 1000)
    (hQ : ∀ h' tk, (∀ b o, b ≠ hp → s.heap.get? b = some o → h'.get? b = some o) → h'.get? hp = some (listOf ((su ps₀).map (·.1)).toArray n) → Q .none { s with heap := h', toks := tk }) :
    wpAny (model Challenge.rw_ny0132_01.row.prog w) A (call (.ref 49) [.ref hp, .int 0 t0]) Q E s := by
  have l' : Le g (s.heap.hide hp) := fun b o e => (Heap.hide_ne s.heap (fun q : b = hp => by rw [q, hout] at e; cases e)).trans (l b o e)
  have lh : ∀ b o, b ≠ hp → s.heap.get? b = some o → (s.heap.hide hp).get? b = some o := fun b o q e => (Heap.hide_ne s.heap q).trans e
  have a' := a.le l'
  obtain ⟨X, mean, mg, mb, T⟩ := a.le l'
  revert X; k_fill; intro X
  have hr' : ∀ q ∈ ps₀, Rd (s.heap.hide hp) q.1 (dW q.2) := fun q hq => (hr q hq).le l'
  have hself := Heap.hide_self s.heap hp
  refine weaken r ?_
  refine enter (binds := [(Str.ofString "heap", .ref hp), (Str.ofString "pos", .int 0 t0)]) X T.nolimit (fun b o e => Heap.of_hide e) (Nat.le_of_eq (Heap.hide_size _ _)) (by k_is) (by k_is) (by show 348 < recursionLimit; decide) (BindsTo.of_eq rfl) (locs rfl) (fun h₁ F L₁ => ?_) (by decide) rfl rfl rfl
  have N : News (s.heap.hide hp) s.heap.objs.size h₁ [(hp, listOf (ps₀.map (·.1)).toArray n)] := fun q hq => by
    rw [List.mem_singleton.mp hq]
    exact ⟨L₁ _ _ hh, Nat.ne_of_lt (Heap.lt_size hh), Heap.hide_self _ _⟩
  show wpAny _ _ _ _ _ _
  generalize s.heap.hide hp = g' at *
  k_fold
  (repeat' (first | (k_unfold; (try dsimp only)) | ((((fail_if_success (with_reducible show wpAny _ _ (exec (Stmt.While _ _ _ _) _) _ _ _)); (fail_if_success (with_reducible show wpAny _ _ (exec (Stmt.For _ _ _ _ _) _) _ _ _)); (fail_if_success (with_reducible show wpAny _ _ (call (Value.ref _) _ _) _ _ _)); (fail_if_success (with_reducible show wpAny _ _ (eval (Expr.ListComp _ _ _ _) _) _ _ _)); (fail_if_success (with_reducible show wpAny _ _ (subscriptTail _ _ (Value.ref _) (Value.int _ _)) _ _ _)); (fail_if_success (with_reducible show wpAny _ _ (setItem (Value.ref _) (Value.int _ _) _) _ _ _)))); (first | ((with_reducible show wpAny _ _ (storeName (envOf _ _ _ _ _) _ _) _ _ _); k_here; (with_reducible show wpAny _ _ (storeName (envOf _ _ _ _ _) _ _) _ _ _); k_dflt (refine' stG ?k1 ?k2 ?k3 ?k4 ?_; (case k1 => k_asm); (case k2 => k_asm); (case k3 => exact rfl); (case k4 => exact rfl); k_whole); intro sgH sgT sgM sgE sgD sgF sgN; (try k_sweep)) | (k_here; (with_reducible show wpAny _ _ (eval (Expr.Name _ _) (envOf _ _ _ _ _)) _ _ _); (with_reducible rename Fr _ _ _ _ => kF); k_dflt (refine' ld kF ?k2 ?_; (case k2 => ((repeat' (first | (with_reducible assumption) | exact if_pos rfl | refine Eq.trans (if_neg (by decide)) ?_ | (refine Eq.trans (stG_at (by with_reducible assumption) (by decide)) ?_) | exact rfl)); done)); k_whole)) | walk1)) | ((((fail_if_success (with_reducible show wpAny _ _ (exec (Stmt.While _ _ _ _) _) _ _ _)); (fail_if_success (with_reducible show wpAny _ _ (exec (Stmt.For _ _ _ _ _) _) _ _ _)); (fail_if_success (with_reducible show wpAny _ _ (call (Value.ref _) _ _) _ _ _)); (fail_if_success (with_reducible show wpAny _ _ (eval (Expr.ListComp _ _ _ _) _) _ _ _)); (fail_if_success (with_reducible show wpAny _ _ (subscriptTail _ _ (Value.ref _) (Value.int _ _)) _ _ _)); (fail_if_success (with_reducible show wpAny _ _ (setItem (Value.ref _) (Value.int _ _) _) _ _ _)))); dsimp only; (((fail_if_success (with_reducible show wpAny _ _ (exec (Stmt.While _ _ _ _) _) _ _ _)); (fail_if_success (with_reducible show wpAny _ _ (exec (Stmt.For _ _ _ _ _) _) _ _ _)); (fail_if_success (with_reducible show wpAny _ _ (call (Value.ref _) _ _) _ _ _)); (fail_if_success (with_reducible show wpAny _ _ (eval (Expr.ListComp _ _ _ _) _) _ _ _)); (fail_if_success (with_reducible show wpAny _ _ (subscriptTail _ _ (Value.ref _) (Value.int _ _)) _ _ _)); (fail_if_success (with_reducible show wpAny _ _ (setItem (Value.ref _) (Value.int _ _) _) _ _ _)))); (first | ((with_reducible show wpAny _ _ (storeName (envOf _ _ _ _ _) _ _) _ _ _); k_here; (with_reducible show wpAny _ _ (storeName (envOf _ _ _ _ _) _ _) _ _ _); k_dflt (refine' stG ?k1 ?k2 ?k3 ?k4 ?_; (case k1 => k_asm); (case k2 => k_asm); (case k3 => exact rfl); (case k4 => exact rfl); k_whole); intro sgH sgT sgM sgE sgD sgF sgN; (try k_sweep)) | (k_here; (with_reducible show wpAny _ _ (eval (Expr.Name _ _) (envOf _ _ _ _ _)) _ _ _); (with_reducible rename Fr _ _ _ _ => kF); k_dflt (refine' ld kF ?k2 ?_; (case k2 => ((repeat' (first | (with_reducible assumption) | exact if_pos rfl | refine Eq.trans (if_neg (by decide)) ?_ | (refine Eq.trans (stG_at (by with_reducible assumption) (by decide)) ?_) | exact rfl)); done)); k_whole)) | walk1)) | fail "no step"))
  refine len_L N (by k_mem) (by simp; omega) (fun u => ?_)
  (repeat' (first | (k_unfold; (try dsimp only)) | ((((fail_if_success (with_reducible show wpAny _ _ (exec (Stmt.While _ _ _ _) _) _ _ _)); (fail_if_success (with_reducible show wpAny _ _ (exec (Stmt.For _ _ _ _ _) _) _ _ _)); (fail_if_success (with_reducible show wpAny _ _ (call (Value.ref _) _ _) _ _ _)); (fail_if_success (with_reducible show wpAny _ _ (eval (Expr.ListComp _ _ _ _) _) _ _ _)); (fail_if_success (with_reducible show wpAny _ _ (subscriptTail _ _ (Value.ref _) (Value.int _ _)) _ _ _)); (fail_if_success (with_reducible show wpAny _ _ (setItem (Value.ref _) (Value.int _ _) _) _ _ _)))); (first | ((with_reducible show wpAny _ _ (storeName (envOf _ _ _ _ _) _ _) _ _ _); k_here; (with_reducible show wpAny _ _ (storeName (envOf _ _ _ _ _) _ _) _ _ _); k_dflt (refine' stG ?k1 ?k2 ?k3 ?k4 ?_; (case k1 => k_asm); (case k2 => k_asm); (case k3 => exact rfl); (case k4 => exact rfl); k_whole); intro sgH sgT sgM sgE sgD sgF sgN; (try k_sweep)) | (k_here; (with_reducible show wpAny _ _ (eval (Expr.Name _ _) (envOf _ _ _ _ _)) _ _ _); (with_reducible rename Fr _ _ _ _ => kF); k_dflt (refine' ld kF ?k2 ?_; (case k2 => ((repeat' (first | (with_reducible assumption) | exact if_pos rfl | refine Eq.trans (if_neg (by decide)) ?_ | (refine Eq.trans (stG_at (by with_reducible assumption) (by decide)) ?_) | exact rfl)); done)); k_whole)) | walk1)) | ((((fail_if_success (with_reducible show wpAny _ _ (exec (Stmt.While _ _ _ _) _) _ _ _)); (fail_if_success (with_reducible show wpAny _ _ (exec (Stmt.For _ _ _ _ _) _) _ _ _)); (fail_if_success (with_reducible show wpAny _ _ (call (Value.ref _) _ _) _ _ _)); (fail_if_success (with_reducible show wpAny _ _ (eval (Expr.ListComp _ _ _ _) _) _ _ _)); (fail_if_success (with_reducible show wpAny _ _ (subscriptTail _ _ (Value.ref _) (Value.int _ _)) _ _ _)); (fail_if_success (with_reducible show wpAny _ _ (setItem (Value.ref _) (Value.int _ _) _) _ _ _)))); dsimp only; (((fail_if_success (with_reducible show wpAny _ _ (exec (Stmt.While _ _ _ _) _) _ _ _)); (fail_if_success (with_reducible show wpAny _ _ (exec (Stmt.For _ _ _ _ _) _) _ _ _)); (fail_if_success (with_reducible show wpAny _ _ (call (Value.ref _) _ _) _ _ _)); (fail_if_success (with_reducible show wpAny _ _ (eval (Expr.ListComp _ _ _ _) _) _ _ _)); (fail_if_success (with_reducible show wpAny _ _ (subscriptTail _ _ (Value.ref _) (Value.int _ _)) _ _ _)); (fail_if_success (with_reducible show wpAny _ _ (setItem (Value.ref _) (Value.int _ _) _) _ _ _)))); (first | ((with_reducible show wpAny _ _ (storeName (envOf _ _ _ _ _) _ _) _ _ _); k_here; (with_reducible show wpAny _ _ (storeName (envOf _ _ _ _ _) _ _) _ _ _); k_dflt (refine' stG ?k1 ?k2 ?k3 ?k4 ?_; (case k1 => k_asm); (case k2 => k_asm); (case k3 => exact rfl); (case k4 => exact rfl); k_whole); intro sgH sgT sgM sgE sgD sgF sgN; (try k_sweep)) | (k_here; (with_reducible show wpAny _ _ (eval (Expr.Name _ _) (envOf _ _ _ _ _)) _ _ _); (with_reducible rename Fr _ _ _ _ => kF); k_dflt (refine' ld kF ?k2 ?_; (case k2 => ((repeat' (first | (with_reducible assumption) | exact if_pos rfl | refine Eq.trans (if_neg (by decide)) ?_ | (refine Eq.trans (stG_at (by with_reducible assumption) (by decide)) ?_) | exact rfl)); done)); k_whole)) | walk1)) | fail "no step"))
  obtain ⟨it, hit⟩ : ∃ it, ps₀[0]? = some it := ⟨ps₀[0], by simp⟩
  rename News _ _ _ _ => N1
  refine item_Li N1 (by k_mem) (by simp; omega) (k := 0) rfl (v := it.1) (by simp [hit]) ?_
  (repeat' (first | (k_unfold; (try dsimp only)) | ((((fail_if_success (with_reducible show wpAny _ _ (exec (Stmt.While _ _ _ _) _) _ _ _)); (fail_if_success (with_reducible show wpAny _ _ (exec (Stmt.For _ _ _ _ _) _) _ _ _)); (fail_if_success (with_reducible show wpAny _ _ (call (Value.ref _) _ _) _ _ _)); (fail_if_success (with_reducible show wpAny _ _ (eval (Expr.ListComp _ _ _ _) _) _ _ _)); (fail_if_success (with_reducible show wpAny _ _ (subscriptTail _ _ (Value.ref _) (Value.int _ _)) _ _ _)); (fail_if_success (with_reducible show wpAny _ _ (setItem (Value.ref _) (Value.int _ _) _) _ _ _)))); (first | ((with_reducible show wpAny _ _ (storeName (envOf _ _ _ _ _) _ _) _ _ _); k_here; (with_reducible show wpAny _ _ (storeName (envOf _ _ _ _ _) _ _) _ _ _); k_dflt (refine' stG ?k1 ?k2 ?k3 ?k4 ?_; (case k1 => k_asm); (case k2 => k_asm); (case k3 => exact rfl); (case k4 => exact rfl); k_whole); intro sgH sgT sgM sgE sgD sgF sgN; (try k_sweep)) | (k_here; (with_reducible show wpAny _ _ (eval (Expr.Name _ _) (envOf _ _ _ _ _)) _ _ _); (with_reducible rename Fr _ _ _ _ => kF); k_dflt (refine' ld kF ?k2 ?_; (case k2 => ((repeat' (first | (with_reducible assumption) | exact if_pos rfl | refine Eq.trans (if_neg (by decide)) ?_ | (refine Eq.trans (stG_at (by with_reducible assumption) (by decide)) ?_) | exact rfl)); done)); k_whole)) | walk1)) | ((((fail_if_success (with_reducible show wpAny _ _ (exec (Stmt.While _ _ _ _) _) _ _ _)); (fail_if_success (with_reducible show wpAny _ _ (exec (Stmt.For _ _ _ _ _) _) _ _ _)); (fail_if_success (with_reducible show wpAny _ _ (call (Value.ref _) _ _) _ _ _)); (fail_if_success (with_reducible show wpAny _ _ (eval (Expr.ListComp _ _ _ _) _) _ _ _)); (fail_if_success (with_reducible show wpAny _ _ (subscriptTail _ _ (Value.ref _) (Value.int _ _)) _ _ _)); (fail_if_success (with_reducible show wpAny _ _ (setItem (Value.ref _) (Value.int _ _) _) _ _ _)))); dsimp only; (((fail_if_success (with_reducible show wpAny _ _ (exec (Stmt.While _ _ _ _) _) _ _ _)); (fail_if_success (with_reducible show wpAny _ _ (exec (Stmt.For _ _ _ _ _) _) _ _ _)); (fail_if_success (with_reducible show wpAny _ _ (call (Value.ref _) _ _) _ _ _)); (fail_if_success (with_reducible show wpAny _ _ (eval (Expr.ListComp _ _ _ _) _) _ _ _)); (fail_if_success (with_reducible show wpAny _ _ (subscriptTail _ _ (Value.ref _) (Value.int _ _)) _ _ _)); (fail_if_success (with_reducible show wpAny _ _ (setItem (Value.ref _) (Value.int _ _) _) _ _ _)))); (first | ((with_reducible show wpAny _ _ (storeName (envOf _ _ _ _ _) _ _) _ _ _); k_here; (with_reducible show wpAny _ _ (storeName (envOf _ _ _ _ _) _ _) _ _ _); k_dflt (refine' stG ?k1 ?k2 ?k3 ?k4 ?_; (case k1 => k_asm); (case k2 => k_asm); (case k3 => exact rfl); (case k4 => exact rfl); k_whole); intro sgH sgT sgM sgE sgD sgF sgN; (try k_sweep)) | (k_here; (with_reducible show wpAny _ _ (eval (Expr.Name _ _) (envOf _ _ _ _ _)) _ _ _); (with_reducible rename Fr _ _ _ _ => kF); k_dflt (refine' ld kF ?k2 ?_; (case k2 => ((repeat' (first | (with_reducible assumption) | exact if_pos rfl | refine Eq.trans (if_neg (by decide)) ?_ | (refine Eq.trans (stG_at (by with_reducible assumption) (by decide)) ?_) | exact rfl)); done)); k_whole)) | walk1)) | fail "no step"))
  rename Fr _ _ _ _ => F1
  rename News _ _ _ _ => N1
  obtain ⟨I, iI⟩ : ∃ I : Nat → Shared → Prop, ∀ k s', I k s' ↔ (∃ p ps h tk m t t2 t3 t4, s' = { s with heap := h, toks := tk } ∧ k = ps.length - p ∧ p < ps.length ∧ ps.length = ps₀.length ∧ Fr g' s.heap.objs.size h m ∧ News g' s.heap.objs.size h [(hp, listOf (ps.map (·.1)).toArray n)] ∧
    m (Str.ofString "heap") = some (.ref hp) ∧ m (Str.ofString "startpos") = some (.int 0 t) ∧ m (Str.ofString "pos") = some (.int (p : Int) t2) ∧ m (Str.ofString "newitem") = some it.1 ∧ m (Str.ofString "childpos") = some (.int ((2 * p + 1 : Nat) : Int) t3) ∧ m (Str.ofString "endpos") = some (.int (ps.length : Int) t4) ∧
    (∀ q ∈ ps, Rd g' q.1 (dW q.2)) ∧ suGo p ps = suGo 0 ps₀) := ⟨_, fun _ _ => Iff.rfl⟩
  refine while_rule I (fun k s' hI => ?_) (ps₀.length - 0) ((iI _ _).mpr ⟨0, ps₀, _, _, _, _, _, _, _, rfl, rfl, hlt, rfl, F1, N1, by ((repeat' (first | (with_reducible assumption) | exact if_pos rfl | refine Eq.trans (if_neg (by decide)) ?_ | (refine Eq.trans (stG_at (by with_reducible assumption) (by decide)) ?_) | exact rfl)); done), by ((repeat' (first | (with_reducible assumption) | exact if_pos rfl | refine Eq.trans (if_neg (by decide)) ?_ | (refine Eq.trans (stG_at (by with_reducible assumption) (by decide)) ?_) | exact rfl)); done), mint (by ((repeat' (first | (with_reducible assumption) | exact if_pos rfl | refine Eq.trans (if_neg (by decide)) ?_ | (refine Eq.trans (stG_at (by with_reducible assumption) (by decide)) ?_) | exact rfl)); done)) (by simp), by ((repeat' (first | (with_reducible assumption) | exact if_pos rfl | refine Eq.trans (if_neg (by decide)) ?_ | (refine Eq.trans (stG_at (by with_reducible assumption) (by decide)) ?_) | exact rfl)); done), mint (by ((repeat' (first | (with_reducible assumption) | exact if_pos rfl | refine Eq.trans (if_neg (by decide)) ?_ | (refine Eq.trans (stG_at (by with_reducible assumption) (by decide)) ?_) | exact rfl)); done)) (by simp), mint (by ((repeat' (first | (with_reducible assumption) | exact if_pos rfl | refine Eq.trans (if_neg (by decide)) ?_ | (refine Eq.trans (stG_at (by with_reducible assumption) (by decide)) ?_) | exact rfl)); done)) (by simp), hr', rfl⟩)
  obtain ⟨p, ps, h, tk, m, t, t2, t3, t4, rfl, rfl, hp1, hp2, F2, N2, m1, m2, m3, m4, m5, m6, hr2, hgo⟩ := (iI _ _).mp hI
  clear F1 N1
  (repeat' (first | (k_unfold; (try dsimp only)) | ((((fail_if_success (with_reducible show wpAny _ _ (exec (Stmt.While _ _ _ _) _) _ _ _)); (fail_if_success (with_reducible show wpAny _ _ (exec (Stmt.For _ _ _ _ _) _) _ _ _)); (fail_if_success (with_reducible show wpAny _ _ (call (Value.ref _) _ _) _ _ _)); (fail_if_success (with_reducible show wpAny _ _ (eval (Expr.ListComp _ _ _ _) _) _ _ _)); (fail_if_success (with_reducible show wpAny _ _ (subscriptTail _ _ (Value.ref _) (Value.int _ _)) _ _ _)); (fail_if_success (with_reducible show wpAny _ _ (setItem (Value.ref _) (Value.int _ _) _) _ _ _)))); (first | ((with_reducible show wpAny _ _ (storeName (envOf _ _ _ _ _) _ _) _ _ _); k_here; (with_reducible show wpAny _ _ (storeName (envOf _ _ _ _ _) _ _) _ _ _); k_dflt (refine' stG ?k1 ?k2 ?k3 ?k4 ?_; (case k1 => k_asm); (case k2 => k_asm); (case k3 => exact rfl); (case k4 => exact rfl); k_whole); intro sgH sgT sgM sgE sgD sgF sgN; (try k_sweep)) | (k_here; (with_reducible show wpAny _ _ (eval (Expr.Name _ _) (envOf _ _ _ _ _)) _ _ _); (with_reducible rename Fr _ _ _ _ => kF); k_dflt (refine' ld kF ?k2 ?_; (case k2 => ((repeat' (first | (with_reducible assumption) | exact if_pos rfl | refine Eq.trans (if_neg (by decide)) ?_ | (refine Eq.trans (stG_at (by with_reducible assumption) (by decide)) ?_) | exact rfl)); done)); k_whole)) | walk1)) | ((((fail_if_success (with_reducible show wpAny _ _ (exec (Stmt.While _ _ _ _) _) _ _ _)); (fail_if_success (with_reducible show wpAny _ _ (exec (Stmt.For _ _ _ _ _) _) _ _ _)); (fail_if_success (with_reducible show wpAny _ _ (call (Value.ref _) _ _) _ _ _)); (fail_if_success (with_reducible show wpAny _ _ (eval (Expr.ListComp _ _ _ _) _) _ _ _)); (fail_if_success (with_reducible show wpAny _ _ (subscriptTail _ _ (Value.ref _) (Value.int _ _)) _ _ _)); (fail_if_success (with_reducible show wpAny _ _ (setItem (Value.ref _) (Value.int _ _) _) _ _ _)))); dsimp only; (((fail_if_success (with_reducible show wpAny _ _ (exec (Stmt.While _ _ _ _) _) _ _ _)); (fail_if_success (with_reducible show wpAny _ _ (exec (Stmt.For _ _ _ _ _) _) _ _ _)); (fail_if_success (with_reducible show wpAny _ _ (call (Value.ref _) _ _) _ _ _)); (fail_if_success (with_reducible show wpAny _ _ (eval (Expr.ListComp _ _ _ _) _) _ _ _)); (fail_if_success (with_reducible show wpAny _ _ (subscriptTail _ _ (Value.ref _) (Value.int _ _)) _ _ _)); (fail_if_success (with_reducible show wpAny _ _ (setItem (Value.ref _) (Value.int _ _) _) _ _ _)))); (first | ((with_reducible show wpAny _ _ (storeName (envOf _ _ _ _ _) _ _) _ _ _); k_here; (with_reducible show wpAny _ _ (storeName (envOf _ _ _ _ _) _ _) _ _ _); k_dflt (refine' stG ?k1 ?k2 ?k3 ?k4 ?_; (case k1 => k_asm); (case k2 => k_asm); (case k3 => exact rfl); (case k4 => exact rfl); k_whole); intro sgH sgT sgM sgE sgD sgF sgN; (try k_sweep)) | (k_here; (with_reducible show wpAny _ _ (eval (Expr.Name _ _) (envOf _ _ _ _ _)) _ _ _); (with_reducible rename Fr _ _ _ _ => kF); k_dflt (refine' ld kF ?k2 ?_; (case k2 => ((repeat' (first | (with_reducible assumption) | exact if_pos rfl | refine Eq.trans (if_neg (by decide)) ?_ | (refine Eq.trans (stG_at (by with_reducible assumption) (by decide)) ?_) | exact rfl)); done)); k_whole)) | walk1)) | fail "no step"))
  · --turn
    rename News _ _ _ _ => N8
    obtain ⟨ql, hql⟩ : ∃ q, ps[2 * p + 1]? = some q := ⟨ps[2 * p + 1]'(by omega), by simp⟩
    obtain ⟨qr, hqr⟩ : ∃ q, ps[2 * p + 2]? = some q := ⟨ps[2 * p + 2]'(by omega), by simp⟩
    refine item_Li N8 (by k_mem) (by simp; omega) (k := 2 * p + 1) (by omega) (v := ql.1) (by simp [hql]) ?_
    (repeat' (first | (k_unfold; (try dsimp only)) | ((((fail_if_success (with_reducible show wpAny _ _ (exec (Stmt.While _ _ _ _) _) _ _ _)); (fail_if_success (with_reducible show wpAny _ _ (exec (Stmt.For _ _ _ _ _) _) _ _ _)); (fail_if_success (with_reducible show wpAny _ _ (call (Value.ref _) _ _) _ _ _)); (fail_if_success (with_reducible show wpAny _ _ (eval (Expr.ListComp _ _ _ _) _) _ _ _)); (fail_if_success (with_reducible show wpAny _ _ (subscriptTail _ _ (Value.ref _) (Value.int _ _)) _ _ _)); (fail_if_success (with_reducible show wpAny _ _ (setItem (Value.ref _) (Value.int _ _) _) _ _ _)))); (first | ((with_reducible show wpAny _ _ (storeName (envOf _ _ _ _ _) _ _) _ _ _); k_here; (with_reducible show wpAny _ _ (storeName (envOf _ _ _ _ _) _ _) _ _ _); k_dflt (refine' stG ?k1 ?k2 ?k3 ?k4 ?_; (case k1 => k_asm); (case k2 => k_asm); (case k3 => exact rfl); (case k4 => exact rfl); k_whole); intro sgH sgT sgM sgE sgD sgF sgN; (try k_sweep)) | (k_here; (with_reducible show wpAny _ _ (eval (Expr.Name _ _) (envOf _ _ _ _ _)) _ _ _); (with_reducible rename Fr _ _ _ _ => kF); k_dflt (refine' ld kF ?k2 ?_; (case k2 => ((repeat' (first | (with_reducible assumption) | exact if_pos rfl | refine Eq.trans (if_neg (by decide)) ?_ | (refine Eq.trans (stG_at (by with_reducible assumption) (by decide)) ?_) | exact rfl)); done)); k_whole)) | walk1)) | ((((fail_if_success (with_reducible show wpAny _ _ (exec (Stmt.While _ _ _ _) _) _ _ _)); (fail_if_success (with_reducible show wpAny _ _ (exec (Stmt.For _ _ _ _ _) _) _ _ _)); (fail_if_success (with_reducible show wpAny _ _ (call (Value.ref _) _ _) _ _ _)); (fail_if_success (with_reducible show wpAny _ _ (eval (Expr.ListComp _ _ _ _) _) _ _ _)); (fail_if_success (with_reducible show wpAny _ _ (subscriptTail _ _ (Value.ref _) (Value.int _ _)) _ _ _)); (fail_if_success (with_reducible show wpAny _ _ (setItem (Value.ref _) (Value.int _ _) _) _ _ _)))); dsimp only; (((fail_if_success (with_reducible show wpAny _ _ (exec (Stmt.While _ _ _ _) _) _ _ _)); (fail_if_success (with_reducible show wpAny _ _ (exec (Stmt.For _ _ _ _ _) _) _ _ _)); (fail_if_success (with_reducible show wpAny _ _ (call (Value.ref _) _ _) _ _ _)); (fail_if_success (with_reducible show wpAny _ _ (eval (Expr.ListComp _ _ _ _) _) _ _ _)); (fail_if_success (with_reducible show wpAny _ _ (subscriptTail _ _ (Value.ref _) (Value.int _ _)) _ _ _)); (fail_if_success (with_reducible show wpAny _ _ (setItem (Value.ref _) (Value.int _ _) _) _ _ _)))); (first | ((with_reducible show wpAny _ _ (storeName (envOf _ _ _ _ _) _ _) _ _ _); k_here; (with_reducible show wpAny _ _ (storeName (envOf _ _ _ _ _) _ _) _ _ _); k_dflt (refine' stG ?k1 ?k2 ?k3 ?k4 ?_; (case k1 => k_asm); (case k2 => k_asm); (case k3 => exact rfl); (case k4 => exact rfl); k_whole); intro sgH sgT sgM sgE sgD sgF sgN; (try k_sweep)) | (k_here; (with_reducible show wpAny _ _ (eval (Expr.Name _ _) (envOf _ _ _ _ _)) _ _ _); (with_reducible rename Fr _ _ _ _ => kF); k_dflt (refine' ld kF ?k2 ?_; (case k2 => ((repeat' (first | (with_reducible assumption) | exact if_pos rfl | refine Eq.trans (if_neg (by decide)) ?_ | (refine Eq.trans (stG_at (by with_reducible assumption) (by decide)) ?_) | exact rfl)); done)); k_whole)) | walk1)) | fail "no step"))
    rename News _ _ _ _ => N8
    refine item_Li N8 (by k_mem) (by simp; omega) (k := 2 * p + 2) (by omega) (v := qr.1) (by simp [hqr]) ?_
    (repeat' (first | (k_unfold; (try dsimp only)) | ((((fail_if_success (with_reducible show wpAny _ _ (exec (Stmt.While _ _ _ _) _) _ _ _)); (fail_if_success (with_reducible show wpAny _ _ (exec (Stmt.For _ _ _ _ _) _) _ _ _)); (fail_if_success (with_reducible show wpAny _ _ (call (Value.ref _) _ _) _ _ _)); (fail_if_success (with_reducible show wpAny _ _ (eval (Expr.ListComp _ _ _ _) _) _ _ _)); (fail_if_success (with_reducible show wpAny _ _ (subscriptTail _ _ (Value.ref _) (Value.int _ _)) _ _ _)); (fail_if_success (with_reducible show wpAny _ _ (setItem (Value.ref _) (Value.int _ _) _) _ _ _)))); (first | ((with_reducible show wpAny _ _ (storeName (envOf _ _ _ _ _) _ _) _ _ _); k_here; (with_reducible show wpAny _ _ (storeName (envOf _ _ _ _ _) _ _) _ _ _); k_dflt (refine' stG ?k1 ?k2 ?k3 ?k4 ?_; (case k1 => k_asm); (case k2 => k_asm); (case k3 => exact rfl); (case k4 => exact rfl); k_whole); intro sgH sgT sgM sgE sgD sgF sgN; (try k_sweep)) | (k_here; (with_reducible show wpAny _ _ (eval (Expr.Name _ _) (envOf _ _ _ _ _)) _ _ _); (with_reducible rename Fr _ _ _ _ => kF); k_dflt (refine' ld kF ?k2 ?_; (case k2 => ((repeat' (first | (with_reducible assumption) | exact if_pos rfl | refine Eq.trans (if_neg (by decide)) ?_ | (refine Eq.trans (stG_at (by with_reducible assumption) (by decide)) ?_) | exact rfl)); done)); k_whole)) | walk1)) | ((((fail_if_success (with_reducible show wpAny _ _ (exec (Stmt.While _ _ _ _) _) _ _ _)); (fail_if_success (with_reducible show wpAny _ _ (exec (Stmt.For _ _ _ _ _) _) _ _ _)); (fail_if_success (with_reducible show wpAny _ _ (call (Value.ref _) _ _) _ _ _)); (fail_if_success (with_reducible show wpAny _ _ (eval (Expr.ListComp _ _ _ _) _) _ _ _)); (fail_if_success (with_reducible show wpAny _ _ (subscriptTail _ _ (Value.ref _) (Value.int _ _)) _ _ _)); (fail_if_success (with_reducible show wpAny _ _ (setItem (Value.ref _) (Value.int _ _) _) _ _ _)))); dsimp only; (((fail_if_success (with_reducible show wpAny _ _ (exec (Stmt.While _ _ _ _) _) _ _ _)); (fail_if_success (with_reducible show wpAny _ _ (exec (Stmt.For _ _ _ _ _) _) _ _ _)); (fail_if_success (with_reducible show wpAny _ _ (call (Value.ref _) _ _) _ _ _)); (fail_if_success (with_reducible show wpAny _ _ (eval (Expr.ListComp _ _ _ _) _) _ _ _)); (fail_if_success (with_reducible show wpAny _ _ (subscriptTail _ _ (Value.ref _) (Value.int _ _)) _ _ _)); (fail_if_success (with_reducible show wpAny _ _ (setItem (Value.ref _) (Value.int _ _) _) _ _ _)))); (first | ((with_reducible show wpAny _ _ (storeName (envOf _ _ _ _ _) _ _) _ _ _); k_here; (with_reducible show wpAny _ _ (storeName (envOf _ _ _ _ _) _ _) _ _ _); k_dflt (refine' stG ?k1 ?k2 ?k3 ?k4 ?_; (case k1 => k_asm); (case k2 => k_asm); (case k3 => exact rfl); (case k4 => exact rfl); k_whole); intro sgH sgT sgM sgE sgD sgF sgN; (try k_sweep)) | (k_here; (with_reducible show wpAny _ _ (eval (Expr.Name _ _) (envOf _ _ _ _ _)) _ _ _); (with_reducible rename Fr _ _ _ _ => kF); k_dflt (refine' ld kF ?k2 ?_; (case k2 => ((repeat' (first | (with_reducible assumption) | exact if_pos rfl | refine Eq.trans (if_neg (by decide)) ?_ | (refine Eq.trans (stG_at (by with_reducible assumption) (by decide)) ?_) | exact rfl)); done)); k_whole)) | walk1)) | fail "no step"))
    rename Fr _ _ _ _ => F4
    refine lt_W ((Rd_mem hr2 hql).le F4.keep) ((Rd_mem hr2 hqr).le F4.keep) (by show 480 + 3 < cLine; decide) ?_
    (repeat' (first | (k_unfold; (try dsimp only)) | ((((fail_if_success (with_reducible show wpAny _ _ (exec (Stmt.While _ _ _ _) _) _ _ _)); (fail_if_success (with_reducible show wpAny _ _ (exec (Stmt.For _ _ _ _ _) _) _ _ _)); (fail_if_success (with_reducible show wpAny _ _ (call (Value.ref _) _ _) _ _ _)); (fail_if_success (with_reducible show wpAny _ _ (eval (Expr.ListComp _ _ _ _) _) _ _ _)); (fail_if_success (with_reducible show wpAny _ _ (subscriptTail _ _ (Value.ref _) (Value.int _ _)) _ _ _)); (fail_if_success (with_reducible show wpAny _ _ (setItem (Value.ref _) (Value.int _ _) _) _ _ _)))); (first | ((with_reducible show wpAny _ _ (storeName (envOf _ _ _ _ _) _ _) _ _ _); k_here; (with_reducible show wpAny _ _ (storeName (envOf _ _ _ _ _) _ _) _ _ _); k_dflt (refine' stG ?k1 ?k2 ?k3 ?k4 ?_; (case k1 => k_asm); (case k2 => k_asm); (case k3 => exact rfl); (case k4 => exact rfl); k_whole); intro sgH sgT sgM sgE sgD sgF sgN; (try k_sweep)) | (k_here; (with_reducible show wpAny _ _ (eval (Expr.Name _ _) (envOf _ _ _ _ _)) _ _ _); (with_reducible rename Fr _ _ _ _ => kF); k_dflt (refine' ld kF ?k2 ?_; (case k2 => ((repeat' (first | (with_reducible assumption) | exact if_pos rfl | refine Eq.trans (if_neg (by decide)) ?_ | (refine Eq.trans (stG_at (by with_reducible assumption) (by decide)) ?_) | exact rfl)); done)); k_whole)) | walk1)) | ((((fail_if_success (with_reducible show wpAny _ _ (exec (Stmt.While _ _ _ _) _) _ _ _)); (fail_if_success (with_reducible show wpAny _ _ (exec (Stmt.For _ _ _ _ _) _) _ _ _)); (fail_if_success (with_reducible show wpAny _ _ (call (Value.ref _) _ _) _ _ _)); (fail_if_success (with_reducible show wpAny _ _ (eval (Expr.ListComp _ _ _ _) _) _ _ _)); (fail_if_success (with_reducible show wpAny _ _ (subscriptTail _ _ (Value.ref _) (Value.int _ _)) _ _ _)); (fail_if_success (with_reducible show wpAny _ _ (setItem (Value.ref _) (Value.int _ _) _) _ _ _)))); dsimp only; (((fail_if_success (with_reducible show wpAny _ _ (exec (Stmt.While _ _ _ _) _) _ _ _)); (fail_if_success (with_reducible show wpAny _ _ (exec (Stmt.For _ _ _ _ _) _) _ _ _)); (fail_if_success (with_reducible show wpAny _ _ (call (Value.ref _) _ _) _ _ _)); (fail_if_success (with_reducible show wpAny _ _ (eval (Expr.ListComp _ _ _ _) _) _ _ _)); (fail_if_success (with_reducible show wpAny _ _ (subscriptTail _ _ (Value.ref _) (Value.int _ _)) _ _ _)); (fail_if_success (with_reducible show wpAny _ _ (setItem (Value.ref _) (Value.int _ _) _) _ _ _)))); (first | ((with_reducible show wpAny _ _ (storeName (envOf _ _ _ _ _) _ _) _ _ _); k_here; (with_reducible show wpAny _ _ (storeName (envOf _ _ _ _ _) _ _) _ _ _); k_dflt (refine' stG ?k1 ?k2 ?k3 ?k4 ?_; (case k1 => k_asm); (case k2 => k_asm); (case k3 => exact rfl); (case k4 => exact rfl); k_whole); intro sgH sgT sgM sgE sgD sgF sgN; (try k_sweep)) | (k_here; (with_reducible show wpAny _ _ (eval (Expr.Name _ _) (envOf _ _ _ _ _)) _ _ _); (with_reducible rename Fr _ _ _ _ => kF); k_dflt (refine' ld kF ?k2 ?_; (case k2 => ((repeat' (first | (with_reducible assumption) | exact if_pos rfl | refine Eq.trans (if_neg (by decide)) ?_ | (refine Eq.trans (stG_at (by with_reducible assumption) (by decide)) ?_) | exact rfl)); done)); k_whole)) | walk1)) | fail "no step"))
    · rename ltW _ _ = true => hc
      have hC : suChild p ps = 2 * p + 1 := by unfold suChild; rw [hql, hqr]; simp only [hc, if_true]
      rename News _ _ _ _ => N8
      obtain ⟨q, hq⟩ : ∃ q, ps[(2 * p + 1)]? = some q := ⟨ps[(2 * p + 1)]'(by omega), by simp⟩
      refine item_Li N8 (by k_mem) (by simp; omega) (k := (2 * p + 1)) (by omega) (v := q.1) (by simp [hq]) ?_
      (repeat' (first | (k_unfold; (try dsimp only)) | ((((fail_if_success (with_reducible show wpAny _ _ (exec (Stmt.While _ _ _ _) _) _ _ _)); (fail_if_success (with_reducible show wpAny _ _ (exec (Stmt.For _ _ _ _ _) _) _ _ _)); (fail_if_success (with_reducible show wpAny _ _ (call (Value.ref _) _ _) _ _ _)); (fail_if_success (with_reducible show wpAny _ _ (eval (Expr.ListComp _ _ _ _) _) _ _ _)); (fail_if_success (with_reducible show wpAny _ _ (subscriptTail _ _ (Value.ref _) (Value.int _ _)) _ _ _)); (fail_if_success (with_reducible show wpAny _ _ (setItem (Value.ref _) (Value.int _ _) _) _ _ _)))); (first | ((with_reducible show wpAny _ _ (storeName (envOf _ _ _ _ _) _ _) _ _ _); k_here; (with_reducible show wpAny _ _ (storeName (envOf _ _ _ _ _) _ _) _ _ _); k_dflt (refine' stG ?k1 ?k2 ?k3 ?k4 ?_; (case k1 => k_asm); (case k2 => k_asm); (case k3 => exact rfl); (case k4 => exact rfl); k_whole); intro sgH sgT sgM sgE sgD sgF sgN; (try k_sweep)) | (k_here; (with_reducible show wpAny _ _ (eval (Expr.Name _ _) (envOf _ _ _ _ _)) _ _ _); (with_reducible rename Fr _ _ _ _ => kF); k_dflt (refine' ld kF ?k2 ?_; (case k2 => ((repeat' (first | (with_reducible assumption) | exact if_pos rfl | refine Eq.trans (if_neg (by decide)) ?_ | (refine Eq.trans (stG_at (by with_reducible assumption) (by decide)) ?_) | exact rfl)); done)); k_whole)) | walk1)) | ((((fail_if_success (with_reducible show wpAny _ _ (exec (Stmt.While _ _ _ _) _) _ _ _)); (fail_if_success (with_reducible show wpAny _ _ (exec (Stmt.For _ _ _ _ _) _) _ _ _)); (fail_if_success (with_reducible show wpAny _ _ (call (Value.ref _) _ _) _ _ _)); (fail_if_success (with_reducible show wpAny _ _ (eval (Expr.ListComp _ _ _ _) _) _ _ _)); (fail_if_success (with_reducible show wpAny _ _ (subscriptTail _ _ (Value.ref _) (Value.int _ _)) _ _ _)); (fail_if_success (with_reducible show wpAny _ _ (setItem (Value.ref _) (Value.int _ _) _) _ _ _)))); dsimp only; (((fail_if_success (with_reducible show wpAny _ _ (exec (Stmt.While _ _ _ _) _) _ _ _)); (fail_if_success (with_reducible show wpAny _ _ (exec (Stmt.For _ _ _ _ _) _) _ _ _)); (fail_if_success (with_reducible show wpAny _ _ (call (Value.ref _) _ _) _ _ _)); (fail_if_success (with_reducible show wpAny _ _ (eval (Expr.ListComp _ _ _ _) _) _ _ _)); (fail_if_success (with_reducible show wpAny _ _ (subscriptTail _ _ (Value.ref _) (Value.int _ _)) _ _ _)); (fail_if_success (with_reducible show wpAny _ _ (setItem (Value.ref _) (Value.int _ _) _) _ _ _)))); (first | ((with_reducible show wpAny _ _ (storeName (envOf _ _ _ _ _) _ _) _ _ _); k_here; (with_reducible show wpAny _ _ (storeName (envOf _ _ _ _ _) _ _) _ _ _); k_dflt (refine' stG ?k1 ?k2 ?k3 ?k4 ?_; (case k1 => k_asm); (case k2 => k_asm); (case k3 => exact rfl); (case k4 => exact rfl); k_whole); intro sgH sgT sgM sgE sgD sgF sgN; (try k_sweep)) | (k_here; (with_reducible show wpAny _ _ (eval (Expr.Name _ _) (envOf _ _ _ _ _)) _ _ _); (with_reducible rename Fr _ _ _ _ => kF); k_dflt (refine' ld kF ?k2 ?_; (case k2 => ((repeat' (first | (with_reducible assumption) | exact if_pos rfl | refine Eq.trans (if_neg (by decide)) ?_ | (refine Eq.trans (stG_at (by with_reducible assumption) (by decide)) ?_) | exact rfl)); done)); k_whole)) | walk1)) | fail "no step"))
      rename Fr _ _ _ _ => F5
      rename News _ _ _ _ => N5
      refine set_L F5 N5 (.head (by simp)) (by simp; omega) (by simp; omega) (fun h6 F6 N6 => ?_)
      clear F5 N5
      (repeat' (first | (k_unfold; (try dsimp only)) | ((((fail_if_success (with_reducible show wpAny _ _ (exec (Stmt.While _ _ _ _) _) _ _ _)); (fail_if_success (with_reducible show wpAny _ _ (exec (Stmt.For _ _ _ _ _) _) _ _ _)); (fail_if_success (with_reducible show wpAny _ _ (call (Value.ref _) _ _) _ _ _)); (fail_if_success (with_reducible show wpAny _ _ (eval (Expr.ListComp _ _ _ _) _) _ _ _)); (fail_if_success (with_reducible show wpAny _ _ (subscriptTail _ _ (Value.ref _) (Value.int _ _)) _ _ _)); (fail_if_success (with_reducible show wpAny _ _ (setItem (Value.ref _) (Value.int _ _) _) _ _ _)))); (first | ((with_reducible show wpAny _ _ (storeName (envOf _ _ _ _ _) _ _) _ _ _); k_here; (with_reducible show wpAny _ _ (storeName (envOf _ _ _ _ _) _ _) _ _ _); k_dflt (refine' stG ?k1 ?k2 ?k3 ?k4 ?_; (case k1 => k_asm); (case k2 => k_asm); (case k3 => exact rfl); (case k4 => exact rfl); k_whole); intro sgH sgT sgM sgE sgD sgF sgN; (try k_sweep)) | (k_here; (with_reducible show wpAny _ _ (eval (Expr.Name _ _) (envOf _ _ _ _ _)) _ _ _); (with_reducible rename Fr _ _ _ _ => kF); k_dflt (refine' ld kF ?k2 ?_; (case k2 => ((repeat' (first | (with_reducible assumption) | exact if_pos rfl | refine Eq.trans (if_neg (by decide)) ?_ | (refine Eq.trans (stG_at (by with_reducible assumption) (by decide)) ?_) | exact rfl)); done)); k_whole)) | walk1)) | ((((fail_if_success (with_reducible show wpAny _ _ (exec (Stmt.While _ _ _ _) _) _ _ _)); (fail_if_success (with_reducible show wpAny _ _ (exec (Stmt.For _ _ _ _ _) _) _ _ _)); (fail_if_success (with_reducible show wpAny _ _ (call (Value.ref _) _ _) _ _ _)); (fail_if_success (with_reducible show wpAny _ _ (eval (Expr.ListComp _ _ _ _) _) _ _ _)); (fail_if_success (with_reducible show wpAny _ _ (subscriptTail _ _ (Value.ref _) (Value.int _ _)) _ _ _)); (fail_if_success (with_reducible show wpAny _ _ (setItem (Value.ref _) (Value.int _ _) _) _ _ _)))); dsimp only; (((fail_if_success (with_reducible show wpAny _ _ (exec (Stmt.While _ _ _ _) _) _ _ _)); (fail_if_success (with_reducible show wpAny _ _ (exec (Stmt.For _ _ _ _ _) _) _ _ _)); (fail_if_success (with_reducible show wpAny _ _ (call (Value.ref _) _ _) _ _ _)); (fail_if_success (with_reducible show wpAny _ _ (eval (Expr.ListComp _ _ _ _) _) _ _ _)); (fail_if_success (with_reducible show wpAny _ _ (subscriptTail _ _ (Value.ref _) (Value.int _ _)) _ _ _)); (fail_if_success (with_reducible show wpAny _ _ (setItem (Value.ref _) (Value.int _ _) _) _ _ _)))); (first | ((with_reducible show wpAny _ _ (storeName (envOf _ _ _ _ _) _ _) _ _ _); k_here; (with_reducible show wpAny _ _ (storeName (envOf _ _ _ _ _) _ _) _ _ _); k_dflt (refine' stG ?k1 ?k2 ?k3 ?k4 ?_; (case k1 => k_asm); (case k2 => k_asm); (case k3 => exact rfl); (case k4 => exact rfl); k_whole); intro sgH sgT sgM sgE sgD sgF sgN; (try k_sweep)) | (k_here; (with_reducible show wpAny _ _ (eval (Expr.Name _ _) (envOf _ _ _ _ _)) _ _ _); (with_reducible rename Fr _ _ _ _ => kF); k_dflt (refine' ld kF ?k2 ?_; (case k2 => ((repeat' (first | (with_reducible assumption) | exact if_pos rfl | refine Eq.trans (if_neg (by decide)) ?_ | (refine Eq.trans (stG_at (by with_reducible assumption) (by decide)) ?_) | exact rfl)); done)); k_whole)) | walk1)) | fail "no step"))
      rename Fr _ _ _ _ => F7
      rename News _ _ _ _ => N7
      rw [← List.map_set] at N7
      refine ⟨ps.length - (2 * p + 1), by omega, (iI _ _).mpr ⟨(2 * p + 1), ps.set p q, _, _, _, _, _, _, _, rfl, by simp, by simp; omega, by simpa using hp2, F7, N7, by ((repeat' (first | (with_reducible assumption) | exact if_pos rfl | refine Eq.trans (if_neg (by decide)) ?_ | (refine Eq.trans (stG_at (by with_reducible assumption) (by decide)) ?_) | exact rfl)); done), by ((repeat' (first | (with_reducible assumption) | exact if_pos rfl | refine Eq.trans (if_neg (by decide)) ?_ | (refine Eq.trans (stG_at (by with_reducible assumption) (by decide)) ?_) | exact rfl)); done), mint (by ((repeat' (first | (with_reducible assumption) | exact if_pos rfl | refine Eq.trans (if_neg (by decide)) ?_ | (refine Eq.trans (stG_at (by with_reducible assumption) (by decide)) ?_) | exact rfl)); done)) (by omega), by ((repeat' (first | (with_reducible assumption) | exact if_pos rfl | refine Eq.trans (if_neg (by decide)) ?_ | (refine Eq.trans (stG_at (by with_reducible assumption) (by decide)) ?_) | exact rfl)); done), mint (by ((repeat' (first | (with_reducible assumption) | exact if_pos rfl | refine Eq.trans (if_neg (by decide)) ?_ | (refine Eq.trans (stG_at (by with_reducible assumption) (by decide)) ?_) | exact rfl)); done)) (by omega), mint (by ((repeat' (first | (with_reducible assumption) | exact if_pos rfl | refine Eq.trans (if_neg (by decide)) ?_ | (refine Eq.trans (stG_at (by with_reducible assumption) (by decide)) ?_) | exact rfl)); done)) (by simp), ?_, ?_⟩⟩
      · intro z hz
        rcases List.mem_or_eq_of_mem_set hz with hz | rfl
        · exact hr2 z hz
        · exact Rd_mem hr2 hq
      · rw [← hgo, suGo_def p ps, dif_pos (by omega), hC, hq]
    · rename ltW _ _ = false => hc
      have hC : suChild p ps = 2 * p + 2 := by unfold suChild; rw [hql, hqr]; simp only [hc, Bool.false_eq_true, if_false]
      rename News _ _ _ _ => N8
      obtain ⟨q, hq⟩ : ∃ q, ps[(2 * p + 2)]? = some q := ⟨ps[(2 * p + 2)]'(by omega), by simp⟩
      refine item_Li N8 (by k_mem) (by simp; omega) (k := (2 * p + 2)) (by omega) (v := q.1) (by simp [hq]) ?_
      (repeat' (first | (k_unfold; (try dsimp only)) | ((((fail_if_success (with_reducible show wpAny _ _ (exec (Stmt.While _ _ _ _) _) _ _ _)); (fail_if_success (with_reducible show wpAny _ _ (exec (Stmt.For _ _ _ _ _) _) _ _ _)); (fail_if_success (with_reducible show wpAny _ _ (call (Value.ref _) _ _) _ _ _)); (fail_if_success (with_reducible show wpAny _ _ (eval (Expr.ListComp _ _ _ _) _) _ _ _)); (fail_if_success (with_reducible show wpAny _ _ (subscriptTail _ _ (Value.ref _) (Value.int _ _)) _ _ _)); (fail_if_success (with_reducible show wpAny _ _ (setItem (Value.ref _) (Value.int _ _) _) _ _ _)))); (first | ((with_reducible show wpAny _ _ (storeName (envOf _ _ _ _ _) _ _) _ _ _); k_here; (with_reducible show wpAny _ _ (storeName (envOf _ _ _ _ _) _ _) _ _ _); k_dflt (refine' stG ?k1 ?k2 ?k3 ?k4 ?_; (case k1 => k_asm); (case k2 => k_asm); (case k3 => exact rfl); (case k4 => exact rfl); k_whole); intro sgH sgT sgM sgE sgD sgF sgN; (try k_sweep)) | (k_here; (with_reducible show wpAny _ _ (eval (Expr.Name _ _) (envOf _ _ _ _ _)) _ _ _); (with_reducible rename Fr _ _ _ _ => kF); k_dflt (refine' ld kF ?k2 ?_; (case k2 => ((repeat' (first | (with_reducible assumption) | exact if_pos rfl | refine Eq.trans (if_neg (by decide)) ?_ | (refine Eq.trans (stG_at (by with_reducible assumption) (by decide)) ?_) | exact rfl)); done)); k_whole)) | walk1)) | ((((fail_if_success (with_reducible show wpAny _ _ (exec (Stmt.While _ _ _ _) _) _ _ _)); (fail_if_success (with_reducible show wpAny _ _ (exec (Stmt.For _ _ _ _ _) _) _ _ _)); (fail_if_success (with_reducible show wpAny _ _ (call (Value.ref _) _ _) _ _ _)); (fail_if_success (with_reducible show wpAny _ _ (eval (Expr.ListComp _ _ _ _) _) _ _ _)); (fail_if_success (with_reducible show wpAny _ _ (subscriptTail _ _ (Value.ref _) (Value.int _ _)) _ _ _)); (fail_if_success (with_reducible show wpAny _ _ (setItem (Value.ref _) (Value.int _ _) _) _ _ _)))); dsimp only; (((fail_if_success (with_reducible show wpAny _ _ (exec (Stmt.While _ _ _ _) _) _ _ _)); (fail_if_success (with_reducible show wpAny _ _ (exec (Stmt.For _ _ _ _ _) _) _ _ _)); (fail_if_success (with_reducible show wpAny _ _ (call (Value.ref _) _ _) _ _ _)); (fail_if_success (with_reducible show wpAny _ _ (eval (Expr.ListComp _ _ _ _) _) _ _ _)); (fail_if_success (with_reducible show wpAny _ _ (subscriptTail _ _ (Value.ref _) (Value.int _ _)) _ _ _)); (fail_if_success (with_reducible show wpAny _ _ (setItem (Value.ref _) (Value.int _ _) _) _ _ _)))); (first | ((with_reducible show wpAny _ _ (storeName (envOf _ _ _ _ _) _ _) _ _ _); k_here; (with_reducible show wpAny _ _ (storeName (envOf _ _ _ _ _) _ _) _ _ _); k_dflt (refine' stG ?k1 ?k2 ?k3 ?k4 ?_; (case k1 => k_asm); (case k2 => k_asm); (case k3 => exact rfl); (case k4 => exact rfl); k_whole); intro sgH sgT sgM sgE sgD sgF sgN; (try k_sweep)) | (k_here; (with_reducible show wpAny _ _ (eval (Expr.Name _ _) (envOf _ _ _ _ _)) _ _ _); (with_reducible rename Fr _ _ _ _ => kF); k_dflt (refine' ld kF ?k2 ?_; (case k2 => ((repeat' (first | (with_reducible assumption) | exact if_pos rfl | refine Eq.trans (if_neg (by decide)) ?_ | (refine Eq.trans (stG_at (by with_reducible assumption) (by decide)) ?_) | exact rfl)); done)); k_whole)) | walk1)) | fail "no step"))
      rename Fr _ _ _ _ => F5
      rename News _ _ _ _ => N5
      refine set_L F5 N5 (.head (by simp)) (by simp; omega) (by simp; omega) (fun h6 F6 N6 => ?_)
      clear F5 N5
      (repeat' (first | (k_unfold; (try dsimp only)) | ((((fail_if_success (with_reducible show wpAny _ _ (exec (Stmt.While _ _ _ _) _) _ _ _)); (fail_if_success (with_reducible show wpAny _ _ (exec (Stmt.For _ _ _ _ _) _) _ _ _)); (fail_if_success (with_reducible show wpAny _ _ (call (Value.ref _) _ _) _ _ _)); (fail_if_success (with_reducible show wpAny _ _ (eval (Expr.ListComp _ _ _ _) _) _ _ _)); (fail_if_success (with_reducible show wpAny _ _ (subscriptTail _ _ (Value.ref _) (Value.int _ _)) _ _ _)); (fail_if_success (with_reducible show wpAny _ _ (setItem (Value.ref _) (Value.int _ _) _) _ _ _)))); (first | ((with_reducible show wpAny _ _ (storeName (envOf _ _ _ _ _) _ _) _ _ _); k_here; (with_reducible show wpAny _ _ (storeName (envOf _ _ _ _ _) _ _) _ _ _); k_dflt (refine' stG ?k1 ?k2 ?k3 ?k4 ?_; (case k1 => k_asm); (case k2 => k_asm); (case k3 => exact rfl); (case k4 => exact rfl); k_whole); intro sgH sgT sgM sgE sgD sgF sgN; (try k_sweep)) | (k_here; (with_reducible show wpAny _ _ (eval (Expr.Name _ _) (envOf _ _ _ _ _)) _ _ _); (with_reducible rename Fr _ _ _ _ => kF); k_dflt (refine' ld kF ?k2 ?_; (case k2 => ((repeat' (first | (with_reducible assumption) | exact if_pos rfl | refine Eq.trans (if_neg (by decide)) ?_ | (refine Eq.trans (stG_at (by with_reducible assumption) (by decide)) ?_) | exact rfl)); done)); k_whole)) | walk1)) | ((((fail_if_success (with_reducible show wpAny _ _ (exec (Stmt.While _ _ _ _) _) _ _ _)); (fail_if_success (with_reducible show wpAny _ _ (exec (Stmt.For _ _ _ _ _) _) _ _ _)); (fail_if_success (with_reducible show wpAny _ _ (call (Value.ref _) _ _) _ _ _)); (fail_if_success (with_reducible show wpAny _ _ (eval (Expr.ListComp _ _ _ _) _) _ _ _)); (fail_if_success (with_reducible show wpAny _ _ (subscriptTail _ _ (Value.ref _) (Value.int _ _)) _ _ _)); (fail_if_success (with_reducible show wpAny _ _ (setItem (Value.ref _) (Value.int _ _) _) _ _ _)))); dsimp only; (((fail_if_success (with_reducible show wpAny _ _ (exec (Stmt.While _ _ _ _) _) _ _ _)); (fail_if_success (with_reducible show wpAny _ _ (exec (Stmt.For _ _ _ _ _) _) _ _ _)); (fail_if_success (with_reducible show wpAny _ _ (call (Value.ref _) _ _) _ _ _)); (fail_if_success (with_reducible show wpAny _ _ (eval (Expr.ListComp _ _ _ _) _) _ _ _)); (fail_if_success (with_reducible show wpAny _ _ (subscriptTail _ _ (Value.ref _) (Value.int _ _)) _ _ _)); (fail_if_success (with_reducible show wpAny _ _ (setItem (Value.ref _) (Value.int _ _) _) _ _ _)))); (first | ((with_reducible show wpAny _ _ (storeName (envOf _ _ _ _ _) _ _) _ _ _); k_here; (with_reducible show wpAny _ _ (storeName (envOf _ _ _ _ _) _ _) _ _ _); k_dflt (refine' stG ?k1 ?k2 ?k3 ?k4 ?_; (case k1 => k_asm); (case k2 => k_asm); (case k3 => exact rfl); (case k4 => exact rfl); k_whole); intro sgH sgT sgM sgE sgD sgF sgN; (try k_sweep)) | (k_here; (with_reducible show wpAny _ _ (eval (Expr.Name _ _) (envOf _ _ _ _ _)) _ _ _); (with_reducible rename Fr _ _ _ _ => kF); k_dflt (refine' ld kF ?k2 ?_; (case k2 => ((repeat' (first | (with_reducible assumption) | exact if_pos rfl | refine Eq.trans (if_neg (by decide)) ?_ | (refine Eq.trans (stG_at (by with_reducible assumption) (by decide)) ?_) | exact rfl)); done)); k_whole)) | walk1)) | fail "no step"))
      rename Fr _ _ _ _ => F7
      rename News _ _ _ _ => N7
      rw [← List.map_set] at N7
      refine ⟨ps.length - (2 * p + 2), by omega, (iI _ _).mpr ⟨(2 * p + 2), ps.set p q, _, _, _, _, _, _, _, rfl, by simp, by simp; omega, by simpa using hp2, F7, N7, by ((repeat' (first | (with_reducible assumption) | exact if_pos rfl | refine Eq.trans (if_neg (by decide)) ?_ | (refine Eq.trans (stG_at (by with_reducible assumption) (by decide)) ?_) | exact rfl)); done), by ((repeat' (first | (with_reducible assumption) | exact if_pos rfl | refine Eq.trans (if_neg (by decide)) ?_ | (refine Eq.trans (stG_at (by with_reducible assumption) (by decide)) ?_) | exact rfl)); done), mint (by ((repeat' (first | (with_reducible assumption) | exact if_pos rfl | refine Eq.trans (if_neg (by decide)) ?_ | (refine Eq.trans (stG_at (by with_reducible assumption) (by decide)) ?_) | exact rfl)); done)) (by omega), by ((repeat' (first | (with_reducible assumption) | exact if_pos rfl | refine Eq.trans (if_neg (by decide)) ?_ | (refine Eq.trans (stG_at (by with_reducible assumption) (by decide)) ?_) | exact rfl)); done), mint (by ((repeat' (first | (with_reducible assumption) | exact if_pos rfl | refine Eq.trans (if_neg (by decide)) ?_ | (refine Eq.trans (stG_at (by with_reducible assumption) (by decide)) ?_) | exact rfl)); done)) (by omega), mint (by ((repeat' (first | (with_reducible assumption) | exact if_pos rfl | refine Eq.trans (if_neg (by decide)) ?_ | (refine Eq.trans (stG_at (by with_reducible assumption) (by decide)) ?_) | exact rfl)); done)) (by simp), ?_, ?_⟩⟩
      · intro z hz
        rcases List.mem_or_eq_of_mem_set hz with hz | rfl
        · exact hr2 z hz
        · exact Rd_mem hr2 hq
      · rw [← hgo, suGo_def p ps, dif_pos (by omega), hC, hq]
  · have hqr : ps[2 * p + 2]? = none := List.getElem?_eq_none (by omega)
    have hC : suChild p ps = 2 * p + 1 := by
      unfold suChild; rw [hqr]; split
      · rename_i hz; cases hz
      · rfl
    rename News _ _ _ _ => N8
    obtain ⟨q, hq⟩ : ∃ q, ps[(2 * p + 1)]? = some q := ⟨ps[(2 * p + 1)]'(by omega), by simp⟩
    refine item_Li N8 (by k_mem) (by simp; omega) (k := (2 * p + 1)) (by omega) (v := q.1) (by simp [hq]) ?_
    (repeat' (first | (k_unfold; (try dsimp only)) | ((((fail_if_success (with_reducible show wpAny _ _ (exec (Stmt.While _ _ _ _) _) _ _ _)); (fail_if_success (with_reducible show wpAny _ _ (exec (Stmt.For _ _ _ _ _) _) _ _ _)); (fail_if_success (with_reducible show wpAny _ _ (call (Value.ref _) _ _) _ _ _)); (fail_if_success (with_reducible show wpAny _ _ (eval (Expr.ListComp _ _ _ _) _) _ _ _)); (fail_if_success (with_reducible show wpAny _ _ (subscriptTail _ _ (Value.ref _) (Value.int _ _)) _ _ _)); (fail_if_success (with_reducible show wpAny _ _ (setItem (Value.ref _) (Value.int _ _) _) _ _ _)))); (first | ((with_reducible show wpAny _ _ (storeName (envOf _ _ _ _ _) _ _) _ _ _); k_here; (with_reducible show wpAny _ _ (storeName (envOf _ _ _ _ _) _ _) _ _ _); k_dflt (refine' stG ?k1 ?k2 ?k3 ?k4 ?_; (case k1 => k_asm); (case k2 => k_asm); (case k3 => exact rfl); (case k4 => exact rfl); k_whole); intro sgH sgT sgM sgE sgD sgF sgN; (try k_sweep)) | (k_here; (with_reducible show wpAny _ _ (eval (Expr.Name _ _) (envOf _ _ _ _ _)) _ _ _); (with_reducible rename Fr _ _ _ _ => kF); k_dflt (refine' ld kF ?k2 ?_; (case k2 => ((repeat' (first | (with_reducible assumption) | exact if_pos rfl | refine Eq.trans (if_neg (by decide)) ?_ | (refine Eq.trans (stG_at (by with_reducible assumption) (by decide)) ?_) | exact rfl)); done)); k_whole)) | walk1)) | ((((fail_if_success (with_reducible show wpAny _ _ (exec (Stmt.While _ _ _ _) _) _ _ _)); (fail_if_success (with_reducible show wpAny _ _ (exec (Stmt.For _ _ _ _ _) _) _ _ _)); (fail_if_success (with_reducible show wpAny _ _ (call (Value.ref _) _ _) _ _ _)); (fail_if_success (with_reducible show wpAny _ _ (eval (Expr.ListComp _ _ _ _) _) _ _ _)); (fail_if_success (with_reducible show wpAny _ _ (subscriptTail _ _ (Value.ref _) (Value.int _ _)) _ _ _)); (fail_if_success (with_reducible show wpAny _ _ (setItem (Value.ref _) (Value.int _ _) _) _ _ _)))); dsimp only; (((fail_if_success (with_reducible show wpAny _ _ (exec (Stmt.While _ _ _ _) _) _ _ _)); (fail_if_success (with_reducible show wpAny _ _ (exec (Stmt.For _ _ _ _ _) _) _ _ _)); (fail_if_success (with_reducible show wpAny _ _ (call (Value.ref _) _ _) _ _ _)); (fail_if_success (with_reducible show wpAny _ _ (eval (Expr.ListComp _ _ _ _) _) _ _ _)); (fail_if_success (with_reducible show wpAny _ _ (subscriptTail _ _ (Value.ref _) (Value.int _ _)) _ _ _)); (fail_if_success (with_reducible show wpAny _ _ (setItem (Value.ref _) (Value.int _ _) _) _ _ _)))); (first | ((with_reducible show wpAny _ _ (storeName (envOf _ _ _ _ _) _ _) _ _ _); k_here; (with_reducible show wpAny _ _ (storeName (envOf _ _ _ _ _) _ _) _ _ _); k_dflt (refine' stG ?k1 ?k2 ?k3 ?k4 ?_; (case k1 => k_asm); (case k2 => k_asm); (case k3 => exact rfl); (case k4 => exact rfl); k_whole); intro sgH sgT sgM sgE sgD sgF sgN; (try k_sweep)) | (k_here; (with_reducible show wpAny _ _ (eval (Expr.Name _ _) (envOf _ _ _ _ _)) _ _ _); (with_reducible rename Fr _ _ _ _ => kF); k_dflt (refine' ld kF ?k2 ?_; (case k2 => ((repeat' (first | (with_reducible assumption) | exact if_pos rfl | refine Eq.trans (if_neg (by decide)) ?_ | (refine Eq.trans (stG_at (by with_reducible assumption) (by decide)) ?_) | exact rfl)); done)); k_whole)) | walk1)) | fail "no step"))
    rename Fr _ _ _ _ => F5
    rename News _ _ _ _ => N5
    refine set_L F5 N5 (.head (by simp)) (by simp; omega) (by simp; omega) (fun h6 F6 N6 => ?_)
    clear F5 N5
    (repeat' (first | (k_unfold; (try dsimp only)) | ((((fail_if_success (with_reducible show wpAny _ _ (exec (Stmt.While _ _ _ _) _) _ _ _)); (fail_if_success (with_reducible show wpAny _ _ (exec (Stmt.For _ _ _ _ _) _) _ _ _)); (fail_if_success (with_reducible show wpAny _ _ (call (Value.ref _) _ _) _ _ _)); (fail_if_success (with_reducible show wpAny _ _ (eval (Expr.ListComp _ _ _ _) _) _ _ _)); (fail_if_success (with_reducible show wpAny _ _ (subscriptTail _ _ (Value.ref _) (Value.int _ _)) _ _ _)); (fail_if_success (with_reducible show wpAny _ _ (setItem (Value.ref _) (Value.int _ _) _) _ _ _)))); (first | ((with_reducible show wpAny _ _ (storeName (envOf _ _ _ _ _) _ _) _ _ _); k_here; (with_reducible show wpAny _ _ (storeName (envOf _ _ _ _ _) _ _) _ _ _); k_dflt (refine' stG ?k1 ?k2 ?k3 ?k4 ?_; (case k1 => k_asm); (case k2 => k_asm); (case k3 => exact rfl); (case k4 => exact rfl); k_whole); intro sgH sgT sgM sgE sgD sgF sgN; (try k_sweep)) | (k_here; (with_reducible show wpAny _ _ (eval (Expr.Name _ _) (envOf _ _ _ _ _)) _ _ _); (with_reducible rename Fr _ _ _ _ => kF); k_dflt (refine' ld kF ?k2 ?_; (case k2 => ((repeat' (first | (with_reducible assumption) | exact if_pos rfl | refine Eq.trans (if_neg (by decide)) ?_ | (refine Eq.trans (stG_at (by with_reducible assumption) (by decide)) ?_) | exact rfl)); done)); k_whole)) | walk1)) | ((((fail_if_success (with_reducible show wpAny _ _ (exec (Stmt.While _ _ _ _) _) _ _ _)); (fail_if_success (with_reducible show wpAny _ _ (exec (Stmt.For _ _ _ _ _) _) _ _ _)); (fail_if_success (with_reducible show wpAny _ _ (call (Value.ref _) _ _) _ _ _)); (fail_if_success (with_reducible show wpAny _ _ (eval (Expr.ListComp _ _ _ _) _) _ _ _)); (fail_if_success (with_reducible show wpAny _ _ (subscriptTail _ _ (Value.ref _) (Value.int _ _)) _ _ _)); (fail_if_success (with_reducible show wpAny _ _ (setItem (Value.ref _) (Value.int _ _) _) _ _ _)))); dsimp only; (((fail_if_success (with_reducible show wpAny _ _ (exec (Stmt.While _ _ _ _) _) _ _ _)); (fail_if_success (with_reducible show wpAny _ _ (exec (Stmt.For _ _ _ _ _) _) _ _ _)); (fail_if_success (with_reducible show wpAny _ _ (call (Value.ref _) _ _) _ _ _)); (fail_if_success (with_reducible show wpAny _ _ (eval (Expr.ListComp _ _ _ _) _) _ _ _)); (fail_if_success (with_reducible show wpAny _ _ (subscriptTail _ _ (Value.ref _) (Value.int _ _)) _ _ _)); (fail_if_success (with_reducible show wpAny _ _ (setItem (Value.ref _) (Value.int _ _) _) _ _ _)))); (first | ((with_reducible show wpAny _ _ (storeName (envOf _ _ _ _ _) _ _) _ _ _); k_here; (with_reducible show wpAny _ _ (storeName (envOf _ _ _ _ _) _ _) _ _ _); k_dflt (refine' stG ?k1 ?k2 ?k3 ?k4 ?_; (case k1 => k_asm); (case k2 => k_asm); (case k3 => exact rfl); (case k4 => exact rfl); k_whole); intro sgH sgT sgM sgE sgD sgF sgN; (try k_sweep)) | (k_here; (with_reducible show wpAny _ _ (eval (Expr.Name _ _) (envOf _ _ _ _ _)) _ _ _); (with_reducible rename Fr _ _ _ _ => kF); k_dflt (refine' ld kF ?k2 ?_; (case k2 => ((repeat' (first | (with_reducible assumption) | exact if_pos rfl | refine Eq.trans (if_neg (by decide)) ?_ | (refine Eq.trans (stG_at (by with_reducible assumption) (by decide)) ?_) | exact rfl)); done)); k_whole)) | walk1)) | fail "no step"))
    rename Fr _ _ _ _ => F7
    rename News _ _ _ _ => N7
    rw [← List.map_set] at N7
    refine ⟨ps.length - (2 * p + 1), by omega, (iI _ _).mpr ⟨(2 * p + 1), ps.set p q, _, _, _, _, _, _, _, rfl, by simp, by simp; omega, by simpa using hp2, F7, N7, by ((repeat' (first | (with_reducible assumption) | exact if_pos rfl | refine Eq.trans (if_neg (by decide)) ?_ | (refine Eq.trans (stG_at (by with_reducible assumption) (by decide)) ?_) | exact rfl)); done), by ((repeat' (first | (with_reducible assumption) | exact if_pos rfl | refine Eq.trans (if_neg (by decide)) ?_ | (refine Eq.trans (stG_at (by with_reducible assumption) (by decide)) ?_) | exact rfl)); done), mint (by ((repeat' (first | (with_reducible assumption) | exact if_pos rfl | refine Eq.trans (if_neg (by decide)) ?_ | (refine Eq.trans (stG_at (by with_reducible assumption) (by decide)) ?_) | exact rfl)); done)) (by omega), by ((repeat' (first | (with_reducible assumption) | exact if_pos rfl | refine Eq.trans (if_neg (by decide)) ?_ | (refine Eq.trans (stG_at (by with_reducible assumption) (by decide)) ?_) | exact rfl)); done), mint (by ((repeat' (first | (with_reducible assumption) | exact if_pos rfl | refine Eq.trans (if_neg (by decide)) ?_ | (refine Eq.trans (stG_at (by with_reducible assumption) (by decide)) ?_) | exact rfl)); done)) (by omega), mint (by ((repeat' (first | (with_reducible assumption) | exact if_pos rfl | refine Eq.trans (if_neg (by decide)) ?_ | (refine Eq.trans (stG_at (by with_reducible assumption) (by decide)) ?_) | exact rfl)); done)) (by simp), ?_, ?_⟩⟩
    · intro z hz
      rcases List.mem_or_eq_of_mem_set hz with hz | rfl
      · exact hr2 z hz
      · exact Rd_mem hr2 hq
    · rw [← hgo, suGo_def p ps, dif_pos (by omega), hC, hq]
  · rename Fr _ _ _ _ => F5
    rename News _ _ _ _ => N5
    refine set_L F5 N5 (.head (by simp)) (by simp; omega) (by simp; omega) (fun h6 F6 N6 => ?_)
    clear F5 N5
    have e : suGo 0 ps₀ = (p, ps) := by
      rw [← hgo, suGo_def p ps, dif_neg (by omega)]
    (repeat' (first | (k_unfold; (try dsimp only)) | ((((fail_if_success (with_reducible show wpAny _ _ (exec (Stmt.While _ _ _ _) _) _ _ _)); (fail_if_success (with_reducible show wpAny _ _ (exec (Stmt.For _ _ _ _ _) _) _ _ _)); (fail_if_success (with_reducible show wpAny _ _ (call (Value.ref _) _ _) _ _ _)); (fail_if_success (with_reducible show wpAny _ _ (eval (Expr.ListComp _ _ _ _) _) _ _ _)); (fail_if_success (with_reducible show wpAny _ _ (subscriptTail _ _ (Value.ref _) (Value.int _ _)) _ _ _)); (fail_if_success (with_reducible show wpAny _ _ (setItem (Value.ref _) (Value.int _ _) _) _ _ _)))); (first | ((with_reducible show wpAny _ _ (storeName (envOf _ _ _ _ _) _ _) _ _ _); k_here; (with_reducible show wpAny _ _ (storeName (envOf _ _ _ _ _) _ _) _ _ _); k_dflt (refine' stG ?k1 ?k2 ?k3 ?k4 ?_; (case k1 => k_asm); (case k2 => k_asm); (case k3 => exact rfl); (case k4 => exact rfl); k_whole); intro sgH sgT sgM sgE sgD sgF sgN; (try k_sweep)) | (k_here; (with_reducible show wpAny _ _ (eval (Expr.Name _ _) (envOf _ _ _ _ _)) _ _ _); (with_reducible rename Fr _ _ _ _ => kF); k_dflt (refine' ld kF ?k2 ?_; (case k2 => ((repeat' (first | (with_reducible assumption) | exact if_pos rfl | refine Eq.trans (if_neg (by decide)) ?_ | (refine Eq.trans (stG_at (by with_reducible assumption) (by decide)) ?_) | exact rfl)); done)); k_whole)) | walk1)) | ((((fail_if_success (with_reducible show wpAny _ _ (exec (Stmt.While _ _ _ _) _) _ _ _)); (fail_if_success (with_reducible show wpAny _ _ (exec (Stmt.For _ _ _ _ _) _) _ _ _)); (fail_if_success (with_reducible show wpAny _ _ (call (Value.ref _) _ _) _ _ _)); (fail_if_success (with_reducible show wpAny _ _ (eval (Expr.ListComp _ _ _ _) _) _ _ _)); (fail_if_success (with_reducible show wpAny _ _ (subscriptTail _ _ (Value.ref _) (Value.int _ _)) _ _ _)); (fail_if_success (with_reducible show wpAny _ _ (setItem (Value.ref _) (Value.int _ _) _) _ _ _)))); dsimp only; (((fail_if_success (with_reducible show wpAny _ _ (exec (Stmt.While _ _ _ _) _) _ _ _)); (fail_if_success (with_reducible show wpAny _ _ (exec (Stmt.For _ _ _ _ _) _) _ _ _)); (fail_if_success (with_reducible show wpAny _ _ (call (Value.ref _) _ _) _ _ _)); (fail_if_success (with_reducible show wpAny _ _ (eval (Expr.ListComp _ _ _ _) _) _ _ _)); (fail_if_success (with_reducible show wpAny _ _ (subscriptTail _ _ (Value.ref _) (Value.int _ _)) _ _ _)); (fail_if_success (with_reducible show wpAny _ _ (setItem (Value.ref _) (Value.int _ _) _) _ _ _)))); (first | ((with_reducible show wpAny _ _ (storeName (envOf _ _ _ _ _) _ _) _ _ _); k_here; (with_reducible show wpAny _ _ (storeName (envOf _ _ _ _ _) _ _) _ _ _); k_dflt (refine' stG ?k1 ?k2 ?k3 ?k4 ?_; (case k1 => k_asm); (case k2 => k_asm); (case k3 => exact rfl); (case k4 => exact rfl); k_whole); intro sgH sgT sgM sgE sgD sgF sgN; (try k_sweep)) | (k_here; (with_reducible show wpAny _ _ (eval (Expr.Name _ _) (envOf _ _ _ _ _)) _ _ _); (with_reducible rename Fr _ _ _ _ => kF); k_dflt (refine' ld kF ?k2 ?_; (case k2 => ((repeat' (first | (with_reducible assumption) | exact if_pos rfl | refine Eq.trans (if_neg (by decide)) ?_ | (refine Eq.trans (stG_at (by with_reducible assumption) (by decide)) ?_) | exact rfl)); done)); k_whole)) | walk1)) | fail "no step"))
    rename Fr _ _ _ _ => F7
    rename News _ _ _ _ => N7
    rw [← List.map_set] at N7
    refine siftdown_c (ps₀ := ps.set p it) (n := n) (p₀ := p) a' F7.keep (Room.deeper _) (N7 _ (.head _)).1 hself (fun z hz => ?_) (by simp; omega) (by simp; omega) (fun h9 tk9 k9 e9 => ?_)
    · rcases List.mem_or_eq_of_mem_set hz with hz | rfl
      · exact hr2 z hz
      · exact Rd_mem hr' hit
    · (repeat' (first | (k_unfold; (try dsimp only)) | ((((fail_if_success (with_reducible show wpAny _ _ (exec (Stmt.While _ _ _ _) _) _ _ _)); (fail_if_success (with_reducible show wpAny _ _ (exec (Stmt.For _ _ _ _ _) _) _ _ _)); (fail_if_success (with_reducible show wpAny _ _ (call (Value.ref _) _ _) _ _ _)); (fail_if_success (with_reducible show wpAny _ _ (eval (Expr.ListComp _ _ _ _) _) _ _ _)); (fail_if_success (with_reducible show wpAny _ _ (subscriptTail _ _ (Value.ref _) (Value.int _ _)) _ _ _)); (fail_if_success (with_reducible show wpAny _ _ (setItem (Value.ref _) (Value.int _ _) _) _ _ _)))); (first | ((with_reducible show wpAny _ _ (storeName (envOf _ _ _ _ _) _ _) _ _ _); k_here; (with_reducible show wpAny _ _ (storeName (envOf _ _ _ _ _) _ _) _ _ _); k_dflt (refine' stG ?k1 ?k2 ?k3 ?k4 ?_; (case k1 => k_asm); (case k2 => k_asm); (case k3 => exact rfl); (case k4 => exact rfl); k_whole); intro sgH sgT sgM sgE sgD sgF sgN; (try k_sweep)) | (k_here; (with_reducible show wpAny _ _ (eval (Expr.Name _ _) (envOf _ _ _ _ _)) _ _ _); (with_reducible rename Fr _ _ _ _ => kF); k_dflt (refine' ld kF ?k2 ?_; (case k2 => ((repeat' (first | (with_reducible assumption) | exact if_pos rfl | refine Eq.trans (if_neg (by decide)) ?_ | (refine Eq.trans (stG_at (by with_reducible assumption) (by decide)) ?_) | exact rfl)); done)); k_whole)) | walk1)) | ((((fail_if_success (with_reducible show wpAny _ _ (exec (Stmt.While _ _ _ _) _) _ _ _)); (fail_if_success (with_reducible show wpAny _ _ (exec (Stmt.For _ _ _ _ _) _) _ _ _)); (fail_if_success (with_reducible show wpAny _ _ (call (Value.ref _) _ _) _ _ _)); (fail_if_success (with_reducible show wpAny _ _ (eval (Expr.ListComp _ _ _ _) _) _ _ _)); (fail_if_success (with_reducible show wpAny _ _ (subscriptTail _ _ (Value.ref _) (Value.int _ _)) _ _ _)); (fail_if_success (with_reducible show wpAny _ _ (setItem (Value.ref _) (Value.int _ _) _) _ _ _)))); dsimp only; (((fail_if_success (with_reducible show wpAny _ _ (exec (Stmt.While _ _ _ _) _) _ _ _)); (fail_if_success (with_reducible show wpAny _ _ (exec (Stmt.For _ _ _ _ _) _) _ _ _)); (fail_if_success (with_reducible show wpAny _ _ (call (Value.ref _) _ _) _ _ _)); (fail_if_success (with_reducible show wpAny _ _ (eval (Expr.ListComp _ _ _ _) _) _ _ _)); (fail_if_success (with_reducible show wpAny _ _ (subscriptTail _ _ (Value.ref _) (Value.int _ _)) _ _ _)); (fail_if_success (with_reducible show wpAny _ _ (setItem (Value.ref _) (Value.int _ _) _) _ _ _)))); (first | ((with_reducible show wpAny _ _ (storeName (envOf _ _ _ _ _) _ _) _ _ _); k_here; (with_reducible show wpAny _ _ (storeName (envOf _ _ _ _ _) _ _) _ _ _); k_dflt (refine' stG ?k1 ?k2 ?k3 ?k4 ?_; (case k1 => k_asm); (case k2 => k_asm); (case k3 => exact rfl); (case k4 => exact rfl); k_whole); intro sgH sgT sgM sgE sgD sgF sgN; (try k_sweep)) | (k_here; (with_reducible show wpAny _ _ (eval (Expr.Name _ _) (envOf _ _ _ _ _)) _ _ _); (with_reducible rename Fr _ _ _ _ => kF); k_dflt (refine' ld kF ?k2 ?_; (case k2 => ((repeat' (first | (with_reducible assumption) | exact if_pos rfl | refine Eq.trans (if_neg (by decide)) ?_ | (refine Eq.trans (stG_at (by with_reducible assumption) (by decide)) ?_) | exact rfl)); done)); k_whole)) | walk1)) | fail "no step"))
      refine hQ _ _ (fun b o q e => k9 b o q (F7.keep b o (lh b o q e))) ?_
      rw [e9]
      unfold su; rw [hit]; simp only [e]
end

section
open PySem PySem.W PyProof.Rows PySem.Calls PySem.SeqAt

theorem siftdown_i {w : World} {A : Around} {E : Value → Shared → Prop} {s : Shared} {g : Heap} {Q : Value → Shared → Prop} {hp : Addr} {ps₀ : List PP} {n p₀ : Nat} {t0 t1 : Tok} {i : Int} (a : Amb w g) (l : Le g s.heap) (r : Room 9 A)
    (hh : s.heap.get? hp = some (listOf (ps₀.map (·.1)).toArray n)) (hout : g.get? hp = none) (hr : ∀ q ∈ ps₀, Rd g q.1 (dW q.2)) (hi : i = (p₀ : Int)) (hlt : p₀ < ps₀.length) (hlen : ps₀.length ≤ 1000)
    (hQ : ∀ h' tk, (∀ b o, b ≠ hp → s.heap.get? b = some o → h'.get? b = some o) → h'.get? hp = some (listOf ((sd p₀ ps₀).map (·.1)).toArray n) → Q .none { s with heap := h', toks := tk }) :
    wpAny (model Challenge.rw_ny0132_01.row.prog w) A (call (.ref 42) [.ref hp, .int 0 t0, .int i t1]) Q E s := by
  subst hi; exact siftdown_c a l r hh hout hr hlt hlen hQ
theorem Room.le {k k' : Nat} {A : Around} (r : Room k A) (h : k ≤ k') : Room k' A := ⟨by have := r.depth; omega, by have := r.units; omega, r.hnd⟩
noncomputable def popP (qs : List PP) (z : PP) : PP × List PP := match qs[0]? with
  | some q => (q, su (qs.set 0 z))
  | none => (z, [])

theorem heappush_c {w : World} {A : Around} {E : Value → Shared → Prop} {s : Shared} {g : Heap} {Q : Value → Shared → Prop} {hp : Addr} {ps₀ : List PP} {it : PP} {n : Nat} (a : Amb w g) (l : Le g s.heap) (r : Room 8 A)
    (hh : s.heap.get? hp = some (listOf (ps₀.map (·.1)).toArray n)) (hout : g.get? hp = none) (hr : ∀ q ∈ ps₀, Rd g q.1 (dW q.2)) (hit : Rd g it.1 (dW it.2)) (hlen : ps₀.length ≤ 900)
    (hQ : ∀ h' tk n', (∀ b o, b ≠ hp → s.heap.get? b = some o → h'.get? b = some o) → h'.get? hp = some (listOf ((sd ps₀.length (ps₀ ++ [it])).map (·.1)).toArray n') → Q .none { s with heap := h', toks := tk }) :
    wpAny (model Challenge.rw_ny0132_01.row.prog w) A (call (.ref 28) [.ref hp, it.1]) Q E s := by
  have l' : Le g (s.heap.hide hp) := fun b o e => (Heap.hide_ne s.heap (fun q : b = hp => by rw [q, hout] at e; cases e)).trans (l b o e)
  have lh : ∀ b o, b ≠ hp → s.heap.get? b = some o → (s.heap.hide hp).get? b = some o := fun b o q e => (Heap.hide_ne s.heap q).trans e
  have a' := a.le l'
  obtain ⟨X, mean, mg, mb, T⟩ := a.le l'
  revert X; k_fill; intro X
  have hself := Heap.hide_self s.heap hp
  refine weaken r ?_
  refine enter (binds := [(Str.ofString "heap", .ref hp), (Str.ofString "item", it.1)]) X T.nolimit (fun b o e => Heap.of_hide e) (Nat.le_of_eq (Heap.hide_size _ _)) (by k_is) (by k_is) (by show 348 < recursionLimit; decide) (BindsTo.of_eq rfl) (locs rfl) (fun h₁ F L₁ => ?_) (by decide) rfl rfl rfl
  have N : News (s.heap.hide hp) s.heap.objs.size h₁ [(hp, listOf (ps₀.map (·.1)).toArray n)] := fun q hq => by
    rw [List.mem_singleton.mp hq]
    exact ⟨L₁ _ _ hh, Nat.ne_of_lt (Heap.lt_size hh), Heap.hide_self _ _⟩
  show wpAny _ _ _ _ _ _
  generalize s.heap.hide hp = g' at *
  k_fold
  (repeat' (first | (k_unfold; (try dsimp only)) | ((((fail_if_success (with_reducible show wpAny _ _ (exec (Stmt.While _ _ _ _) _) _ _ _)); (fail_if_success (with_reducible show wpAny _ _ (exec (Stmt.For _ _ _ _ _) _) _ _ _)); (fail_if_success (with_reducible show wpAny _ _ (call (Value.ref _) _ _) _ _ _)); (fail_if_success (with_reducible show wpAny _ _ (eval (Expr.ListComp _ _ _ _) _) _ _ _)))); (first | ((with_reducible show wpAny _ _ (storeName (envOf _ _ _ _ _) _ _) _ _ _); k_here; (with_reducible show wpAny _ _ (storeName (envOf _ _ _ _ _) _ _) _ _ _); k_dflt (refine' stG ?k1 ?k2 ?k3 ?k4 ?_; (case k1 => k_asm); (case k2 => k_asm); (case k3 => exact rfl); (case k4 => exact rfl); k_whole); intro sgH sgT sgM sgE sgD sgF sgN; (try k_sweep)) | (k_here; (with_reducible show wpAny _ _ (eval (Expr.Name _ _) (envOf _ _ _ _ _)) _ _ _); (with_reducible rename Fr _ _ _ _ => kF); k_dflt (refine' ld kF ?k2 ?_; (case k2 => ((repeat' (first | (with_reducible assumption) | exact if_pos rfl | refine Eq.trans (if_neg (by decide)) ?_ | (refine Eq.trans (stG_at (by with_reducible assumption) (by decide)) ?_) | exact rfl)); done)); k_whole)) | walk1)) | ((((fail_if_success (with_reducible show wpAny _ _ (exec (Stmt.While _ _ _ _) _) _ _ _)); (fail_if_success (with_reducible show wpAny _ _ (exec (Stmt.For _ _ _ _ _) _) _ _ _)); (fail_if_success (with_reducible show wpAny _ _ (call (Value.ref _) _ _) _ _ _)); (fail_if_success (with_reducible show wpAny _ _ (eval (Expr.ListComp _ _ _ _) _) _ _ _)))); dsimp only; (((fail_if_success (with_reducible show wpAny _ _ (exec (Stmt.While _ _ _ _) _) _ _ _)); (fail_if_success (with_reducible show wpAny _ _ (exec (Stmt.For _ _ _ _ _) _) _ _ _)); (fail_if_success (with_reducible show wpAny _ _ (call (Value.ref _) _ _) _ _ _)); (fail_if_success (with_reducible show wpAny _ _ (eval (Expr.ListComp _ _ _ _) _) _ _ _)))); (first | ((with_reducible show wpAny _ _ (storeName (envOf _ _ _ _ _) _ _) _ _ _); k_here; (with_reducible show wpAny _ _ (storeName (envOf _ _ _ _ _) _ _) _ _ _); k_dflt (refine' stG ?k1 ?k2 ?k3 ?k4 ?_; (case k1 => k_asm); (case k2 => k_asm); (case k3 => exact rfl); (case k4 => exact rfl); k_whole); intro sgH sgT sgM sgE sgD sgF sgN; (try k_sweep)) | (k_here; (with_reducible show wpAny _ _ (eval (Expr.Name _ _) (envOf _ _ _ _ _)) _ _ _); (with_reducible rename Fr _ _ _ _ => kF); k_dflt (refine' ld kF ?k2 ?_; (case k2 => ((repeat' (first | (with_reducible assumption) | exact if_pos rfl | refine Eq.trans (if_neg (by decide)) ?_ | (refine Eq.trans (stG_at (by with_reducible assumption) (by decide)) ?_) | exact rfl)); done)); k_whole)) | walk1)) | fail "no step"))
  rename Fr _ _ _ _ => F2
  rename News _ _ _ _ => N2
  refine len_L N2 (by k_mem) (by simp; omega) (fun u => ?_)
  (repeat' (first | (k_unfold; (try dsimp only)) | ((((fail_if_success (with_reducible show wpAny _ _ (exec (Stmt.While _ _ _ _) _) _ _ _)); (fail_if_success (with_reducible show wpAny _ _ (exec (Stmt.For _ _ _ _ _) _) _ _ _)); (fail_if_success (with_reducible show wpAny _ _ (call (Value.ref _) _ _) _ _ _)); (fail_if_success (with_reducible show wpAny _ _ (eval (Expr.ListComp _ _ _ _) _) _ _ _)))); (first | ((with_reducible show wpAny _ _ (storeName (envOf _ _ _ _ _) _ _) _ _ _); k_here; (with_reducible show wpAny _ _ (storeName (envOf _ _ _ _ _) _ _) _ _ _); k_dflt (refine' stG ?k1 ?k2 ?k3 ?k4 ?_; (case k1 => k_asm); (case k2 => k_asm); (case k3 => exact rfl); (case k4 => exact rfl); k_whole); intro sgH sgT sgM sgE sgD sgF sgN; (try k_sweep)) | (k_here; (with_reducible show wpAny _ _ (eval (Expr.Name _ _) (envOf _ _ _ _ _)) _ _ _); (with_reducible rename Fr _ _ _ _ => kF); k_dflt (refine' ld kF ?k2 ?_; (case k2 => ((repeat' (first | (with_reducible assumption) | exact if_pos rfl | refine Eq.trans (if_neg (by decide)) ?_ | (refine Eq.trans (stG_at (by with_reducible assumption) (by decide)) ?_) | exact rfl)); done)); k_whole)) | walk1)) | ((((fail_if_success (with_reducible show wpAny _ _ (exec (Stmt.While _ _ _ _) _) _ _ _)); (fail_if_success (with_reducible show wpAny _ _ (exec (Stmt.For _ _ _ _ _) _) _ _ _)); (fail_if_success (with_reducible show wpAny _ _ (call (Value.ref _) _ _) _ _ _)); (fail_if_success (with_reducible show wpAny _ _ (eval (Expr.ListComp _ _ _ _) _) _ _ _)))); dsimp only; (((fail_if_success (with_reducible show wpAny _ _ (exec (Stmt.While _ _ _ _) _) _ _ _)); (fail_if_success (with_reducible show wpAny _ _ (exec (Stmt.For _ _ _ _ _) _) _ _ _)); (fail_if_success (with_reducible show wpAny _ _ (call (Value.ref _) _ _) _ _ _)); (fail_if_success (with_reducible show wpAny _ _ (eval (Expr.ListComp _ _ _ _) _) _ _ _)))); (first | ((with_reducible show wpAny _ _ (storeName (envOf _ _ _ _ _) _ _) _ _ _); k_here; (with_reducible show wpAny _ _ (storeName (envOf _ _ _ _ _) _ _) _ _ _); k_dflt (refine' stG ?k1 ?k2 ?k3 ?k4 ?_; (case k1 => k_asm); (case k2 => k_asm); (case k3 => exact rfl); (case k4 => exact rfl); k_whole); intro sgH sgT sgM sgE sgD sgF sgN; (try k_sweep)) | (k_here; (with_reducible show wpAny _ _ (eval (Expr.Name _ _) (envOf _ _ _ _ _)) _ _ _); (with_reducible rename Fr _ _ _ _ => kF); k_dflt (refine' ld kF ?k2 ?_; (case k2 => ((repeat' (first | (with_reducible assumption) | exact if_pos rfl | refine Eq.trans (if_neg (by decide)) ?_ | (refine Eq.trans (stG_at (by with_reducible assumption) (by decide)) ?_) | exact rfl)); done)); k_whole)) | walk1)) | fail "no step"))
  have e0 : (ps₀.map (·.1)) ++ [it.1] = (ps₀ ++ [it]).map (·.1) := by simp
  rw [e0] at N2
  refine siftdown_i (ps₀ := ps₀ ++ [it]) (p₀ := ps₀.length) a' F2.keep (Room.deeper _) (N2 _ (.head _)).1 hself (fun z hz => ?_) (by simp) (by simp) (by simp; omega) (fun h9 tk9 k9 e9 => ?_)
  · rcases List.mem_append.mp hz with hz | hz
    · exact (hr z hz).le l'
    · rw [List.mem_singleton.mp hz]; exact hit.le l'
  · (repeat' (first | (k_unfold; (try dsimp only)) | ((((fail_if_success (with_reducible show wpAny _ _ (exec (Stmt.While _ _ _ _) _) _ _ _)); (fail_if_success (with_reducible show wpAny _ _ (exec (Stmt.For _ _ _ _ _) _) _ _ _)); (fail_if_success (with_reducible show wpAny _ _ (call (Value.ref _) _ _) _ _ _)); (fail_if_success (with_reducible show wpAny _ _ (eval (Expr.ListComp _ _ _ _) _) _ _ _)))); (first | ((with_reducible show wpAny _ _ (storeName (envOf _ _ _ _ _) _ _) _ _ _); k_here; (with_reducible show wpAny _ _ (storeName (envOf _ _ _ _ _) _ _) _ _ _); k_dflt (refine' stG ?k1 ?k2 ?k3 ?k4 ?_; (case k1 => k_asm); (case k2 => k_asm); (case k3 => exact rfl); (case k4 => exact rfl); k_whole); intro sgH sgT sgM sgE sgD sgF sgN; (try k_sweep)) | (k_here; (with_reducible show wpAny _ _ (eval (Expr.Name _ _) (envOf _ _ _ _ _)) _ _ _); (with_reducible rename Fr _ _ _ _ => kF); k_dflt (refine' ld kF ?k2 ?_; (case k2 => ((repeat' (first | (with_reducible assumption) | exact if_pos rfl | refine Eq.trans (if_neg (by decide)) ?_ | (refine Eq.trans (stG_at (by with_reducible assumption) (by decide)) ?_) | exact rfl)); done)); k_whole)) | walk1)) | ((((fail_if_success (with_reducible show wpAny _ _ (exec (Stmt.While _ _ _ _) _) _ _ _)); (fail_if_success (with_reducible show wpAny _ _ (exec (Stmt.For _ _ _ _ _) _) _ _ _)); (fail_if_success (with_reducible show wpAny _ _ (call (Value.ref _) _ _) _ _ _)); (fail_if_success (with_reducible show wpAny _ _ (eval (Expr.ListComp _ _ _ _) _) _ _ _)))); dsimp only; (((fail_if_success (with_reducible show wpAny _ _ (exec (Stmt.While _ _ _ _) _) _ _ _)); (fail_if_success (with_reducible show wpAny _ _ (exec (Stmt.For _ _ _ _ _) _) _ _ _)); (fail_if_success (with_reducible show wpAny _ _ (call (Value.ref _) _ _) _ _ _)); (fail_if_success (with_reducible show wpAny _ _ (eval (Expr.ListComp _ _ _ _) _) _ _ _)))); (first | ((with_reducible show wpAny _ _ (storeName (envOf _ _ _ _ _) _ _) _ _ _); k_here; (with_reducible show wpAny _ _ (storeName (envOf _ _ _ _ _) _ _) _ _ _); k_dflt (refine' stG ?k1 ?k2 ?k3 ?k4 ?_; (case k1 => k_asm); (case k2 => k_asm); (case k3 => exact rfl); (case k4 => exact rfl); k_whole); intro sgH sgT sgM sgE sgD sgF sgN; (try k_sweep)) | (k_here; (with_reducible show wpAny _ _ (eval (Expr.Name _ _) (envOf _ _ _ _ _)) _ _ _); (with_reducible rename Fr _ _ _ _ => kF); k_dflt (refine' ld kF ?k2 ?_; (case k2 => ((repeat' (first | (with_reducible assumption) | exact if_pos rfl | refine Eq.trans (if_neg (by decide)) ?_ | (refine Eq.trans (stG_at (by with_reducible assumption) (by decide)) ?_) | exact rfl)); done)); k_whole)) | walk1)) | fail "no step"))
    exact hQ _ _ _ (fun b o q e => k9 b o q (F2.keep b o (lh b o q e))) e9
theorem heappop_c {w : World} {A : Around} {E : Value → Shared → Prop} {s : Shared} {g : Heap} {Q : Value → Shared → Prop} {hp : Addr} {qs : List PP} {z : PP} {n : Nat} (a : Amb w g) (l : Le g s.heap) (r : Room 7 A)
    (hh : s.heap.get? hp = some (listOf ((qs ++ [z]).map (·.1)).toArray n)) (hout : g.get? hp = none) (hr : ∀ q ∈ qs ++ [z], Rd g q.1 (dW q.2)) (hlen : qs.length ≤ 900)
    (hQ : ∀ h' tk n', (∀ b o, b ≠ hp → s.heap.get? b = some o → h'.get? b = some o) → h'.get? hp = some (listOf ((popP qs z).2.map (·.1)).toArray n') → Q (popP qs z).1.1 { s with heap := h', toks := tk }) :
    wpAny (model Challenge.rw_ny0132_01.row.prog w) A (call (.ref 35) [.ref hp]) Q E s := by
  have l' : Le g (s.heap.hide hp) := fun b o e => (Heap.hide_ne s.heap (fun q : b = hp => by rw [q, hout] at e; cases e)).trans (l b o e)
  have lh : ∀ b o, b ≠ hp → s.heap.get? b = some o → (s.heap.hide hp).get? b = some o := fun b o q e => (Heap.hide_ne s.heap q).trans e
  have a' := a.le l'
  obtain ⟨X, mean, mg, mb, T⟩ := a.le l'
  revert X; k_fill; intro X
  have hself := Heap.hide_self s.heap hp
  refine weaken r ?_
  refine enter (binds := [(Str.ofString "heap", .ref hp)]) X T.nolimit (fun b o e => Heap.of_hide e) (Nat.le_of_eq (Heap.hide_size _ _)) (by k_is) (by k_is) (by show 347 < recursionLimit; decide) (BindsTo.of_eq rfl) (locs rfl) (fun h₁ F L₁ => ?_) (by decide) rfl rfl rfl
  have N : News (s.heap.hide hp) s.heap.objs.size h₁ [(hp, listOf ((qs ++ [z]).map (·.1)).toArray n)] := fun q hq => by
    rw [List.mem_singleton.mp hq]
    exact ⟨L₁ _ _ hh, Nat.ne_of_lt (Heap.lt_size hh), Heap.hide_self _ _⟩
  show wpAny _ _ _ _ _ _
  generalize s.heap.hide hp = g' at *
  k_fold
  (repeat' (first | (k_unfold; (try dsimp only)) | ((((fail_if_success (with_reducible show wpAny _ _ (exec (Stmt.While _ _ _ _) _) _ _ _)); (fail_if_success (with_reducible show wpAny _ _ (exec (Stmt.For _ _ _ _ _) _) _ _ _)); (fail_if_success (with_reducible show wpAny _ _ (call (Value.ref _) _ _) _ _ _)); (fail_if_success (with_reducible show wpAny _ _ (eval (Expr.ListComp _ _ _ _) _) _ _ _)))); (first | ((with_reducible show wpAny _ _ (storeName (envOf _ _ _ _ _) _ _) _ _ _); k_here; (with_reducible show wpAny _ _ (storeName (envOf _ _ _ _ _) _ _) _ _ _); k_dflt (refine' stG ?k1 ?k2 ?k3 ?k4 ?_; (case k1 => k_asm); (case k2 => k_asm); (case k3 => exact rfl); (case k4 => exact rfl); k_whole); intro sgH sgT sgM sgE sgD sgF sgN; (try k_sweep)) | (k_here; (with_reducible show wpAny _ _ (eval (Expr.Name _ _) (envOf _ _ _ _ _)) _ _ _); (with_reducible rename Fr _ _ _ _ => kF); k_dflt (refine' ld kF ?k2 ?_; (case k2 => ((repeat' (first | (with_reducible assumption) | exact if_pos rfl | refine Eq.trans (if_neg (by decide)) ?_ | (refine Eq.trans (stG_at (by with_reducible assumption) (by decide)) ?_) | exact rfl)); done)); k_whole)) | walk1)) | ((((fail_if_success (with_reducible show wpAny _ _ (exec (Stmt.While _ _ _ _) _) _ _ _)); (fail_if_success (with_reducible show wpAny _ _ (exec (Stmt.For _ _ _ _ _) _) _ _ _)); (fail_if_success (with_reducible show wpAny _ _ (call (Value.ref _) _ _) _ _ _)); (fail_if_success (with_reducible show wpAny _ _ (eval (Expr.ListComp _ _ _ _) _) _ _ _)))); dsimp only; (((fail_if_success (with_reducible show wpAny _ _ (exec (Stmt.While _ _ _ _) _) _ _ _)); (fail_if_success (with_reducible show wpAny _ _ (exec (Stmt.For _ _ _ _ _) _) _ _ _)); (fail_if_success (with_reducible show wpAny _ _ (call (Value.ref _) _ _) _ _ _)); (fail_if_success (with_reducible show wpAny _ _ (eval (Expr.ListComp _ _ _ _) _) _ _ _)))); (first | ((with_reducible show wpAny _ _ (storeName (envOf _ _ _ _ _) _ _) _ _ _); k_here; (with_reducible show wpAny _ _ (storeName (envOf _ _ _ _ _) _ _) _ _ _); k_dflt (refine' stG ?k1 ?k2 ?k3 ?k4 ?_; (case k1 => k_asm); (case k2 => k_asm); (case k3 => exact rfl); (case k4 => exact rfl); k_whole); intro sgH sgT sgM sgE sgD sgF sgN; (try k_sweep)) | (k_here; (with_reducible show wpAny _ _ (eval (Expr.Name _ _) (envOf _ _ _ _ _)) _ _ _); (with_reducible rename Fr _ _ _ _ => kF); k_dflt (refine' ld kF ?k2 ?_; (case k2 => ((repeat' (first | (with_reducible assumption) | exact if_pos rfl | refine Eq.trans (if_neg (by decide)) ?_ | (refine Eq.trans (stG_at (by with_reducible assumption) (by decide)) ?_) | exact rfl)); done)); k_whole)) | walk1)) | fail "no step"))
  rename Fr _ _ _ _ => F2
  rename News _ _ _ _ => N2
  have e0 : kl_last ((qs ++ [z]).map (·.1)).toArray.toList = some (qs.map (·.1), z.1) := by
    have := kpa_last z.1 (qs.map (·.1)); simpa using this
  refine kl_pop F2 N2 e0 (.head (by simp)) (by simp; have := sizeLine_eq; omega) (fun h3 F3 N3 => ?_)
  clear F2 N2
  (repeat' (first | (k_unfold; (try dsimp only)) | ((((fail_if_success (with_reducible show wpAny _ _ (exec (Stmt.While _ _ _ _) _) _ _ _)); (fail_if_success (with_reducible show wpAny _ _ (exec (Stmt.For _ _ _ _ _) _) _ _ _)); (fail_if_success (with_reducible show wpAny _ _ (call (Value.ref _) _ _) _ _ _)); (fail_if_success (with_reducible show wpAny _ _ (eval (Expr.ListComp _ _ _ _) _) _ _ _)))); (first | ((with_reducible show wpAny _ _ (storeName (envOf _ _ _ _ _) _ _) _ _ _); k_here; (with_reducible show wpAny _ _ (storeName (envOf _ _ _ _ _) _ _) _ _ _); k_dflt (refine' stG ?k1 ?k2 ?k3 ?k4 ?_; (case k1 => k_asm); (case k2 => k_asm); (case k3 => exact rfl); (case k4 => exact rfl); k_whole); intro sgH sgT sgM sgE sgD sgF sgN; (try k_sweep)) | (k_here; (with_reducible show wpAny _ _ (eval (Expr.Name _ _) (envOf _ _ _ _ _)) _ _ _); (with_reducible rename Fr _ _ _ _ => kF); k_dflt (refine' ld kF ?k2 ?_; (case k2 => ((repeat' (first | (with_reducible assumption) | exact if_pos rfl | refine Eq.trans (if_neg (by decide)) ?_ | (refine Eq.trans (stG_at (by with_reducible assumption) (by decide)) ?_) | exact rfl)); done)); k_whole)) | walk1)) | ((((fail_if_success (with_reducible show wpAny _ _ (exec (Stmt.While _ _ _ _) _) _ _ _)); (fail_if_success (with_reducible show wpAny _ _ (exec (Stmt.For _ _ _ _ _) _) _ _ _)); (fail_if_success (with_reducible show wpAny _ _ (call (Value.ref _) _ _) _ _ _)); (fail_if_success (with_reducible show wpAny _ _ (eval (Expr.ListComp _ _ _ _) _) _ _ _)))); dsimp only; (((fail_if_success (with_reducible show wpAny _ _ (exec (Stmt.While _ _ _ _) _) _ _ _)); (fail_if_success (with_reducible show wpAny _ _ (exec (Stmt.For _ _ _ _ _) _) _ _ _)); (fail_if_success (with_reducible show wpAny _ _ (call (Value.ref _) _ _) _ _ _)); (fail_if_success (with_reducible show wpAny _ _ (eval (Expr.ListComp _ _ _ _) _) _ _ _)))); (first | ((with_reducible show wpAny _ _ (storeName (envOf _ _ _ _ _) _ _) _ _ _); k_here; (with_reducible show wpAny _ _ (storeName (envOf _ _ _ _ _) _ _) _ _ _); k_dflt (refine' stG ?k1 ?k2 ?k3 ?k4 ?_; (case k1 => k_asm); (case k2 => k_asm); (case k3 => exact rfl); (case k4 => exact rfl); k_whole); intro sgH sgT sgM sgE sgD sgF sgN; (try k_sweep)) | (k_here; (with_reducible show wpAny _ _ (eval (Expr.Name _ _) (envOf _ _ _ _ _)) _ _ _); (with_reducible rename Fr _ _ _ _ => kF); k_dflt (refine' ld kF ?k2 ?_; (case k2 => ((repeat' (first | (with_reducible assumption) | exact if_pos rfl | refine Eq.trans (if_neg (by decide)) ?_ | (refine Eq.trans (stG_at (by with_reducible assumption) (by decide)) ?_) | exact rfl)); done)); k_whole)) | walk1)) | fail "no step"))
  · rename Fr _ _ _ _ => F4
    rename News _ _ _ _ => N4
    rename (List.isEmpty _ = true) => hemp
    have hq : qs = [] := by simpa using hemp
    subst hq
    dsimp only
    exact hQ _ _ _ (fun b o q e => F4.keep b o (lh b o q e)) (N4 _ (.head _)).1
  · rename News _ _ _ _ => N4
    rename (List.isEmpty _ = false) => hemp
    have hpos : 0 < qs.length := by
      cases qs with
      | nil => simp at hemp
      | cons a b => simp
    obtain ⟨q0, hq0⟩ : ∃ q, qs[0]? = some q := ⟨qs[0], by simp⟩
    refine item_Li N4 (by k_mem) (by simp; omega) (k := 0) rfl (v := q0.1) (by simp [hq0]) ?_
    (repeat' (first | (k_unfold; (try dsimp only)) | ((((fail_if_success (with_reducible show wpAny _ _ (exec (Stmt.While _ _ _ _) _) _ _ _)); (fail_if_success (with_reducible show wpAny _ _ (exec (Stmt.For _ _ _ _ _) _) _ _ _)); (fail_if_success (with_reducible show wpAny _ _ (call (Value.ref _) _ _) _ _ _)); (fail_if_success (with_reducible show wpAny _ _ (eval (Expr.ListComp _ _ _ _) _) _ _ _)))); (first | ((with_reducible show wpAny _ _ (storeName (envOf _ _ _ _ _) _ _) _ _ _); k_here; (with_reducible show wpAny _ _ (storeName (envOf _ _ _ _ _) _ _) _ _ _); k_dflt (refine' stG ?k1 ?k2 ?k3 ?k4 ?_; (case k1 => k_asm); (case k2 => k_asm); (case k3 => exact rfl); (case k4 => exact rfl); k_whole); intro sgH sgT sgM sgE sgD sgF sgN; (try k_sweep)) | (k_here; (with_reducible show wpAny _ _ (eval (Expr.Name _ _) (envOf _ _ _ _ _)) _ _ _); (with_reducible rename Fr _ _ _ _ => kF); k_dflt (refine' ld kF ?k2 ?_; (case k2 => ((repeat' (first | (with_reducible assumption) | exact if_pos rfl | refine Eq.trans (if_neg (by decide)) ?_ | (refine Eq.trans (stG_at (by with_reducible assumption) (by decide)) ?_) | exact rfl)); done)); k_whole)) | walk1)) | ((((fail_if_success (with_reducible show wpAny _ _ (exec (Stmt.While _ _ _ _) _) _ _ _)); (fail_if_success (with_reducible show wpAny _ _ (exec (Stmt.For _ _ _ _ _) _) _ _ _)); (fail_if_success (with_reducible show wpAny _ _ (call (Value.ref _) _ _) _ _ _)); (fail_if_success (with_reducible show wpAny _ _ (eval (Expr.ListComp _ _ _ _) _) _ _ _)))); dsimp only; (((fail_if_success (with_reducible show wpAny _ _ (exec (Stmt.While _ _ _ _) _) _ _ _)); (fail_if_success (with_reducible show wpAny _ _ (exec (Stmt.For _ _ _ _ _) _) _ _ _)); (fail_if_success (with_reducible show wpAny _ _ (call (Value.ref _) _ _) _ _ _)); (fail_if_success (with_reducible show wpAny _ _ (eval (Expr.ListComp _ _ _ _) _) _ _ _)))); (first | ((with_reducible show wpAny _ _ (storeName (envOf _ _ _ _ _) _ _) _ _ _); k_here; (with_reducible show wpAny _ _ (storeName (envOf _ _ _ _ _) _ _) _ _ _); k_dflt (refine' stG ?k1 ?k2 ?k3 ?k4 ?_; (case k1 => k_asm); (case k2 => k_asm); (case k3 => exact rfl); (case k4 => exact rfl); k_whole); intro sgH sgT sgM sgE sgD sgF sgN; (try k_sweep)) | (k_here; (with_reducible show wpAny _ _ (eval (Expr.Name _ _) (envOf _ _ _ _ _)) _ _ _); (with_reducible rename Fr _ _ _ _ => kF); k_dflt (refine' ld kF ?k2 ?_; (case k2 => ((repeat' (first | (with_reducible assumption) | exact if_pos rfl | refine Eq.trans (if_neg (by decide)) ?_ | (refine Eq.trans (stG_at (by with_reducible assumption) (by decide)) ?_) | exact rfl)); done)); k_whole)) | walk1)) | fail "no step"))
    rename Fr _ _ _ _ => F5
    rename News _ _ _ _ => N5
    refine set_Li (k := 0) F5 N5 rfl (.head (by simp)) (by simpa using hpos) (by simp; omega) (fun h6 F6 N6 => ?_)
    clear F5 N5
    rw [← List.map_set] at N6
    (repeat' (first | (k_unfold; (try dsimp only)) | ((((fail_if_success (with_reducible show wpAny _ _ (exec (Stmt.While _ _ _ _) _) _ _ _)); (fail_if_success (with_reducible show wpAny _ _ (exec (Stmt.For _ _ _ _ _) _) _ _ _)); (fail_if_success (with_reducible show wpAny _ _ (call (Value.ref _) _ _) _ _ _)); (fail_if_success (with_reducible show wpAny _ _ (eval (Expr.ListComp _ _ _ _) _) _ _ _)))); (first | ((with_reducible show wpAny _ _ (storeName (envOf _ _ _ _ _) _ _) _ _ _); k_here; (with_reducible show wpAny _ _ (storeName (envOf _ _ _ _ _) _ _) _ _ _); k_dflt (refine' stG ?k1 ?k2 ?k3 ?k4 ?_; (case k1 => k_asm); (case k2 => k_asm); (case k3 => exact rfl); (case k4 => exact rfl); k_whole); intro sgH sgT sgM sgE sgD sgF sgN; (try k_sweep)) | (k_here; (with_reducible show wpAny _ _ (eval (Expr.Name _ _) (envOf _ _ _ _ _)) _ _ _); (with_reducible rename Fr _ _ _ _ => kF); k_dflt (refine' ld kF ?k2 ?_; (case k2 => ((repeat' (first | (with_reducible assumption) | exact if_pos rfl | refine Eq.trans (if_neg (by decide)) ?_ | (refine Eq.trans (stG_at (by with_reducible assumption) (by decide)) ?_) | exact rfl)); done)); k_whole)) | walk1)) | ((((fail_if_success (with_reducible show wpAny _ _ (exec (Stmt.While _ _ _ _) _) _ _ _)); (fail_if_success (with_reducible show wpAny _ _ (exec (Stmt.For _ _ _ _ _) _) _ _ _)); (fail_if_success (with_reducible show wpAny _ _ (call (Value.ref _) _ _) _ _ _)); (fail_if_success (with_reducible show wpAny _ _ (eval (Expr.ListComp _ _ _ _) _) _ _ _)))); dsimp only; (((fail_if_success (with_reducible show wpAny _ _ (exec (Stmt.While _ _ _ _) _) _ _ _)); (fail_if_success (with_reducible show wpAny _ _ (exec (Stmt.For _ _ _ _ _) _) _ _ _)); (fail_if_success (with_reducible show wpAny _ _ (call (Value.ref _) _ _) _ _ _)); (fail_if_success (with_reducible show wpAny _ _ (eval (Expr.ListComp _ _ _ _) _) _ _ _)))); (first | ((with_reducible show wpAny _ _ (storeName (envOf _ _ _ _ _) _ _) _ _ _); k_here; (with_reducible show wpAny _ _ (storeName (envOf _ _ _ _ _) _ _) _ _ _); k_dflt (refine' stG ?k1 ?k2 ?k3 ?k4 ?_; (case k1 => k_asm); (case k2 => k_asm); (case k3 => exact rfl); (case k4 => exact rfl); k_whole); intro sgH sgT sgM sgE sgD sgF sgN; (try k_sweep)) | (k_here; (with_reducible show wpAny _ _ (eval (Expr.Name _ _) (envOf _ _ _ _ _)) _ _ _); (with_reducible rename Fr _ _ _ _ => kF); k_dflt (refine' ld kF ?k2 ?_; (case k2 => ((repeat' (first | (with_reducible assumption) | exact if_pos rfl | refine Eq.trans (if_neg (by decide)) ?_ | (refine Eq.trans (stG_at (by with_reducible assumption) (by decide)) ?_) | exact rfl)); done)); k_whole)) | walk1)) | fail "no step"))
    rename Fr _ _ _ _ => F6
    refine siftup_c (ps₀ := qs.set 0 z) a' F6.keep (Room.deeper _) (N6 _ (.head _)).1 hself (fun x hx => ?_) (by simpa using hpos) (by simp; omega) (fun h9 tk9 k9 e9 => ?_)
    · rcases List.mem_or_eq_of_mem_set hx with hx | rfl
      · exact (hr x (List.mem_append_left _ hx)).le l'
      · exact (hr x (List.mem_append_right _ (.head _))).le l'
    · have F9 : Fr g' s.heap.objs.size h9 _ := LCg.fr_but F6 (fun b o hb e => k9 b o (by simpa using hb) e) (Ne.symm (N6 _ (.head _)).2.1) hself
      have hp0 : popP qs z = (q0, su (qs.set 0 z)) := by unfold popP; rw [hq0]
      rw [hp0] at hQ
      (repeat' (first | (k_unfold; (try dsimp only)) | ((((fail_if_success (with_reducible show wpAny _ _ (exec (Stmt.While _ _ _ _) _) _ _ _)); (fail_if_success (with_reducible show wpAny _ _ (exec (Stmt.For _ _ _ _ _) _) _ _ _)); (fail_if_success (with_reducible show wpAny _ _ (call (Value.ref _) _ _) _ _ _)); (fail_if_success (with_reducible show wpAny _ _ (eval (Expr.ListComp _ _ _ _) _) _ _ _)))); (first | ((with_reducible show wpAny _ _ (storeName (envOf _ _ _ _ _) _ _) _ _ _); k_here; (with_reducible show wpAny _ _ (storeName (envOf _ _ _ _ _) _ _) _ _ _); k_dflt (refine' stG ?k1 ?k2 ?k3 ?k4 ?_; (case k1 => k_asm); (case k2 => k_asm); (case k3 => exact rfl); (case k4 => exact rfl); k_whole); intro sgH sgT sgM sgE sgD sgF sgN; (try k_sweep)) | (k_here; (with_reducible show wpAny _ _ (eval (Expr.Name _ _) (envOf _ _ _ _ _)) _ _ _); (with_reducible rename Fr _ _ _ _ => kF); k_dflt (refine' ld kF ?k2 ?_; (case k2 => ((repeat' (first | (with_reducible assumption) | exact if_pos rfl | refine Eq.trans (if_neg (by decide)) ?_ | (refine Eq.trans (stG_at (by with_reducible assumption) (by decide)) ?_) | exact rfl)); done)); k_whole)) | walk1)) | ((((fail_if_success (with_reducible show wpAny _ _ (exec (Stmt.While _ _ _ _) _) _ _ _)); (fail_if_success (with_reducible show wpAny _ _ (exec (Stmt.For _ _ _ _ _) _) _ _ _)); (fail_if_success (with_reducible show wpAny _ _ (call (Value.ref _) _ _) _ _ _)); (fail_if_success (with_reducible show wpAny _ _ (eval (Expr.ListComp _ _ _ _) _) _ _ _)))); dsimp only; (((fail_if_success (with_reducible show wpAny _ _ (exec (Stmt.While _ _ _ _) _) _ _ _)); (fail_if_success (with_reducible show wpAny _ _ (exec (Stmt.For _ _ _ _ _) _) _ _ _)); (fail_if_success (with_reducible show wpAny _ _ (call (Value.ref _) _ _) _ _ _)); (fail_if_success (with_reducible show wpAny _ _ (eval (Expr.ListComp _ _ _ _) _) _ _ _)))); (first | ((with_reducible show wpAny _ _ (storeName (envOf _ _ _ _ _) _ _) _ _ _); k_here; (with_reducible show wpAny _ _ (storeName (envOf _ _ _ _ _) _ _) _ _ _); k_dflt (refine' stG ?k1 ?k2 ?k3 ?k4 ?_; (case k1 => k_asm); (case k2 => k_asm); (case k3 => exact rfl); (case k4 => exact rfl); k_whole); intro sgH sgT sgM sgE sgD sgF sgN; (try k_sweep)) | (k_here; (with_reducible show wpAny _ _ (eval (Expr.Name _ _) (envOf _ _ _ _ _)) _ _ _); (with_reducible rename Fr _ _ _ _ => kF); k_dflt (refine' ld kF ?k2 ?_; (case k2 => ((repeat' (first | (with_reducible assumption) | exact if_pos rfl | refine Eq.trans (if_neg (by decide)) ?_ | (refine Eq.trans (stG_at (by with_reducible assumption) (by decide)) ?_) | exact rfl)); done)); k_whole)) | walk1)) | fail "no step"))
      exact hQ _ _ _ (fun b o q e => k9 b o q (F6.keep b o (lh b o q e))) e9
end

section
open PySem PySem.W PyProof.Rows PySem.Calls PySem.SeqAt

noncomputable def pushP (hs : List PP) (it : PP) : List PP := sd hs.length (hs ++ [it])
noncomputable def popAll : Nat → List PP → List PP
  | 0, _ => []
  | k + 1, hs => match hs.getLast? with
    | some z => (popP hs.dropLast z).1 :: popAll k (popP hs.dropLast z).2
    | none => []
noncomputable def offP (ps : List PP) : List PP := popAll ps.length (ps.foldl pushP [])

theorem sdGo_props : ∀ (it : PP) (p : Nat) (ps : List PP), (sdGo it p ps).2.length = ps.length ∧ ∀ q ∈ (sdGo it p ps).2, q ∈ ps := by
  intro it p ps
  unfold sdGo
  generalize hn : sdF it p = f
  suffices ∀ n p ps, (sdF it n p ps).2.length = ps.length ∧ ∀ q ∈ (sdF it n p ps).2, q ∈ ps from hn ▸ this p p ps
  clear hn f p ps
  intro n
  induction n with
  | zero => exact fun p ps => ⟨rfl, fun _ z => z⟩
  | succ n ih =>
    intro p ps
    unfold sdF
    by_cases h : p = 0
    · rw [dif_pos h]; exact ⟨rfl, fun _ z => z⟩
    · rw [dif_neg h]
      cases hq : ps[(p - 1) / 2]? with
      | none => exact ⟨rfl, fun _ z => z⟩
      | some par =>
        by_cases hl : ltW it.2 par.2 = true
        · have ih := ih ((p - 1) / 2) (ps.set p par)
          simp only [hl, if_true]
          simp only [List.length_set] at ih
          refine ⟨ih.1, fun x hx => ?_⟩
          rcases List.mem_or_eq_of_mem_set (ih.2 x hx) with z | rfl
          · exact z
          · exact List.mem_of_getElem? hq
        · simp only [hl]
          exact ⟨rfl, fun _ z => z⟩
theorem sd_length (p : Nat) (ps : List PP) : (sd p ps).length = ps.length := by
  unfold sd; split
  · rw [List.length_set]; exact (sdGo_props _ _ _).1
  · rfl
theorem sd_mem {p : Nat} {ps : List PP} {q : PP} (h : q ∈ sd p ps) : q ∈ ps := by
  unfold sd at h; split at h
  · rename_i it hit
    rcases List.mem_or_eq_of_mem_set h with z | rfl
    · exact (sdGo_props _ _ _).2 q z
    · exact List.mem_of_getElem? hit
  · exact h
theorem su_length (ps : List PP) : (su ps).length = ps.length := by
  unfold su; split
  · rw [sd_length, List.length_set]; exact (suGo_props _ _).1
  · rfl
theorem su_mem {ps : List PP} {q : PP} (h : q ∈ su ps) : q ∈ ps := by
  unfold su at h; split at h
  · rename_i it hit
    rcases List.mem_or_eq_of_mem_set (sd_mem h) with z | rfl
    · exact (suGo_props _ _).2.2 q z
    · exact List.mem_of_getElem? hit
  · exact h
theorem pushP_length (hs : List PP) (it : PP) : (pushP hs it).length = hs.length + 1 := by unfold pushP; rw [sd_length]; simp
theorem pushP_mem {hs : List PP} {it q : PP} (h : q ∈ pushP hs it) : q ∈ hs ∨ q = it := by simpa using sd_mem h
theorem popP_length (qs : List PP) (z : PP) : (popP qs z).2.length = qs.length := by
  unfold popP; split
  · rw [su_length, List.length_set]
  · rename_i h
    have : qs.length = 0 := by simpa using h
    simp [this]
theorem popP_mem {qs : List PP} {z q : PP} (h : q = (popP qs z).1 ∨ q ∈ (popP qs z).2) : q ∈ qs ++ [z] := by
  unfold popP at h; split at h
  · rename_i q0 h0
    rcases h with rfl | h
    · exact List.mem_append_left _ (List.mem_of_getElem? h0)
    · rcases List.mem_or_eq_of_mem_set (su_mem h) with hz | rfl
      · exact List.mem_append_left _ hz
      · exact List.mem_append_right _ (.head _)
  · rcases h with rfl | h
    · exact List.mem_append_right _ (.head _)
    · cases h

theorem mut_upd {h₀ h h' : Heap} {L hp : Addr} {m : Str → Option Value} {news news' : List (Addr × Obj)} {o o' : Obj} (F : Fr h₀ L h m) (N : News h₀ L h news) (U : Upd hp o o' news news')
    (k : ∀ b x, b ≠ hp → h.get? b = some x → h'.get? b = some x) (e : h'.get? hp = some o') : Fr h₀ L h' m ∧ News h₀ L h' news' := by
  obtain ⟨pre, post, rfl, rfl, a, b⟩ := U.split
  have z := N (hp, o) (List.mem_append.mpr (.inr (.head _)))
  refine ⟨LCg.fr_but F (fun b o hb e => k b o (by simpa using hb) e) (Ne.symm z.2.1) z.2.2, fun p hp' => ?_⟩
  rcases List.mem_append.mp hp' with q | q
  · exact ⟨k _ _ (a p q) (N p (List.mem_append_left _ q)).1, (N p (List.mem_append_left _ q)).2⟩
  · rcases List.mem_cons.mp q with rfl | q
    · exact ⟨e, z.2⟩
    · exact ⟨k _ _ (b p q) (N p (List.mem_append_right _ (.tail _ q))).1, (N p (List.mem_append_right _ (.tail _ q))).2⟩

theorem canLay_dW (w : List Bool) : (dW w).canLay0 = true := by
  induction w with
  | nil => rfl
  | cons b r ih =>
    show (PyData.canLay0 (.str (tx b)) && PyData.canLayAll0 (r.map fun b => PyData.str (tx b))) = true
    rw [show PyData.canLay0 (.str (tx b)) = true from by cases b <;> decide +kernel]; exact ih
theorem canLay_dWs (ws : List (List Bool)) : (dWs ws).canLay0 = true := by
  induction ws with
  | nil => rfl
  | cons b r ih =>
    show (PyData.canLay0 (dW b) && PyData.canLayAll0 (r.map dW)) = true
    rw [canLay_dW]; exact ih
theorem readsAll_of {h : Heap} : ∀ {ps : List PP}, (∀ q ∈ ps, Rd h q.1 (dW q.2)) → ∃ as, ReadsAll h (ps.map (·.1)) ((ps.map (·.2)).map dW) as
  | [], _ => ⟨_, .nil⟩
  | p :: r, hr => by
    obtain ⟨as, ha⟩ := hr p (.head _)
    obtain ⟨bs, hb⟩ := readsAll_of (ps := r) fun q hq => hr q (.tail _ hq)
    exact ⟨_, .cons ha hb⟩
theorem Rd_list {h : Heap} {a : Addr} {ps : List PP} {n : Nat} (e : h.get? a = some (listOf (ps.map (·.1)).toArray n)) (hr : ∀ q ∈ ps, Rd h q.1 (dW q.2)) : Rd h (.ref a) (dWs (ps.map (·.2))) := by
  obtain ⟨as, ha⟩ := readsAll_of hr
  exact ⟨_, .list e rfl rfl (by simpa using ha)⟩
theorem Rd_nil {h : Heap} {a : Addr} {n : Nat} (e : h.get? a = some (listOf #[] n)) : Rd h (.ref a) (dWs []) := ⟨_, .list e rfl rfl .nil⟩
theorem depth_dWs (ws : List (List Bool)) : (dWs ws).depth ≤ 4 := by
  have hd : ∀ w : List Bool, (dW w).depth ≤ 2 := by
    intro w
    have : ∀ w : List Bool, PyData.depthAll (w.map fun b => PyData.str (tx b)) ≤ 1 := by
      intro w
      induction w with
      | nil => simp [PyData.depthAll]
      | cons b r ih => simp only [List.map_cons, PyData.depthAll, PyData.depth]; omega
    have := this w
    simp only [dW, PyData.depth]; omega
  have : ∀ ws : List (List Bool), PyData.depthAll (ws.map dW) ≤ 2 := by
    intro ws
    induction ws with
    | nil => simp [PyData.depthAll]
    | cons b r ih => have := hd b; simp only [List.map_cons, PyData.depthAll]; omega
  have := this ws
  simp only [dWs, PyData.depth]; omega
theorem ne_Ws {prog : Program} {w : World} {A : Around} {E : Value → Shared → Prop} {s : Shared} {a b : Value} {x y : List (List Bool)} {Q : Value → Shared → Prop} (ra : Rd s.heap a (dWs x)) (rb : Rd s.heap b (dWs y)) (hu : A.units + 5 < cLine) (h : Q (.bool (!PyData.eqv (dWs x) (dWs y))) s) :
    wpAny (model prog w) A (compareOp .NotEq a b) Q E s := by
  obtain ⟨as, ra⟩ := ra
  obtain ⟨bs, rb⟩ := rb
  exact compareNe_reads ra rb (canLay_dWs x) (canLay_dWs y) (by have := depth_dWs x; omega) h

theorem off_c {w : World} {A : Around} {E : Value → Shared → Prop} {s : Shared} {g : Heap} {Q : Value → Shared → Prop} {l : Addr} {ps₀ : List PP} (a : Amb w g) (lg : Le g s.heap) (r : Room 6 A)
    (hl : g.IsList l (ps₀.map (·.1)).toArray) (hr : ∀ q ∈ ps₀, Rd g q.1 (dW q.2)) (hlen : ps₀.length ≤ 800)
    (hQ : ∀ h' tk r n', Le s.heap h' → s.heap.get? r = none → h'.get? r = some (listOf ((offP ps₀).map (·.1)).toArray n') → Q (.ref r) { s with heap := h', toks := tk }) :
    wpAny (model Challenge.rw_ny0132_01.row.prog w) A (call (.ref 183) [.ref l]) Q E s := by
  have a' := a.le lg
  obtain ⟨X, mean, mg, mb, T⟩ := a'
  revert X; k_fill; intro X
  have a' := a.le lg
  have hr' : ∀ q ∈ ps₀, Rd s.heap q.1 (dW q.2) := fun q hq => (hr q hq).le lg
  have hl' : s.heap.IsList l (ps₀.map (·.1)).toArray := hl.at fun o e => lg _ o e
  refine weaken r ?_
  refine enter (binds := [(Str.ofString "items", .ref l)]) X T.nolimit (Le.refl _) (Nat.le_refl _) (by k_is) (by k_is) (by show 346 < recursionLimit; decide) (BindsTo.of_eq rfl) (locs rfl) (fun h₁ F L₁ => ?_) (by decide) rfl rfl rfl
  have N : News s.heap s.heap.objs.size h₁ [] := News.nil
  show wpAny _ _ _ _ _ _
  generalize hL : s.heap.objs.size = L at *
  k_fold
  (repeat' (first | (k_unfold; (try dsimp only)) | ((((fail_if_success (with_reducible show wpAny _ _ (exec (Stmt.While _ _ _ _) _) _ _ _)); (fail_if_success (with_reducible show wpAny _ _ (exec (Stmt.For _ _ _ _ _) _) _ _ _)); (fail_if_success (with_reducible show wpAny _ _ (call (Value.ref _) _ _) _ _ _)); (fail_if_success (with_reducible show wpAny _ _ (eval (Expr.ListComp _ _ _ _) _) _ _ _)))); (first | (k_here; (with_reducible show wpAny _ _ (eval (Expr.Name _ _) (envOf _ _ _ _ _)) _ _ _); (with_reducible rename Fr _ _ _ _ => kF); k_dflt (refine' ld kF ?k2 ?_; (case k2 => ((repeat' (first | (with_reducible assumption) | exact if_pos rfl | refine Eq.trans (if_neg (by decide)) ?_ | exact rfl)); done)); k_whole)) | ((with_reducible show wpAny _ _ (binaryOp Operator.Add (Value.ref _) (Value.ref _)) _ _ _); k_here; k_dflt (refine' add_L ?k1 ?k2 ?k3 ?k4 ?z ?_; (case k1 => k_asm); (case k2 => k_asm); (case k3 => is_list); (case k4 => is_list); (case z => first | size_fits | ((try simp only [List.length_map, List.length_cons, List.length_nil, List.length_append]); rw [sizeLine_eq]; omega)); k_whole); intro l' h' F' N' l1; (try k_lt l1); (try k_sweep)) | walk1)) | ((((fail_if_success (with_reducible show wpAny _ _ (exec (Stmt.While _ _ _ _) _) _ _ _)); (fail_if_success (with_reducible show wpAny _ _ (exec (Stmt.For _ _ _ _ _) _) _ _ _)); (fail_if_success (with_reducible show wpAny _ _ (call (Value.ref _) _ _) _ _ _)); (fail_if_success (with_reducible show wpAny _ _ (eval (Expr.ListComp _ _ _ _) _) _ _ _)))); dsimp only; (((fail_if_success (with_reducible show wpAny _ _ (exec (Stmt.While _ _ _ _) _) _ _ _)); (fail_if_success (with_reducible show wpAny _ _ (exec (Stmt.For _ _ _ _ _) _) _ _ _)); (fail_if_success (with_reducible show wpAny _ _ (call (Value.ref _) _ _) _ _ _)); (fail_if_success (with_reducible show wpAny _ _ (eval (Expr.ListComp _ _ _ _) _) _ _ _)))); (first | (k_here; (with_reducible show wpAny _ _ (eval (Expr.Name _ _) (envOf _ _ _ _ _)) _ _ _); (with_reducible rename Fr _ _ _ _ => kF); k_dflt (refine' ld kF ?k2 ?_; (case k2 => ((repeat' (first | (with_reducible assumption) | exact if_pos rfl | refine Eq.trans (if_neg (by decide)) ?_ | exact rfl)); done)); k_whole)) | ((with_reducible show wpAny _ _ (binaryOp Operator.Add (Value.ref _) (Value.ref _)) _ _ _); k_here; k_dflt (refine' add_L ?k1 ?k2 ?k3 ?k4 ?z ?_; (case k1 => k_asm); (case k2 => k_asm); (case k3 => is_list); (case k4 => is_list); (case z => first | size_fits | ((try simp only [List.length_map, List.length_cons, List.length_nil, List.length_append]); rw [sizeLine_eq]; omega)); k_whole); intro l' h' F' N' l1; (try k_lt l1); (try k_sweep)) | walk1)) | fail "no step"))
  rename Fr _ _ _ _ => F1
  rename News _ _ _ _ => N1
  obtain ⟨hp, of, N2, F2, hne⟩ : ∃ hp of, News s.heap L _ [(hp, listOf #[] 0), (of, listOf #[] 0)] ∧ Fr s.heap L _ (fun y => if y = Str.ofString "heap" then some (.ref hp) else if y = Str.ofString "off" then some (.ref of) else List.lookup y [(Str.ofString "items", Value.ref l)].reverse) ∧ hp ≠ of :=
    ⟨_, _, fun p hp => N1 p (by rcases List.mem_cons.mp hp with rfl | hp; exact .tail _ (.tail _ (.head _)); rw [List.mem_singleton.mp hp]; exact .tail _ (.head _)), F1, by refine neN ?_; omega⟩
  clear F1 N1
  have key : ∀ i, i ≤ ps₀.length → ((ps₀.take i).foldl pushP []).length = i ∧ ∀ q ∈ (ps₀.take i).foldl pushP [], q ∈ ps₀ := by
    intro i
    induction i with
    | zero => intro _; simp
    | succ i ih =>
      intro hi
      have := ih (by omega)
      rw [List.take_succ_eq_append_getElem (by omega), List.foldl_append]
      refine ⟨?_, fun q hq => ?_⟩
      · simp only [List.foldl_cons, List.foldl_nil, pushP_length, this.1]
      · rcases pushP_mem hq with hq | rfl
        · exact this.2 q hq
        · exact List.getElem_mem _
  refine for_rule F2 N2 rfl rfl rfl rfl (fun Q' h => ld F2 (by ((repeat' (first | (with_reducible assumption) | exact if_pos rfl | refine Eq.trans (if_neg (by decide)) ?_ | exact rfl)); done)) h) hl' (fun i m news => ∃ n, m (Str.ofString "heap") = some (.ref hp) ∧ m (Str.ofString "off") = some (.ref of) ∧ news = [(hp, listOf (((ps₀.take i).foldl pushP []).map (·.1)).toArray n), (of, listOf #[] 0)])
    ⟨0, by ((repeat' (first | (with_reducible assumption) | exact if_pos rfl | refine Eq.trans (if_neg (by decide)) ?_ | exact rfl)); done), by ((repeat' (first | (with_reducible assumption) | exact if_pos rfl | refine Eq.trans (if_neg (by decide)) ?_ | exact rfl)); done), rfl⟩ (fun i v I oI m₁ news₁ h₁ tk₁ hv hJ F3 N3 hoff => ?_) (fun h4 tk4 m4 news4 F4 N4 hJ => ?_)
  · obtain ⟨n, m1, m2, rfl⟩ := hJ
    have hi : i < ps₀.length := by
      rcases Nat.lt_or_ge i ps₀.length with q | q
      · exact q
      · rw [Array.getElem?_eq_none (by simpa using q)] at hv; cases hv
    obtain rfl : v = (ps₀[i]).1 := by simpa [hi] using hv.symm
    clear F2 N2
    (repeat' (first | (k_unfold; (try dsimp only)) | ((((fail_if_success (with_reducible show wpAny _ _ (exec (Stmt.While _ _ _ _) _) _ _ _)); (fail_if_success (with_reducible show wpAny _ _ (exec (Stmt.For _ _ _ _ _) _) _ _ _)); (fail_if_success (with_reducible show wpAny _ _ (call (Value.ref _) _ _) _ _ _)); (fail_if_success (with_reducible show wpAny _ _ (eval (Expr.ListComp _ _ _ _) _) _ _ _)))); (first | (k_here; (with_reducible show wpAny _ _ (eval (Expr.Name _ _) (envOf _ _ _ _ _)) _ _ _); (with_reducible rename Fr _ _ _ _ => kF); k_dflt (refine' ld kF ?k2 ?_; (case k2 => ((repeat' (first | (with_reducible assumption) | exact if_pos rfl | refine Eq.trans (if_neg (by decide)) ?_ | exact rfl)); done)); k_whole)) | ((with_reducible show wpAny _ _ (binaryOp Operator.Add (Value.ref _) (Value.ref _)) _ _ _); k_here; k_dflt (refine' add_L ?k1 ?k2 ?k3 ?k4 ?z ?_; (case k1 => k_asm); (case k2 => k_asm); (case k3 => is_list); (case k4 => is_list); (case z => first | size_fits | ((try simp only [List.length_map, List.length_cons, List.length_nil, List.length_append]); rw [sizeLine_eq]; omega)); k_whole); intro l' h' F' N' l1; (try k_lt l1); (try k_sweep)) | walk1)) | ((((fail_if_success (with_reducible show wpAny _ _ (exec (Stmt.While _ _ _ _) _) _ _ _)); (fail_if_success (with_reducible show wpAny _ _ (exec (Stmt.For _ _ _ _ _) _) _ _ _)); (fail_if_success (with_reducible show wpAny _ _ (call (Value.ref _) _ _) _ _ _)); (fail_if_success (with_reducible show wpAny _ _ (eval (Expr.ListComp _ _ _ _) _) _ _ _)))); dsimp only; (((fail_if_success (with_reducible show wpAny _ _ (exec (Stmt.While _ _ _ _) _) _ _ _)); (fail_if_success (with_reducible show wpAny _ _ (exec (Stmt.For _ _ _ _ _) _) _ _ _)); (fail_if_success (with_reducible show wpAny _ _ (call (Value.ref _) _ _) _ _ _)); (fail_if_success (with_reducible show wpAny _ _ (eval (Expr.ListComp _ _ _ _) _) _ _ _)))); (first | (k_here; (with_reducible show wpAny _ _ (eval (Expr.Name _ _) (envOf _ _ _ _ _)) _ _ _); (with_reducible rename Fr _ _ _ _ => kF); k_dflt (refine' ld kF ?k2 ?_; (case k2 => ((repeat' (first | (with_reducible assumption) | exact if_pos rfl | refine Eq.trans (if_neg (by decide)) ?_ | exact rfl)); done)); k_whole)) | ((with_reducible show wpAny _ _ (binaryOp Operator.Add (Value.ref _) (Value.ref _)) _ _ _); k_here; k_dflt (refine' add_L ?k1 ?k2 ?k3 ?k4 ?z ?_; (case k1 => k_asm); (case k2 => k_asm); (case k3 => is_list); (case k4 => is_list); (case z => first | size_fits | ((try simp only [List.length_map, List.length_cons, List.length_nil, List.length_append]); rw [sizeLine_eq]; omega)); k_whole); intro l' h' F' N' l1; (try k_lt l1); (try k_sweep)) | walk1)) | fail "no step"))
    rename Fr _ _ _ _ => F5
    have hI := hoff _ (.head _)
    refine heappush_c (it := ps₀[i]) a' F5.keep ((Room.deeper _).le (by omega)) (N3 _ (.tail _ (.head _))).1 (N3 _ (.tail _ (.head _))).2.2 (fun q hq => hr' q ((key i (by omega)).2 q hq)) (hr' _ (List.getElem_mem _)) (by rw [(key i (by omega)).1]; omega) (fun h9 tk9 n9 k9 e9 => ?_)
    obtain ⟨F6, N6⟩ := mut_upd F5 N3 (.tail (Ne.symm hI) (.head (by simpa using Ne.symm hne))) k9 e9
    clear F5 N3
    (repeat' (first | (k_unfold; (try dsimp only)) | ((((fail_if_success (with_reducible show wpAny _ _ (exec (Stmt.While _ _ _ _) _) _ _ _)); (fail_if_success (with_reducible show wpAny _ _ (exec (Stmt.For _ _ _ _ _) _) _ _ _)); (fail_if_success (with_reducible show wpAny _ _ (call (Value.ref _) _ _) _ _ _)); (fail_if_success (with_reducible show wpAny _ _ (eval (Expr.ListComp _ _ _ _) _) _ _ _)))); (first | (k_here; (with_reducible show wpAny _ _ (eval (Expr.Name _ _) (envOf _ _ _ _ _)) _ _ _); (with_reducible rename Fr _ _ _ _ => kF); k_dflt (refine' ld kF ?k2 ?_; (case k2 => ((repeat' (first | (with_reducible assumption) | exact if_pos rfl | refine Eq.trans (if_neg (by decide)) ?_ | exact rfl)); done)); k_whole)) | ((with_reducible show wpAny _ _ (binaryOp Operator.Add (Value.ref _) (Value.ref _)) _ _ _); k_here; k_dflt (refine' add_L ?k1 ?k2 ?k3 ?k4 ?z ?_; (case k1 => k_asm); (case k2 => k_asm); (case k3 => is_list); (case k4 => is_list); (case z => first | size_fits | ((try simp only [List.length_map, List.length_cons, List.length_nil, List.length_append]); rw [sizeLine_eq]; omega)); k_whole); intro l' h' F' N' l1; (try k_lt l1); (try k_sweep)) | walk1)) | ((((fail_if_success (with_reducible show wpAny _ _ (exec (Stmt.While _ _ _ _) _) _ _ _)); (fail_if_success (with_reducible show wpAny _ _ (exec (Stmt.For _ _ _ _ _) _) _ _ _)); (fail_if_success (with_reducible show wpAny _ _ (call (Value.ref _) _ _) _ _ _)); (fail_if_success (with_reducible show wpAny _ _ (eval (Expr.ListComp _ _ _ _) _) _ _ _)))); dsimp only; (((fail_if_success (with_reducible show wpAny _ _ (exec (Stmt.While _ _ _ _) _) _ _ _)); (fail_if_success (with_reducible show wpAny _ _ (exec (Stmt.For _ _ _ _ _) _) _ _ _)); (fail_if_success (with_reducible show wpAny _ _ (call (Value.ref _) _ _) _ _ _)); (fail_if_success (with_reducible show wpAny _ _ (eval (Expr.ListComp _ _ _ _) _) _ _ _)))); (first | (k_here; (with_reducible show wpAny _ _ (eval (Expr.Name _ _) (envOf _ _ _ _ _)) _ _ _); (with_reducible rename Fr _ _ _ _ => kF); k_dflt (refine' ld kF ?k2 ?_; (case k2 => ((repeat' (first | (with_reducible assumption) | exact if_pos rfl | refine Eq.trans (if_neg (by decide)) ?_ | exact rfl)); done)); k_whole)) | ((with_reducible show wpAny _ _ (binaryOp Operator.Add (Value.ref _) (Value.ref _)) _ _ _); k_here; k_dflt (refine' add_L ?k1 ?k2 ?k3 ?k4 ?z ?_; (case k1 => k_asm); (case k2 => k_asm); (case k3 => is_list); (case k4 => is_list); (case z => first | size_fits | ((try simp only [List.length_map, List.length_cons, List.length_nil, List.length_append]); rw [sizeLine_eq]; omega)); k_whole); intro l' h' F' N' l1; (try k_lt l1); (try k_sweep)) | walk1)) | fail "no step"))
    refine ⟨h9, _, _, _, rfl, F6, N6, ?_, n9, by ((repeat' (first | (with_reducible assumption) | exact if_pos rfl | refine Eq.trans (if_neg (by decide)) ?_ | exact rfl)); done), by ((repeat' (first | (with_reducible assumption) | exact if_pos rfl | refine Eq.trans (if_neg (by decide)) ?_ | exact rfl)); done), ?_⟩
    · intro p hp'
      rcases List.mem_cons.mp hp' with rfl | hp'
      · exact hI
      · rw [List.mem_singleton.mp hp']; exact hoff _ (.tail _ (.head _))
    · rw [List.take_succ_eq_append_getElem hi, List.foldl_append]; rfl
  · obtain ⟨n, m1, m2, rfl⟩ := hJ
    have e0 : ps₀.take (ps₀.map (·.1)).toArray.size = ps₀ := by simp
    rw [e0] at N4
    clear F2 N2
    (repeat' (first | (k_unfold; (try dsimp only)) | ((((fail_if_success (with_reducible show wpAny _ _ (exec (Stmt.While _ _ _ _) _) _ _ _)); (fail_if_success (with_reducible show wpAny _ _ (exec (Stmt.For _ _ _ _ _) _) _ _ _)); (fail_if_success (with_reducible show wpAny _ _ (call (Value.ref _) _ _) _ _ _)); (fail_if_success (with_reducible show wpAny _ _ (eval (Expr.ListComp _ _ _ _) _) _ _ _)))); (first | (k_here; (with_reducible show wpAny _ _ (eval (Expr.Name _ _) (envOf _ _ _ _ _)) _ _ _); (with_reducible rename Fr _ _ _ _ => kF); k_dflt (refine' ld kF ?k2 ?_; (case k2 => ((repeat' (first | (with_reducible assumption) | exact if_pos rfl | refine Eq.trans (if_neg (by decide)) ?_ | exact rfl)); done)); k_whole)) | ((with_reducible show wpAny _ _ (binaryOp Operator.Add (Value.ref _) (Value.ref _)) _ _ _); k_here; k_dflt (refine' add_L ?k1 ?k2 ?k3 ?k4 ?z ?_; (case k1 => k_asm); (case k2 => k_asm); (case k3 => is_list); (case k4 => is_list); (case z => first | size_fits | ((try simp only [List.length_map, List.length_cons, List.length_nil, List.length_append]); rw [sizeLine_eq]; omega)); k_whole); intro l' h' F' N' l1; (try k_lt l1); (try k_sweep)) | walk1)) | ((((fail_if_success (with_reducible show wpAny _ _ (exec (Stmt.While _ _ _ _) _) _ _ _)); (fail_if_success (with_reducible show wpAny _ _ (exec (Stmt.For _ _ _ _ _) _) _ _ _)); (fail_if_success (with_reducible show wpAny _ _ (call (Value.ref _) _ _) _ _ _)); (fail_if_success (with_reducible show wpAny _ _ (eval (Expr.ListComp _ _ _ _) _) _ _ _)))); dsimp only; (((fail_if_success (with_reducible show wpAny _ _ (exec (Stmt.While _ _ _ _) _) _ _ _)); (fail_if_success (with_reducible show wpAny _ _ (exec (Stmt.For _ _ _ _ _) _) _ _ _)); (fail_if_success (with_reducible show wpAny _ _ (call (Value.ref _) _ _) _ _ _)); (fail_if_success (with_reducible show wpAny _ _ (eval (Expr.ListComp _ _ _ _) _) _ _ _)))); (first | (k_here; (with_reducible show wpAny _ _ (eval (Expr.Name _ _) (envOf _ _ _ _ _)) _ _ _); (with_reducible rename Fr _ _ _ _ => kF); k_dflt (refine' ld kF ?k2 ?_; (case k2 => ((repeat' (first | (with_reducible assumption) | exact if_pos rfl | refine Eq.trans (if_neg (by decide)) ?_ | exact rfl)); done)); k_whole)) | ((with_reducible show wpAny _ _ (binaryOp Operator.Add (Value.ref _) (Value.ref _)) _ _ _); k_here; k_dflt (refine' add_L ?k1 ?k2 ?k3 ?k4 ?z ?_; (case k1 => k_asm); (case k2 => k_asm); (case k3 => is_list); (case k4 => is_list); (case z => first | size_fits | ((try simp only [List.length_map, List.length_cons, List.length_nil, List.length_append]); rw [sizeLine_eq]; omega)); k_whole); intro l' h' F' N' l1; (try k_lt l1); (try k_sweep)) | walk1)) | fail "no step"))
    obtain ⟨I, iI⟩ : ∃ I : Nat → Shared → Prop, ∀ k s', I k s' ↔ (∃ hs out h tk m n n2 of, s' = { s with heap := h, toks := tk } ∧ k = hs.length ∧ Fr s.heap L h m ∧ News s.heap L h [(hp, listOf (hs.map (·.1)).toArray n), (of, listOf (out.map (·.1)).toArray n2)] ∧ hp ≠ of ∧
      m (Str.ofString "heap") = some (.ref hp) ∧ m (Str.ofString "off") = some (.ref of) ∧ (∀ q ∈ hs, q ∈ ps₀) ∧ out ++ popAll hs.length hs = offP ps₀ ∧ out.length + hs.length = ps₀.length) := ⟨_, fun _ _ => Iff.rfl⟩
    refine while_rule I (fun k s' hI => ?_) (ps₀.foldl pushP []).length
      ((iI _ _).mpr ⟨ps₀.foldl pushP [], [], h4, tk4, m4, n, 0, of, rfl, rfl, F4, N4, hne, m1, m2, ?_, ?_, ?_⟩)
    · obtain ⟨hs, out, h, tk, m, n, n2, of, rfl, rfl, F5, N5, hne, m1, m2, hin, heq, hsum⟩ := (iI _ _).mp hI
      clear F4 N4
      rcases List.eq_nil_or_concat hs with rfl | ⟨qs, z, rfl⟩
      · (repeat' (first | (k_unfold; (try dsimp only)) | ((((fail_if_success (with_reducible show wpAny _ _ (exec (Stmt.While _ _ _ _) _) _ _ _)); (fail_if_success (with_reducible show wpAny _ _ (exec (Stmt.For _ _ _ _ _) _) _ _ _)); (fail_if_success (with_reducible show wpAny _ _ (call (Value.ref _) _ _) _ _ _)); (fail_if_success (with_reducible show wpAny _ _ (eval (Expr.ListComp _ _ _ _) _) _ _ _)))); (first | (k_here; (with_reducible show wpAny _ _ (eval (Expr.Name _ _) (envOf _ _ _ _ _)) _ _ _); (with_reducible rename Fr _ _ _ _ => kF); k_dflt (refine' ld kF ?k2 ?_; (case k2 => ((repeat' (first | (with_reducible assumption) | exact if_pos rfl | refine Eq.trans (if_neg (by decide)) ?_ | exact rfl)); done)); k_whole)) | ((with_reducible show wpAny _ _ (binaryOp Operator.Add (Value.ref _) (Value.ref _)) _ _ _); k_here; k_dflt (refine' add_L ?k1 ?k2 ?k3 ?k4 ?z ?_; (case k1 => k_asm); (case k2 => k_asm); (case k3 => is_list); (case k4 => is_list); (case z => first | size_fits | ((try simp only [List.length_map, List.length_cons, List.length_nil, List.length_append]); rw [sizeLine_eq]; omega)); k_whole); intro l' h' F' N' l1; (try k_lt l1); (try k_sweep)) | walk1)) | ((((fail_if_success (with_reducible show wpAny _ _ (exec (Stmt.While _ _ _ _) _) _ _ _)); (fail_if_success (with_reducible show wpAny _ _ (exec (Stmt.For _ _ _ _ _) _) _ _ _)); (fail_if_success (with_reducible show wpAny _ _ (call (Value.ref _) _ _) _ _ _)); (fail_if_success (with_reducible show wpAny _ _ (eval (Expr.ListComp _ _ _ _) _) _ _ _)))); dsimp only; (((fail_if_success (with_reducible show wpAny _ _ (exec (Stmt.While _ _ _ _) _) _ _ _)); (fail_if_success (with_reducible show wpAny _ _ (exec (Stmt.For _ _ _ _ _) _) _ _ _)); (fail_if_success (with_reducible show wpAny _ _ (call (Value.ref _) _ _) _ _ _)); (fail_if_success (with_reducible show wpAny _ _ (eval (Expr.ListComp _ _ _ _) _) _ _ _)))); (first | (k_here; (with_reducible show wpAny _ _ (eval (Expr.Name _ _) (envOf _ _ _ _ _)) _ _ _); (with_reducible rename Fr _ _ _ _ => kF); k_dflt (refine' ld kF ?k2 ?_; (case k2 => ((repeat' (first | (with_reducible assumption) | exact if_pos rfl | refine Eq.trans (if_neg (by decide)) ?_ | exact rfl)); done)); k_whole)) | ((with_reducible show wpAny _ _ (binaryOp Operator.Add (Value.ref _) (Value.ref _)) _ _ _); k_here; k_dflt (refine' add_L ?k1 ?k2 ?k3 ?k4 ?z ?_; (case k1 => k_asm); (case k2 => k_asm); (case k3 => is_list); (case k4 => is_list); (case z => first | size_fits | ((try simp only [List.length_map, List.length_cons, List.length_nil, List.length_append]); rw [sizeLine_eq]; omega)); k_whole); intro l' h' F' N' l1; (try k_lt l1); (try k_sweep)) | walk1)) | fail "no step"))
        rename Fr _ _ _ _ => F6
        rename News _ _ _ _ => N6
        have e1 : out = offP ps₀ := by rw [← heq]; simp [popAll]
        rw [e1] at N6
        have z := N6 _ (.tail _ (.tail _ (.head _)))
        exact hQ _ _ _ _ F6.keep z.2.2 z.1
      · rw [List.concat_eq_append] at *
        (repeat' (first | (k_unfold; (try dsimp only)) | ((((((fail_if_success (with_reducible show wpAny _ _ (exec (Stmt.While _ _ _ _) _) _ _ _)); (fail_if_success (with_reducible show wpAny _ _ (exec (Stmt.For _ _ _ _ _) _) _ _ _)); (fail_if_success (with_reducible show wpAny _ _ (call (Value.ref _) _ _) _ _ _)); (fail_if_success (with_reducible show wpAny _ _ (eval (Expr.ListComp _ _ _ _) _) _ _ _)))); (fail_if_success (with_reducible show wpAny _ _ (compareOp CmpOp.NotEq (Value.ref _) (Value.ref _)) _ _ _)))); (first | (k_here; (with_reducible show wpAny _ _ (eval (Expr.Name _ _) (envOf _ _ _ _ _)) _ _ _); (with_reducible rename Fr _ _ _ _ => kF); k_dflt (refine' ld kF ?k2 ?_; (case k2 => ((repeat' (first | (with_reducible assumption) | exact if_pos rfl | refine Eq.trans (if_neg (by decide)) ?_ | exact rfl)); done)); k_whole)) | ((with_reducible show wpAny _ _ (binaryOp Operator.Add (Value.ref _) (Value.ref _)) _ _ _); k_here; k_dflt (refine' add_L ?k1 ?k2 ?k3 ?k4 ?z ?_; (case k1 => k_asm); (case k2 => k_asm); (case k3 => is_list); (case k4 => is_list); (case z => first | size_fits | ((try simp only [List.length_map, List.length_cons, List.length_nil, List.length_append]); rw [sizeLine_eq]; omega)); k_whole); intro l' h' F' N' l1; (try k_lt l1); (try k_sweep)) | walk1)) | ((((((fail_if_success (with_reducible show wpAny _ _ (exec (Stmt.While _ _ _ _) _) _ _ _)); (fail_if_success (with_reducible show wpAny _ _ (exec (Stmt.For _ _ _ _ _) _) _ _ _)); (fail_if_success (with_reducible show wpAny _ _ (call (Value.ref _) _ _) _ _ _)); (fail_if_success (with_reducible show wpAny _ _ (eval (Expr.ListComp _ _ _ _) _) _ _ _)))); (fail_if_success (with_reducible show wpAny _ _ (compareOp CmpOp.NotEq (Value.ref _) (Value.ref _)) _ _ _)))); dsimp only; (((((fail_if_success (with_reducible show wpAny _ _ (exec (Stmt.While _ _ _ _) _) _ _ _)); (fail_if_success (with_reducible show wpAny _ _ (exec (Stmt.For _ _ _ _ _) _) _ _ _)); (fail_if_success (with_reducible show wpAny _ _ (call (Value.ref _) _ _) _ _ _)); (fail_if_success (with_reducible show wpAny _ _ (eval (Expr.ListComp _ _ _ _) _) _ _ _)))); (fail_if_success (with_reducible show wpAny _ _ (compareOp CmpOp.NotEq (Value.ref _) (Value.ref _)) _ _ _)))); (first | (k_here; (with_reducible show wpAny _ _ (eval (Expr.Name _ _) (envOf _ _ _ _ _)) _ _ _); (with_reducible rename Fr _ _ _ _ => kF); k_dflt (refine' ld kF ?k2 ?_; (case k2 => ((repeat' (first | (with_reducible assumption) | exact if_pos rfl | refine Eq.trans (if_neg (by decide)) ?_ | exact rfl)); done)); k_whole)) | ((with_reducible show wpAny _ _ (binaryOp Operator.Add (Value.ref _) (Value.ref _)) _ _ _); k_here; k_dflt (refine' add_L ?k1 ?k2 ?k3 ?k4 ?z ?_; (case k1 => k_asm); (case k2 => k_asm); (case k3 => is_list); (case k4 => is_list); (case z => first | size_fits | ((try simp only [List.length_map, List.length_cons, List.length_nil, List.length_append]); rw [sizeLine_eq]; omega)); k_whole); intro l' h' F' N' l1; (try k_lt l1); (try k_sweep)) | walk1)) | fail "no step"))
        rename Fr _ _ _ _ => F6
        rename News _ _ _ _ => N6
        refine ne_Ws (x := (qs ++ [z]).map (·.2)) (y := []) (Rd_list (N6 _ (.tail _ (.head _))).1 fun q hq => (hr' q (hin q hq)).le F6.keep) (Rd_nil (N6 _ (.head _)).1) (by show 460 + 3 + 5 < cLine; decide) ?_
        rw [show (!PyData.eqv (dWs ((qs ++ [z]).map (·.2))) (dWs [])) = true from by cases qs <;> rfl]
        (repeat' (first | (k_unfold; (try dsimp only)) | ((((fail_if_success (with_reducible show wpAny _ _ (exec (Stmt.While _ _ _ _) _) _ _ _)); (fail_if_success (with_reducible show wpAny _ _ (exec (Stmt.For _ _ _ _ _) _) _ _ _)); (fail_if_success (with_reducible show wpAny _ _ (call (Value.ref _) _ _) _ _ _)); (fail_if_success (with_reducible show wpAny _ _ (eval (Expr.ListComp _ _ _ _) _) _ _ _)))); (first | (k_here; (with_reducible show wpAny _ _ (eval (Expr.Name _ _) (envOf _ _ _ _ _)) _ _ _); (with_reducible rename Fr _ _ _ _ => kF); k_dflt (refine' ld kF ?k2 ?_; (case k2 => ((repeat' (first | (with_reducible assumption) | exact if_pos rfl | refine Eq.trans (if_neg (by decide)) ?_ | exact rfl)); done)); k_whole)) | ((with_reducible show wpAny _ _ (binaryOp Operator.Add (Value.ref _) (Value.ref _)) _ _ _); k_here; k_dflt (refine' add_L ?k1 ?k2 ?k3 ?k4 ?z ?_; (case k1 => k_asm); (case k2 => k_asm); (case k3 => is_list); (case k4 => is_list); (case z => first | size_fits | ((try simp only [List.length_map, List.length_cons, List.length_nil, List.length_append]); rw [sizeLine_eq]; omega)); k_whole); intro l' h' F' N' l1; (try k_lt l1); (try k_sweep)) | walk1)) | ((((fail_if_success (with_reducible show wpAny _ _ (exec (Stmt.While _ _ _ _) _) _ _ _)); (fail_if_success (with_reducible show wpAny _ _ (exec (Stmt.For _ _ _ _ _) _) _ _ _)); (fail_if_success (with_reducible show wpAny _ _ (call (Value.ref _) _ _) _ _ _)); (fail_if_success (with_reducible show wpAny _ _ (eval (Expr.ListComp _ _ _ _) _) _ _ _)))); dsimp only; (((fail_if_success (with_reducible show wpAny _ _ (exec (Stmt.While _ _ _ _) _) _ _ _)); (fail_if_success (with_reducible show wpAny _ _ (exec (Stmt.For _ _ _ _ _) _) _ _ _)); (fail_if_success (with_reducible show wpAny _ _ (call (Value.ref _) _ _) _ _ _)); (fail_if_success (with_reducible show wpAny _ _ (eval (Expr.ListComp _ _ _ _) _) _ _ _)))); (first | (k_here; (with_reducible show wpAny _ _ (eval (Expr.Name _ _) (envOf _ _ _ _ _)) _ _ _); (with_reducible rename Fr _ _ _ _ => kF); k_dflt (refine' ld kF ?k2 ?_; (case k2 => ((repeat' (first | (with_reducible assumption) | exact if_pos rfl | refine Eq.trans (if_neg (by decide)) ?_ | exact rfl)); done)); k_whole)) | ((with_reducible show wpAny _ _ (binaryOp Operator.Add (Value.ref _) (Value.ref _)) _ _ _); k_here; k_dflt (refine' add_L ?k1 ?k2 ?k3 ?k4 ?z ?_; (case k1 => k_asm); (case k2 => k_asm); (case k3 => is_list); (case k4 => is_list); (case z => first | size_fits | ((try simp only [List.length_map, List.length_cons, List.length_nil, List.length_append]); rw [sizeLine_eq]; omega)); k_whole); intro l' h' F' N' l1; (try k_lt l1); (try k_sweep)) | walk1)) | fail "no step"))
        rename Fr _ _ _ _ => F7
        replace N7 : News s.heap L _ [(hp, listOf ((qs ++ [z]).map (·.1)).toArray n), (of, listOf (out.map (·.1)).toArray n2)] := fun p hp => N6 p (.tail _ hp)
        refine heappop_c (qs := qs) (z := z) a' F7.keep (Room.deeper _) (N7 _ (.head _)).1 (N7 _ (.head _)).2.2 (fun q hq => hr' q (hin q hq)) (by simp at hsum; omega) (fun h9 tk9 n9 k9 e9 => ?_)
        obtain ⟨F8, N8⟩ := mut_upd F7 N7 (.head (by simpa using Ne.symm hne)) k9 e9
        clear F7 N7 N6
        (repeat' (first | (k_unfold; (try dsimp only)) | ((((fail_if_success (with_reducible show wpAny _ _ (exec (Stmt.While _ _ _ _) _) _ _ _)); (fail_if_success (with_reducible show wpAny _ _ (exec (Stmt.For _ _ _ _ _) _) _ _ _)); (fail_if_success (with_reducible show wpAny _ _ (call (Value.ref _) _ _) _ _ _)); (fail_if_success (with_reducible show wpAny _ _ (eval (Expr.ListComp _ _ _ _) _) _ _ _)))); (first | (k_here; (with_reducible show wpAny _ _ (eval (Expr.Name _ _) (envOf _ _ _ _ _)) _ _ _); (with_reducible rename Fr _ _ _ _ => kF); k_dflt (refine' ld kF ?k2 ?_; (case k2 => ((repeat' (first | (with_reducible assumption) | exact if_pos rfl | refine Eq.trans (if_neg (by decide)) ?_ | exact rfl)); done)); k_whole)) | ((with_reducible show wpAny _ _ (binaryOp Operator.Add (Value.ref _) (Value.ref _)) _ _ _); k_here; k_dflt (refine' add_L ?k1 ?k2 ?k3 ?k4 ?z ?_; (case k1 => k_asm); (case k2 => k_asm); (case k3 => is_list); (case k4 => is_list); (case z => first | size_fits | ((try simp only [List.length_map, List.length_cons, List.length_nil, List.length_append]); rw [sizeLine_eq]; omega)); k_whole); intro l' h' F' N' l1; (try k_lt l1); (try k_sweep)) | walk1)) | ((((fail_if_success (with_reducible show wpAny _ _ (exec (Stmt.While _ _ _ _) _) _ _ _)); (fail_if_success (with_reducible show wpAny _ _ (exec (Stmt.For _ _ _ _ _) _) _ _ _)); (fail_if_success (with_reducible show wpAny _ _ (call (Value.ref _) _ _) _ _ _)); (fail_if_success (with_reducible show wpAny _ _ (eval (Expr.ListComp _ _ _ _) _) _ _ _)))); dsimp only; (((fail_if_success (with_reducible show wpAny _ _ (exec (Stmt.While _ _ _ _) _) _ _ _)); (fail_if_success (with_reducible show wpAny _ _ (exec (Stmt.For _ _ _ _ _) _) _ _ _)); (fail_if_success (with_reducible show wpAny _ _ (call (Value.ref _) _ _) _ _ _)); (fail_if_success (with_reducible show wpAny _ _ (eval (Expr.ListComp _ _ _ _) _) _ _ _)))); (first | (k_here; (with_reducible show wpAny _ _ (eval (Expr.Name _ _) (envOf _ _ _ _ _)) _ _ _); (with_reducible rename Fr _ _ _ _ => kF); k_dflt (refine' ld kF ?k2 ?_; (case k2 => ((repeat' (first | (with_reducible assumption) | exact if_pos rfl | refine Eq.trans (if_neg (by decide)) ?_ | exact rfl)); done)); k_whole)) | ((with_reducible show wpAny _ _ (binaryOp Operator.Add (Value.ref _) (Value.ref _)) _ _ _); k_here; k_dflt (refine' add_L ?k1 ?k2 ?k3 ?k4 ?z ?_; (case k1 => k_asm); (case k2 => k_asm); (case k3 => is_list); (case k4 => is_list); (case z => first | size_fits | ((try simp only [List.length_map, List.length_cons, List.length_nil, List.length_append]); rw [sizeLine_eq]; omega)); k_whole); intro l' h' F' N' l1; (try k_lt l1); (try k_sweep)) | walk1)) | fail "no step"))
        rename Fr _ _ _ _ => F10
        rename News _ _ _ _ => N10
        refine ⟨(popP qs z).2.length, by rw [popP_length]; simp, (iI _ _).mpr ⟨(popP qs z).2, out ++ [(popP qs z).1], _, _, _, n9, 0, _, rfl, rfl, F10, fun p hp => N10 p ?_, ?_, by ((repeat' (first | (with_reducible assumption) | exact if_pos rfl | refine Eq.trans (if_neg (by decide)) ?_ | exact rfl)); done), by ((repeat' (first | (with_reducible assumption) | exact if_pos rfl | refine Eq.trans (if_neg (by decide)) ?_ | exact rfl)); done), fun q hq => hin q (popP_mem (.inr hq)), ?_, ?_⟩⟩
        · rcases List.mem_cons.mp hp with rfl | hp
          · exact .tail _ (.tail _ (.head _))
          · rw [List.mem_singleton.mp hp, List.map_append]; exact .head _
        · refine neN ?_; omega
        · rw [← heq, popP_length]
          simp [popAll]
        · rw [popP_length]; simp at hsum ⊢; omega
    · intro q hq
      have := (key ps₀.length (Nat.le_refl _)).2 q
      rw [List.take_length] at this
      exact this hq
    · have := (key ps₀.length (Nat.le_refl _)).1
      rw [List.take_length] at this
      rw [this]; rfl
    · have := (key ps₀.length (Nat.le_refl _)).1
      rw [List.take_length] at this
      rw [this]; simp
end

section
open PySem PySem.W PyProof.Rows PySem.Calls PySem.SeqAt

theorem eqv_tx (x y : Bool) : PyData.eqv (.str (tx x)) (.str (tx y)) = (x == y) := by cases x <;> cases y <;> decide +kernel
theorem eqv_dW : ∀ x y : List Bool, PyData.eqv (dW x) (dW y) = (x == y)
  | [], [] => rfl
  | [], _ :: _ => rfl
  | _ :: _, [] => rfl
  | a :: x, b :: y => by
    have ih := eqv_dW x y
    show (PyData.eqv (.str (tx a)) (.str (tx b)) && PyData.eqv (dW x) (dW y)) = _
    rw [eqv_tx, ih]; rfl
theorem eqv_dWs : ∀ x y : List (List Bool), PyData.eqv (dWs x) (dWs y) = (x == y)
  | [], [] => rfl
  | [], _ :: _ => rfl
  | _ :: _, [] => rfl
  | a :: x, b :: y => by
    have ih := eqv_dWs x y
    show (PyData.eqv (dW a) (dW b) && PyData.eqv (dWs x) (dWs y)) = _
    rw [eqv_dW, ih]; rfl
theorem depth_dW (w : List Bool) : (dW w).depth ≤ 3 := by
  have : ∀ w : List Bool, PyData.depthAll (w.map fun b => PyData.str (tx b)) ≤ 1 := by
    intro w
    induction w with
    | nil => simp [PyData.depthAll]
    | cons b r ih => simp only [List.map_cons, PyData.depthAll, PyData.depth]; omega
  have := this w
  simp only [dW, PyData.depth]; omega
theorem eqAt_W {A : Around} {s : Shared} {a b : Value} {x y : List Bool} (ra : Rd s.heap a (dW x)) (rb : Rd s.heap b (dW y)) (hu : A.units + 4 < cLine) : EqAt A s a b (x == y) := by
  obtain ⟨as, ra⟩ := ra
  obtain ⟨bs, rb⟩ := rb
  have := eqAt_reads _ _ A s a b as bs ra rb (canLay_dW x) (canLay_dW y) (by have := depth_dW x; omega)
  rwa [eqv_dW] at this
theorem Rd_uniq {h : Heap} {v : Value} {x y : List Bool} (ra : Rd h v (dW x)) (rb : Rd h v (dW y)) : x = y := by
  obtain ⟨as, ra⟩ := ra
  obtain ⟨bs, rb⟩ := rb
  have e := Reads.unique _ _ _ _ _ (canLay_dW x) ra rb
  have := eqv_dW x y
  rw [← e, eqv_refl _ (canLay_dW x)] at this
  exact eq_of_beq this.symm

open Classical in
theorem notIn_W {prog : Program} {w : World} {A : Around} {E : Value → Shared → Prop} {s : Shared} {v : Value} {x : List Bool} {l : Addr} {ps : List PP} {n : Nat} {Q : Value → Shared → Prop} (e : s.heap.get? l = some (listOf (ps.map (·.1)).toArray n))
    (hr : ∀ q ∈ ps, Rd s.heap q.1 (dW q.2)) (rv : Rd s.heap v (dW x)) (hu : A.units + 5 < cLine) (h : Q (.bool (!ps.any fun q => q.2 == x)) s) : wpAny (model prog w) A (compareOp .NotIn v (.ref l)) Q E s := by
  refine notIn_listAt (fun y => decide (Rd s.heap y (dW x))) (PySem.IsL.isList (n := n) e) (fun y hy => ?_) ?_
  · obtain ⟨q, hq, rfl⟩ : ∃ q ∈ ps, q.1 = y := by simpa using hy
    have : decide (Rd s.heap q.1 (dW x)) = (q.2 == x) := by
      by_cases hx : q.2 = x
      · subst hx; simp [hr q hq]
      · have : ¬ Rd s.heap q.1 (dW x) := fun z => hx (Rd_uniq (hr q hq) z)
        simp [this, hx]
    rw [this]
    exact eqAt_W (hr q hq) rv (by show A.units + 1 + 4 < cLine; omega)
  · have : ((ps.map (·.1)).toArray.any fun y => decide (Rd s.heap y (dW x))) = ps.any fun q => q.2 == x := by
      rw [List.any_toArray, List.any_map]
      have : ∀ ps' : List PP, (∀ q ∈ ps', q ∈ ps) → ps'.any ((fun y => decide (Rd s.heap y (dW x))) ∘ fun x => x.1) = ps'.any fun q => q.2 == x := by
        intro ps' hs
        induction ps' with
        | nil => rfl
        | cons q r ih =>
          rw [List.any_cons, List.any_cons, ih fun z hz => hs z (.tail _ hz)]
          congr 1
          have hq := hr q (hs q (.head _))
          show decide (Rd s.heap q.1 (dW x)) = (q.2 == x)
          by_cases hx : q.2 = x
          · subst hx; simp [hq]
          · have : ¬ Rd s.heap q.1 (dW x) := fun z => hx (Rd_uniq hq z)
            simp [this, hx]
      exact this ps fun _ z => z
    rw [this]; exact h

noncomputable def dedStep (acc : List PP) (q : PP) : List PP := if (acc.any fun p => p.2 == q.2) = true then acc else acc ++ [q]
noncomputable def dedP (ps : List PP) : List PP := ps.foldl dedStep []
theorem dedP_pre (ps : List PP) (i : Nat) : ∀ q ∈ (ps.take i).foldl dedStep [], q ∈ ps := by
  have : ∀ (ps' acc : List PP), (∀ q ∈ acc, q ∈ ps) → (∀ q ∈ ps', q ∈ ps) → ∀ q ∈ ps'.foldl dedStep acc, q ∈ ps := by
    intro ps'
    induction ps' with
    | nil => intro acc h1 _; exact h1
    | cons p r ih =>
      intro acc h1 h2
      refine ih _ (fun q hq => ?_) fun q hq => h2 q (.tail _ hq)
      unfold dedStep at hq
      split at hq
      · exact h1 q hq
      · rcases List.mem_append.mp hq with hq | hq
        · exact h1 q hq
        · rw [List.mem_singleton.mp hq]; exact h2 p (.head _)
  exact this _ [] (by simp) fun q hq => List.mem_of_mem_take hq
theorem dedP_len (ps acc : List PP) : (ps.foldl dedStep acc).length ≤ acc.length + ps.length := by
  induction ps generalizing acc with
  | nil => simp
  | cons p r ih =>
    have := ih (dedStep acc p)
    have h2 : (dedStep acc p).length ≤ acc.length + 1 := by unfold dedStep; split <;> simp
    simp only [List.foldl_cons, List.length_cons]; omega

theorem dedup_c {w : World} {A : Around} {E : Value → Shared → Prop} {s : Shared} {g : Heap} {Q : Value → Shared → Prop} {l : Addr} {ps₀ : List PP} (a : Amb w g) (lg : Le g s.heap) (r : Room 6 A)
    (hl : g.IsList l (ps₀.map (·.1)).toArray) (hr : ∀ q ∈ ps₀, Rd g q.1 (dW q.2)) (hlen : ps₀.length ≤ 800)
    (hQ : ∀ h' tk r n', Le s.heap h' → s.heap.get? r = none → h'.get? r = some (listOf ((dedP ps₀).map (·.1)).toArray n') → Q (.ref r) { s with heap := h', toks := tk }) :
    wpAny (model Challenge.rw_ny0132_01.row.prog w) A (call (.ref 157) [.ref l]) Q E s := by
  have a' := a.le lg
  obtain ⟨X, mean, mg, mb, T⟩ := a'
  revert X; k_fill; intro X
  have hr' : ∀ q ∈ ps₀, Rd s.heap q.1 (dW q.2) := fun q hq => (hr q hq).le lg
  have hl' : s.heap.IsList l (ps₀.map (·.1)).toArray := hl.at fun o e => lg _ o e
  refine weaken r ?_
  refine enter (binds := [(Str.ofString "unhashable_params", .ref l)]) X T.nolimit (Le.refl _) (Nat.le_refl _) (by k_is) (by k_is) (by show 346 < recursionLimit; decide) (BindsTo.of_eq rfl) (locs rfl) (fun h₁ F L₁ => ?_) (by decide) rfl rfl rfl
  have N : News s.heap s.heap.objs.size h₁ [] := News.nil
  show wpAny _ _ _ _ _ _
  generalize hL : s.heap.objs.size = L at *
  k_fold
  (repeat' (first | (k_unfold; (try dsimp only)) | ((((fail_if_success (with_reducible show wpAny _ _ (exec (Stmt.While _ _ _ _) _) _ _ _)); (fail_if_success (with_reducible show wpAny _ _ (exec (Stmt.For _ _ _ _ _) _) _ _ _)); (fail_if_success (with_reducible show wpAny _ _ (call (Value.ref _) _ _) _ _ _)); (fail_if_success (with_reducible show wpAny _ _ (eval (Expr.ListComp _ _ _ _) _) _ _ _)))); (first | (k_here; (with_reducible show wpAny _ _ (eval (Expr.Name _ _) (envOf _ _ _ _ _)) _ _ _); (with_reducible rename Fr _ _ _ _ => kF); k_dflt (refine' ld kF ?k2 ?_; (case k2 => ((repeat' (first | (with_reducible assumption) | exact if_pos rfl | refine Eq.trans (if_neg (by decide)) ?_ | exact rfl)); done)); k_whole)) | walk1)) | ((((fail_if_success (with_reducible show wpAny _ _ (exec (Stmt.While _ _ _ _) _) _ _ _)); (fail_if_success (with_reducible show wpAny _ _ (exec (Stmt.For _ _ _ _ _) _) _ _ _)); (fail_if_success (with_reducible show wpAny _ _ (call (Value.ref _) _ _) _ _ _)); (fail_if_success (with_reducible show wpAny _ _ (eval (Expr.ListComp _ _ _ _) _) _ _ _)))); dsimp only; (((fail_if_success (with_reducible show wpAny _ _ (exec (Stmt.While _ _ _ _) _) _ _ _)); (fail_if_success (with_reducible show wpAny _ _ (exec (Stmt.For _ _ _ _ _) _) _ _ _)); (fail_if_success (with_reducible show wpAny _ _ (call (Value.ref _) _ _) _ _ _)); (fail_if_success (with_reducible show wpAny _ _ (eval (Expr.ListComp _ _ _ _) _) _ _ _)))); (first | (k_here; (with_reducible show wpAny _ _ (eval (Expr.Name _ _) (envOf _ _ _ _ _)) _ _ _); (with_reducible rename Fr _ _ _ _ => kF); k_dflt (refine' ld kF ?k2 ?_; (case k2 => ((repeat' (first | (with_reducible assumption) | exact if_pos rfl | refine Eq.trans (if_neg (by decide)) ?_ | exact rfl)); done)); k_whole)) | walk1)) | fail "no step"))
  rename Fr _ _ _ _ => F1
  rename News _ _ _ _ => N1
  obtain ⟨nu, N2, F2⟩ : ∃ nu, News s.heap L _ [(nu, listOf #[] 0)] ∧ Fr s.heap L _ (fun y => if y = Str.ofString "new_unhashable" then some (.ref nu) else List.lookup y [(Str.ofString "unhashable_params", Value.ref l)].reverse) := ⟨_, N1, F1⟩
  clear F1 N1
  refine for_rule F2 N2 rfl rfl rfl rfl (fun Q' h => ld F2 (by ((repeat' (first | (with_reducible assumption) | exact if_pos rfl | refine Eq.trans (if_neg (by decide)) ?_ | exact rfl)); done)) h) hl' (fun i m news => ∃ n, m (Str.ofString "new_unhashable") = some (.ref nu) ∧ news = [(nu, listOf (((ps₀.take i).foldl dedStep []).map (·.1)).toArray n)])
    ⟨0, by ((repeat' (first | (with_reducible assumption) | exact if_pos rfl | refine Eq.trans (if_neg (by decide)) ?_ | exact rfl)); done), rfl⟩ (fun i v I oI m₁ news₁ h₁ tk₁ hv hJ F3 N3 hoff => ?_) (fun h4 tk4 m4 news4 F4 N4 hJ => ?_)
  · obtain ⟨n, m1, rfl⟩ := hJ
    have hi : i < ps₀.length := by
      rcases Nat.lt_or_ge i ps₀.length with q | q
      · exact q
      · rw [Array.getElem?_eq_none (by simpa using q)] at hv; cases hv
    obtain rfl : v = (ps₀[i]).1 := by simpa [hi] using hv.symm
    have hz := dedP_len (ps₀.take i) []
    rw [List.length_take] at hz
    have hst : (ps₀.take (i + 1)).foldl dedStep [] = dedStep ((ps₀.take i).foldl dedStep []) ps₀[i] := by
      rw [List.take_succ_eq_append_getElem hi, List.foldl_append]; rfl
    have hmm := dedP_pre ps₀ i
    rw [hst]
    generalize (ps₀.take i).foldl dedStep [] = acc at *
    clear F2 N2
    (repeat' (first | (k_unfold; (try dsimp only)) | ((((fail_if_success (with_reducible show wpAny _ _ (exec (Stmt.While _ _ _ _) _) _ _ _)); (fail_if_success (with_reducible show wpAny _ _ (exec (Stmt.For _ _ _ _ _) _) _ _ _)); (fail_if_success (with_reducible show wpAny _ _ (call (Value.ref _) _ _) _ _ _)); (fail_if_success (with_reducible show wpAny _ _ (eval (Expr.ListComp _ _ _ _) _) _ _ _)))); (first | (k_here; (with_reducible show wpAny _ _ (eval (Expr.Name _ _) (envOf _ _ _ _ _)) _ _ _); (with_reducible rename Fr _ _ _ _ => kF); k_dflt (refine' ld kF ?k2 ?_; (case k2 => ((repeat' (first | (with_reducible assumption) | exact if_pos rfl | refine Eq.trans (if_neg (by decide)) ?_ | exact rfl)); done)); k_whole)) | walk1)) | ((((fail_if_success (with_reducible show wpAny _ _ (exec (Stmt.While _ _ _ _) _) _ _ _)); (fail_if_success (with_reducible show wpAny _ _ (exec (Stmt.For _ _ _ _ _) _) _ _ _)); (fail_if_success (with_reducible show wpAny _ _ (call (Value.ref _) _ _) _ _ _)); (fail_if_success (with_reducible show wpAny _ _ (eval (Expr.ListComp _ _ _ _) _) _ _ _)))); dsimp only; (((fail_if_success (with_reducible show wpAny _ _ (exec (Stmt.While _ _ _ _) _) _ _ _)); (fail_if_success (with_reducible show wpAny _ _ (exec (Stmt.For _ _ _ _ _) _) _ _ _)); (fail_if_success (with_reducible show wpAny _ _ (call (Value.ref _) _ _) _ _ _)); (fail_if_success (with_reducible show wpAny _ _ (eval (Expr.ListComp _ _ _ _) _) _ _ _)))); (first | (k_here; (with_reducible show wpAny _ _ (eval (Expr.Name _ _) (envOf _ _ _ _ _)) _ _ _); (with_reducible rename Fr _ _ _ _ => kF); k_dflt (refine' ld kF ?k2 ?_; (case k2 => ((repeat' (first | (with_reducible assumption) | exact if_pos rfl | refine Eq.trans (if_neg (by decide)) ?_ | exact rfl)); done)); k_whole)) | walk1)) | fail "no step"))
    rename Fr _ _ _ _ => F5
    rename News _ _ _ _ => N5
    refine notIn_W (ps := acc) (N5 _ (.tail _ (.head _))).1 (fun q hq => (hr' q (hmm q hq)).le F5.keep) ((hr' _ (List.getElem_mem _)).le F5.keep) (by show 460 + 3 + 5 < cLine; decide) ?_
    have hI : @Ne Nat nu I := hoff _ (.head _)
    (repeat' (first | (k_unfold; (try dsimp only)) | ((((fail_if_success (with_reducible show wpAny _ _ (exec (Stmt.While _ _ _ _) _) _ _ _)); (fail_if_success (with_reducible show wpAny _ _ (exec (Stmt.For _ _ _ _ _) _) _ _ _)); (fail_if_success (with_reducible show wpAny _ _ (call (Value.ref _) _ _) _ _ _)); (fail_if_success (with_reducible show wpAny _ _ (eval (Expr.ListComp _ _ _ _) _) _ _ _)))); (first | (k_here; (with_reducible show wpAny _ _ (eval (Expr.Name _ _) (envOf _ _ _ _ _)) _ _ _); (with_reducible rename Fr _ _ _ _ => kF); k_dflt (refine' ld kF ?k2 ?_; (case k2 => ((repeat' (first | (with_reducible assumption) | exact if_pos rfl | refine Eq.trans (if_neg (by decide)) ?_ | exact rfl)); done)); k_whole)) | walk1)) | ((((fail_if_success (with_reducible show wpAny _ _ (exec (Stmt.While _ _ _ _) _) _ _ _)); (fail_if_success (with_reducible show wpAny _ _ (exec (Stmt.For _ _ _ _ _) _) _ _ _)); (fail_if_success (with_reducible show wpAny _ _ (call (Value.ref _) _ _) _ _ _)); (fail_if_success (with_reducible show wpAny _ _ (eval (Expr.ListComp _ _ _ _) _) _ _ _)))); dsimp only; (((fail_if_success (with_reducible show wpAny _ _ (exec (Stmt.While _ _ _ _) _) _ _ _)); (fail_if_success (with_reducible show wpAny _ _ (exec (Stmt.For _ _ _ _ _) _) _ _ _)); (fail_if_success (with_reducible show wpAny _ _ (call (Value.ref _) _ _) _ _ _)); (fail_if_success (with_reducible show wpAny _ _ (eval (Expr.ListComp _ _ _ _) _) _ _ _)))); (first | (k_here; (with_reducible show wpAny _ _ (eval (Expr.Name _ _) (envOf _ _ _ _ _)) _ _ _); (with_reducible rename Fr _ _ _ _ => kF); k_dflt (refine' ld kF ?k2 ?_; (case k2 => ((repeat' (first | (with_reducible assumption) | exact if_pos rfl | refine Eq.trans (if_neg (by decide)) ?_ | exact rfl)); done)); k_whole)) | walk1)) | fail "no step"))
    · rename (List.any _ _ = true) => hc
      refine ⟨_, _, _, _, rfl, F5, N5, hoff, n, by ((repeat' (first | (with_reducible assumption) | exact if_pos rfl | refine Eq.trans (if_neg (by decide)) ?_ | exact rfl)); done), ?_⟩
      rw [dedStep, if_pos hc]
    · rename Fr _ _ _ _ => F6
      rename News _ _ _ _ => N6
      rename (List.any _ _ = false) => hc
      refine ⟨_, _, _, _, rfl, F6, N6, ?_, n + 1, by ((repeat' (first | (with_reducible assumption) | exact if_pos rfl | refine Eq.trans (if_neg (by decide)) ?_ | exact rfl)); done), ?_⟩
      · intro p hp
        rw [List.mem_singleton.mp hp]; exact hI
      · rw [dedStep, if_neg (by rw [hc]; exact Bool.false_ne_true)]; simp
  · obtain ⟨n, m1, rfl⟩ := hJ
    have e0 : ps₀.take (ps₀.map (·.1)).toArray.size = ps₀ := by simp
    rw [e0] at N4
    clear F2 N2
    (repeat' (first | (k_unfold; (try dsimp only)) | ((((fail_if_success (with_reducible show wpAny _ _ (exec (Stmt.While _ _ _ _) _) _ _ _)); (fail_if_success (with_reducible show wpAny _ _ (exec (Stmt.For _ _ _ _ _) _) _ _ _)); (fail_if_success (with_reducible show wpAny _ _ (call (Value.ref _) _ _) _ _ _)); (fail_if_success (with_reducible show wpAny _ _ (eval (Expr.ListComp _ _ _ _) _) _ _ _)))); (first | (k_here; (with_reducible show wpAny _ _ (eval (Expr.Name _ _) (envOf _ _ _ _ _)) _ _ _); (with_reducible rename Fr _ _ _ _ => kF); k_dflt (refine' ld kF ?k2 ?_; (case k2 => ((repeat' (first | (with_reducible assumption) | exact if_pos rfl | refine Eq.trans (if_neg (by decide)) ?_ | exact rfl)); done)); k_whole)) | walk1)) | ((((fail_if_success (with_reducible show wpAny _ _ (exec (Stmt.While _ _ _ _) _) _ _ _)); (fail_if_success (with_reducible show wpAny _ _ (exec (Stmt.For _ _ _ _ _) _) _ _ _)); (fail_if_success (with_reducible show wpAny _ _ (call (Value.ref _) _ _) _ _ _)); (fail_if_success (with_reducible show wpAny _ _ (eval (Expr.ListComp _ _ _ _) _) _ _ _)))); dsimp only; (((fail_if_success (with_reducible show wpAny _ _ (exec (Stmt.While _ _ _ _) _) _ _ _)); (fail_if_success (with_reducible show wpAny _ _ (exec (Stmt.For _ _ _ _ _) _) _ _ _)); (fail_if_success (with_reducible show wpAny _ _ (call (Value.ref _) _ _) _ _ _)); (fail_if_success (with_reducible show wpAny _ _ (eval (Expr.ListComp _ _ _ _) _) _ _ _)))); (first | (k_here; (with_reducible show wpAny _ _ (eval (Expr.Name _ _) (envOf _ _ _ _ _)) _ _ _); (with_reducible rename Fr _ _ _ _ => kF); k_dflt (refine' ld kF ?k2 ?_; (case k2 => ((repeat' (first | (with_reducible assumption) | exact if_pos rfl | refine Eq.trans (if_neg (by decide)) ?_ | exact rfl)); done)); k_whole)) | walk1)) | fail "no step"))
    rename Fr _ _ _ _ => F5
    have z := N4 _ (.head _)
    exact hQ _ _ _ _ F5.keep z.2.2 z.1
end

section
open PySem PySem.W PyProof.Rows PySem.Calls PyProof.Rows.LCg

section
variable {prog : Program} {w : World} {A : Around} {E : Value → Shared → Prop} {R : Result → Shared → Prop} {s : Shared}

theorem compLoop_gen {elt target iter : Expr} {ifs : List Expr} {scope : Scope} {pos : Pos} {it acc : Value} {env : Env} (I : Nat → Shared → Prop)
    (turn : ∀ n s, I n s → wpAny (model prog w) A (pyNext it) (fun r s₁ => match r with
      | none => R (.ok .next) s₁
      | some v => wpAny (model prog w) A (letOwnedTupleGo target it v) (fun _ s₁' => wpAny (model prog w) A (assign target env v) (fun _ s₂ =>
          wpAny (model prog w) A (forIn ifs true fun c r => if r = true then do let ok ← isTrue c env (eval c env); pure (ForInStep.yield ok) else pure (ForInStep.yield r)) (fun ok s₃ =>
            if ok = true then wpAny (model prog w) A (eval elt env) (fun x s₄ =>
              wpAny (model prog w) A (call (.builtin "list.append") [acc, x]) (fun _ s₅ => ∃ m, m < n ∧ I m s₅) Nope s₄) Nope s₃
            else ∃ m, m < n ∧ I m s₃) Nope s₂) Nope s₁') Nope s₁) Nope s)
    (n : Nat) (h : I n s) :
    codeAny (model prog w) A (.compLoop (.ListComp elt [⟨target, iter, ifs, 0⟩] scope pos) 0 it acc env) R s := by
  refine codeAny_loop rfl I (fun n s hI => ?_) n h
  show wpAny _ A ((compTurn (.ListComp elt [⟨target, iter, ifs, 0⟩] scope pos) 0 it acc env).onRaise (fun x => do noteFrame x env; theTreesLotGoes x)) _ _ s
  refine wpAny_noted ?_
  rw [compTurn_list]
  have ne : ∀ (F : Value → Shared → Prop) e s, Nope e s → F e s := fun _ _ _ x => x.elim
  refine wpAny_bind (wpAny_standAt (wpAny_bind (wpAny_mono (turn n s hI) (fun r s₁ h₁ => ?_) (ne _))))
  cases r with
  | none => exact wpAny_pure h₁
  | some v =>
    refine wpAny_bind (wpAny_mono h₁ (fun _ s₁' h₁' => ?_) (ne _))
    refine wpAny_bind (wpAny_mono h₁' (fun _ s₂ h₂ => wpAny_bind (wpAny_mono h₂ (fun ok s₃ h₃ => ?_) (ne _))) (ne _))
    cases ok with
    | false => exact wpAny_pure ⟨rfl, h₃⟩
    | true =>
      exact wpAny_bind (wpAny_bind (wpAny_mono h₃ (fun x s₄ h₄ => wpAny_bind (wpAny_mono h₄ (fun _ s₅ h₅ => wpAny_pure (wpAny_pure ⟨rfl, h₅⟩)) (ne _))) (ne _)))

/-- a turn's end in a comprehension: only new objects; the view has grown -/
noncomputable def CEnd (s : Shared) (h g : Heap) (I C D : Addr) (K : Heap → Prop) (s' : Shared) : Prop :=
  ∃ h' tk' g' m', s' = { s with heap := h', toks := tk' } ∧ h'.Ns C m' ∧ (∀ b o, b ≠ C → h.get? b = some o → h'.get? b = some o) ∧ Le g g' ∧ Le g' h' ∧ (g'.get? I = none ∧ g'.get? C = none ∧ g'.get? D = none) ∧ K g'

/-- a turn's start: the names' dict, the list that grows, the view -/
structure CAt (s₂ : Shared) (g₀ : Heap) (I C D : Addr) (g h : Heap) (m : Str → Option Value) : Prop where
  base : Le g₀ g
  le : Le g h
  outI : g.get? I = none
  outC : g.get? C = none
  outD : g.get? D = none
  newC : s₂.heap.objs.size ≤ C
  newD : s₂.heap.objs.size ≤ D
  neCD : C ≠ D
  old : ∀ b o, b ≠ I → s₂.heap.get? b = some o → h.get? b = some o
  ns : h.Ns C m
  hasI : ∃ o, h.get? I = some o

theorem comp_blockR {elt iter target : Expr} {ifs : List Expr} {scope : Scope} {cl : List (Str × Addr)} {pos : Pos} {env : Env} {s₂ : Shared} {I : Addr} {fp : List Addr} {n : Nat} {P : Nat → Value → Prop} {St : Nat → Heap → Prop} {g₀ : Heap} {RR : Value → Addr → Result → Shared → Prop}
    (J : Nat → List Value → Heap → Prop) (W : Walks prog w A I fp [I] n P St) (hsz : n ≤ sizeLine)
    (hcell : ∀ y ∈ scope.names, y.2 ≠ .cell) (hkind : scope.kind = .function) (hst : St 0 s₂.heap) (hfp : ∀ b ∈ fp, b < s₂.heap.objs.size) (hI : I ∈ fp) (hIo : ∀ i h, St i h → ∃ o, h.get? I = some o)
    (hg : Le g₀ s₂.heap) (hgI : g₀.get? I = none) (h0 : J 0 [] g₀)
    (step : ∀ i v ys g h tk C D m, i < n → P i v → J i ys g → ys.length ≤ i → CAt s₂ g₀ I C D g h m → h.get? D = some (lst ys) →
      wpAny (model prog w) A (letOwnedTupleGo target (.ref I) v) (fun _ s₁ => wpAny (model prog w) A (assign target (compEnvC scope cl C env) v) (fun _ s₁' =>
        wpAny (model prog w) A (forIn ifs true fun c r => if r = true then do let ok ← isTrue c (compEnvC scope cl C env) (eval c (compEnvC scope cl C env)); pure (ForInStep.yield ok) else pure (ForInStep.yield r)) (fun ok s₃ =>
          if ok = true then wpAny (model prog w) A (eval elt (compEnvC scope cl C env)) (fun y s₄ => CEnd s₂ h g I C D (J (i + 1) (ys ++ [y])) s₄) Nope s₃
          else CEnd s₂ h g I C D (J (i + 1) ys) s₃) Nope s₁') Nope s₁) Nope { s₂ with heap := h, toks := tk })
    (fin : ∀ D C h tk ys g m', J n ys g → Le g₀ g → Le g h → g.get? D = none → g.get? C = none → C ≠ D → s₂.heap.objs.size ≤ C → h.Ns C m' → h.get? D = some (lst ys) → (∀ b o, b ≠ I → s₂.heap.get? b = some o → h.get? b = some o) → s₂.heap.objs.size ≤ D → RR (.ref D) C (.ok .next) { s₂ with heap := h, toks := tk }) :
    wpAny (model prog w) A (newList []) (fun acc s₃ => wpAny (model prog w) A (newFunctionEnv scope env.globals cl [] env.qual none .none (some env)) (fun cenv s₄ =>
      codeAny (model prog w) A (.compStart (.ListComp elt [⟨target, iter, ifs, 0⟩] scope pos) 0 (.ref I) acc { cenv with scope := relabel scope env }) (RR acc cenv.locals) s₄) E s₃) E s₂ := by
  refine wpAny_newObj_type (wpAny_newFunctionEnv hcell (by intro y hy; simp at hy) (fun h₁ hns₁ hsb₁ => ?_) hkind)
  dsimp only at hns₁ hsb₁ ⊢
  generalize hH2 : s₂.heap.push { cls := .type "list", dict := none, data := .seq ([] : List Value).toArray } = H2 at hns₁ hsb₁ ⊢
  have hC : H2.objs.size = s₂.heap.objs.size + 1 := by rw [← hH2, Heap.size_push]
  have hDC : s₂.heap.objs.size ≠ H2.objs.size := by rw [hC]; exact Nat.ne_of_lt (Nat.lt_succ_self _)
  have below : ∀ b, b < s₂.heap.objs.size → b ≠ H2.objs.size ∧ b ≠ s₂.heap.objs.size := fun b hb => ⟨by rw [hC]; exact Nat.ne_of_lt (Nat.lt_succ_of_lt hb), Nat.ne_of_lt hb⟩
  have hDf : s₂.heap.objs.size ∉ fp := fun hm => Nat.lt_irrefl _ (hfp _ hm)
  have hCf : H2.objs.size ∉ fp := fun hm => by have := hfp _ hm; rw [hC] at this; exact Nat.lt_irrefl _ (Nat.lt_of_succ_lt this)
  have hIlt : I < s₂.heap.objs.size := hfp I hI
  have old : ∀ b o, s₂.heap.get? b = some o → h₁.get? b = some o := fun b o e => hsb₁.extBut b o (below b (Heap.lt_size e)).1 (Heap.get?_push_of_some _ (hH2 ▸ Heap.get?_push_of_some _ e))
  have hacc : h₁.get? s₂.heap.objs.size = some (lst []) := hsb₁.extBut _ _ hDC (Heap.get?_push_of_some _ (hH2 ▸ Heap.get?_push_size _ rfl))
  have hst₁ : St 0 h₁ := W.frame _ _ _ hst fun b _ o e => old b o e
  have fresh : ∀ a, s₂.heap.objs.size ≤ a → g₀.get? a = none := fun a ha => by
    cases e : g₀.get? a with
    | none => rfl
    | some o' => exact absurd (Heap.lt_size (hg a o' e)) (Nat.not_lt.mpr ha)
  have hCI : I ≠ H2.objs.size := (below I hIlt).1
  have hDI : I ≠ s₂.heap.objs.size := (below I hIlt).2
  have loop : ∀ s₃ : Shared, s₃ = { s₂ with heap := h₁, toks := s₂.toks + ([] : List (Str × Value)).length } →
      codeAny (model prog w) A (.compLoop (.ListComp elt [⟨target, iter, ifs, 0⟩] scope pos) 0 (.ref I) (.ref s₂.heap.objs.size) (compEnvC scope cl H2.objs.size env))
        (RR (.ref s₂.heap.objs.size) H2.objs.size) s₃ := by
    rintro s₃ rfl
    refine compLoop_gen
      (fun k s' => ∃ h' tk i ys m' g, s' = { s₂ with heap := h', toks := tk } ∧ i ≤ n ∧ k = n + 1 - i ∧ ys.length ≤ i ∧ St i h' ∧ CAt s₂ g₀ I H2.objs.size s₂.heap.objs.size g h' m' ∧ h'.get? s₂.heap.objs.size = some (lst ys) ∧ J i ys g) ?_ (n + 1)
      ⟨h₁, _, 0, [], _, g₀, rfl, Nat.zero_le _, rfl, Nat.zero_le _, hst₁, ⟨Le.refl _, fun b o e => old b o (hg b o e), hgI, fresh _ (by rw [hC]; exact Nat.le_succ _), fresh _ (Nat.le_refl _), by rw [hC]; exact Nat.le_succ _, Nat.le_refl _, Ne.symm hDC, fun b o _ e => old b o e, hns₁, hIo _ _ hst₁⟩, hacc, h0⟩
    rintro k s' ⟨h', tk, i, ys, m', g, rfl, hi, rfl, hyl, hst', cat, hD', hJ⟩
    by_cases hlt : i < n
    · refine W.item i _ _ _ hlt hst' fun v h₂ tk₂ hPv hst₂ hk₂ => ?_
      have hk : ∀ b o, b ≠ I → h'.get? b = some o → h₂.get? b = some o := fun b o q e => hk₂ b o (by simpa using q) e
      have cat₂ : CAt s₂ g₀ I H2.objs.size s₂.heap.objs.size g h₂ m' := ⟨cat.base, fun b o e => hk b o (fun q => by rw [q, cat.outI] at e; cases e) (cat.le b o e), cat.outI, cat.outC, cat.outD, cat.newC, cat.newD, cat.neCD, fun b o q e => hk b o q (cat.old b o q e), cat.ns.at' fun o e => hk _ o (Ne.symm hCI) e, hIo _ _ hst₂⟩
      have hD₂ := hk _ _ (Ne.symm hDI) hD'
      have fin2 : ∀ (ys' : List Value) s₄, ys'.length ≤ i + 1 → CEnd s₂ h₂ g I H2.objs.size s₂.heap.objs.size (J (i + 1) ys') s₄ → s₄.heap.get? s₂.heap.objs.size = some (lst ys) ∧
          ∀ h₅ , Heap.SameBut s₂.heap.objs.size s₄.heap h₅ → h₅.get? s₂.heap.objs.size = some (lst ys') → ∃ m, m < n + 1 - i ∧ ∃ h' tk i ys m' g, { s₄ with heap := h₅ } = { s₂ with heap := h', toks := tk } ∧ i ≤ n ∧ m = n + 1 - i ∧ ys.length ≤ i ∧ St i h' ∧ CAt s₂ g₀ I H2.objs.size s₂.heap.objs.size g h' m' ∧ h'.get? s₂.heap.objs.size = some (lst ys) ∧ J i ys g := by
        rintro ys' s₄ hy' ⟨h₄, tk₄, g₄, m₄, rfl, hn₄, l24, lg, lg4, ⟨oI, oC, oD⟩, hJ'⟩
        refine ⟨l24 _ _ hDC hD₂, fun h₅ hs₅ hD₅ => ?_⟩
        have st5 : St (i + 1) h₅ := W.frame _ _ _ hst₂ fun b hb o e => hs₅.extBut b o (fun q => hDf (q ▸ hb)) (l24 _ _ (fun q => hCf (q ▸ hb)) e)
        refine ⟨n + 1 - (i + 1), by omega, h₅, tk₄, i + 1, ys', m₄, g₄, rfl, hlt, rfl, hy', st5, ⟨cat₂.base.trans lg, fun b o e => hs₅.extBut b o (fun q => by rw [q, oD] at e; cases e) (lg4 b o e), oI, oC, oD, cat.newC, cat.newD, cat.neCD, fun b o q e => ?_, ?_, hIo _ _ st5⟩, hD₅, hJ'⟩
        · have hb := below b (Heap.lt_size e)
          exact hs₅.extBut b o hb.2 (l24 _ _ hb.1 (cat₂.old b o q e))
        · exact hn₄.sameBut hs₅ (Ne.symm hDC)
      refine wpAny_mono (step i v ys g h₂ tk₂ _ _ m' hlt hPv hJ hyl cat₂ hD₂) (fun _ s₁ q₁ => wpAny_mono q₁ (fun _ s₁' q₂ => wpAny_mono q₂ (fun ok s₃ q₃ => ?_) fun _ _ x => x) fun _ _ x => x) fun _ _ x => x
      cases ok with
      | false =>
        simp only [Bool.false_eq_true, if_false] at q₃ ⊢
        obtain ⟨f1, f2⟩ := fin2 ys s₃ (by omega) q₃
        exact f2 s₃.heap (.refl ..) f1
      | true =>
        simp only [if_true] at q₃ ⊢
        refine wpAny_mono q₃ (fun y s₄ q₄ => ?_) fun _ _ x => x
        obtain ⟨f1, f2⟩ := fin2 (ys ++ [y]) s₄ (by simp; omega) q₄
        refine append_at (hsz := by show ys.toArray.size ≤ sizeLine; rw [List.size_toArray]; exact Nat.le_trans hyl (Nat.le_trans hi hsz)) f1 fun h₅ hs₅ hD₅ => ?_
        exact f2 h₅ hs₅ (hD₅.trans (congrArg some (lst_snoc ys y)))
    · obtain rfl : i = n := Nat.le_antisymm hi (Nat.not_lt.mp hlt)
      refine W.done _ _ _ hst' fun h₂ tk₂ hk₂ => ?_
      have hk : ∀ b o, b ≠ I → h'.get? b = some o → h₂.get? b = some o := fun b o q e => hk₂ b o (by simpa using q) e
      exact fin _ _ h₂ tk₂ ys g m' hJ cat.base (fun b o e => hk b o (fun q => by rw [q, cat.outI] at e; cases e) (cat.le b o e)) cat.outD cat.outC cat.neCD cat.newC (cat.ns.at' fun o e => hk _ o (Ne.symm hCI) e) (hk _ _ (Ne.symm hDI) hD') (fun b o q e => hk b o q (cat.old b o q e)) cat.newD
  exact codeAny_compStart_list (loop _ rfl) (W.self 0 _ _ _ hst₁ (loop _ rfl))
end
end

section
open PySem PySem.W PyProof.Rows PySem.Calls PyProof.Rows.LCg

/-- the objects of h at the addresses of p -/
noncomputable def vw (h : Heap) (p : Addr → Bool) : Heap := ⟨h.objs.mapIdx fun i o => if p i then o else { o with data := .freed }, h.life⟩
theorem vw_get (h : Heap) (p : Addr → Bool) (b : Addr) : (vw h p).get? b = if p b then h.get? b else none := by
  unfold vw Heap.get?
  simp only [Array.getElem?_mapIdx]
  cases e : h.objs[b]? with
  | none => simp
  | some o =>
    by_cases hp : p b
    · simp [hp]
    · simp [hp]
theorem vw_size (h : Heap) (p : Addr → Bool) : (vw h p).objs.size = h.objs.size := by simp [vw]

/-- view and heap have grown, the view by new objects alone -/
structure Grow (g h g' h' : Heap) : Prop where
  heap : Le h h'
  view : Le g g'
  le : Le g' h'
  new : ∀ b o, g'.get? b = some o → g.get? b = some o ∨ h.get? b = none
theorem Grow.refl {g h : Heap} (l : Le g h) : Grow g h g h := ⟨Le.refl _, Le.refl _, l, fun _ _ e => .inl e⟩
theorem none_le {h h' : Heap} {b : Addr} (l : Le h h') (e : h'.get? b = none) : h.get? b = none := by
  cases q : h.get? b with
  | none => rfl
  | some o => rw [l b o q] at e; cases e
theorem Grow.trans {g h g1 h1 g2 h2 : Heap} (a : Grow g h g1 h1) (b : Grow g1 h1 g2 h2) : Grow g h g2 h2 :=
  ⟨a.heap.trans b.heap, a.view.trans b.view, b.le, fun x o e => by
    rcases b.new x o e with q | q
    · exact a.new x o q
    · exact .inr (none_le a.heap q)⟩
theorem Grow.out {g h g' h' : Heap} (a : Grow g h g' h') {b : Addr} {o : Obj} (hb : h.get? b = some o) (hg : g.get? b = none) : g'.get? b = none := by
  cases q : g'.get? b with
  | none => rfl
  | some o' =>
    rcases a.new b o' q with z | z
    · rw [hg] at z; cases z
    · rw [hb] at z; cases z
/-- new objects into the view -/
theorem Grow.add {g h h' : Heap} (l : Le g h) (k : Le h h') (R : List Addr) (hR : ∀ r ∈ R, h.get? r = none) : ∃ g', Grow g h g' h' ∧ ∀ r ∈ R, g'.get? r = h'.get? r := by
  refine ⟨vw h' fun b => (g.get? b).isSome || R.contains b, ⟨k, fun b o e => ?_, fun b o e => ?_, fun b o e => ?_⟩, fun r hr => ?_⟩
  · rw [vw_get, e]; simpa using k b o (l b o e)
  · rw [vw_get] at e
    split at e
    · exact e
    · cases e
  · rw [vw_get] at e
    split at e
    · rename_i hc
      cases q : g.get? b with
      | some o' =>
        left
        have := k b o' (l b o' q)
        rw [e] at this
        exact this.symm
      | none =>
        right
        rw [q] at hc
        exact hR b (by simpa using hc)
    · cases e
  · rw [vw_get, if_pos (by simp [hr])]
/-- all new objects into the view, but those of R -/
theorem Grow.all {g h h' : Heap} (l : Le g h) (k : Le h h') : ∃ g', Grow g h g' h' ∧ ∀ b, h.get? b = none → g'.get? b = h'.get? b := by
  refine ⟨vw h' fun b => (g.get? b).isSome || (h.get? b).isNone, ⟨k, fun b o e => ?_, fun b o e => ?_, fun b o e => ?_⟩, fun r hr => ?_⟩
  · rw [vw_get, e]; simpa using k b o (l b o e)
  · rw [vw_get] at e
    split at e
    · exact e
    · cases e
  · rw [vw_get] at e
    split at e
    · rename_i hc
      cases q : g.get? b with
      | some o' =>
        left
        have := k b o' (l b o' q)
        rw [e] at this
        exact this.symm
      | none =>
        right
        rw [q] at hc
        simpa using hc
    · cases e
  · rw [vw_get, if_pos (by simp [hr])]

section
variable {prog : Program} {w : World} {A : Around} {E : Value → Shared → Prop} {s : Shared}
/-- an element's end: the names' dict may have been written to, all else stands; the view has grown by new objects -/
noncomputable def EEnd (s : Shared) (g h : Heap) (C : Addr) (K : Heap → Prop) (s' : Shared) : Prop := ∃ h' tk' g' m', s' = { s with heap := h', toks := tk' } ∧ h'.Ns C m' ∧ (∀ b o, b ≠ C → h.get? b = some o → h'.get? b = some o) ∧ Le g g' ∧ Le g' h' ∧ (∀ b o, g'.get? b = some o → g.get? b = some o ∨ h.get? b = none) ∧ K g'
theorem EEnd.of_grow {s : Shared} {g h h' g' : Heap} {C : Addr} {m : Str → Option Value} {K : Heap → Prop} {tk : Nat} (hn : h.Ns C m) (gr : Grow g h g' h') (hK : K g') : EEnd s g h C K { s with heap := h', toks := tk } :=
  ⟨h', tk, g', m, rfl, hn.at' fun o e => gr.heap _ o e, fun b o _ e => gr.heap b o e, gr.view, gr.le, gr.new, hK⟩
/-- all that stands beside the base, as a ledger -/
theorem ledger_all {base h : Heap} {C : Addr} {m : Str → Option Value} (F : Fr base C h m) : ∃ rest, News base C h rest ∧ ∀ b o, h.get? b = some o → b = C ∨ (∃ o', base.get? b = some o') ∨ (b, o) ∈ rest := by
  refine ⟨(List.range h.objs.size).filterMap fun a => if a = C ∨ (base.get? a).isSome = true then none else (h.get? a).map fun o => (a, o), fun p hp => ?_, fun b o e => ?_⟩
  · obtain ⟨a, _, ha⟩ := List.mem_filterMap.mp hp
    split at ha
    · cases ha
    · rename_i hc
      obtain ⟨o, ho, rfl⟩ := Option.map_eq_some_iff.mp ha
      refine ⟨ho, fun q => hc (.inl q), ?_⟩
      cases q : base.get? a with
      | none => rfl
      | some o' => exact absurd (.inr (by rw [q]; rfl)) hc
  · by_cases hc : b = C ∨ (base.get? b).isSome = true
    · rcases hc with hc | hc
      · exact .inl hc
      · exact .inr (.inl (Option.isSome_iff_exists.mp hc))
    · refine .inr (.inr (List.mem_filterMap.mpr ⟨b, List.mem_range.mpr (Heap.lt_size e), ?_⟩))
      rw [if_neg hc, e]; rfl
theorem le_of_ledger {base h h' : Heap} {C : Addr} {m m' : Str → Option Value} {rest all : List (Addr × Obj)} (F : Fr base C h m) (hall : ∀ b o, h.get? b = some o → b = C ∨ (∃ o', base.get? b = some o') ∨ (b, o) ∈ rest) (F' : Fr base C h' m') (N' : News base C h' all)
    (sub : ∀ p ∈ rest, p ∈ all) : ∀ b o, b ≠ C → h.get? b = some o → h'.get? b = some o := fun b o hb e => by
  rcases hall b o e with q | ⟨o', q⟩ | q
  · exact absurd q hb
  · have := F.keep b o' q
    rw [e] at this; cases this
    exact F'.keep b _ q
  · exact (N' _ (sub _ q)).1

/-- what an element of a comprehension sees -/
structure EAt (s₁ : Shared) (g₀ : Heap) (C : Addr) (g h : Heap) (m : Str → Option Value) : Prop where
  base : Le g₀ g
  le : Le g h
  outC : g.get? C = none
  newC : s₁.heap.get? C = none
  szC : s₁.heap.objs.size ≤ C
  old : Le s₁.heap h
  ns : h.Ns C m

theorem comp_nameR {elt iter : Expr} {x : Str} {px : Pos} {ifs : List Expr} {scope : Scope} {cl : List (Str × Addr)} {pos : Pos} {env : Env} {s₁ : Shared} {oI : Obj} {fp : List Addr} {n : Nat} {P : Nat → Value → Prop} {St : Nat → Heap → Prop} {g₀ : Heap} {RR : Value → Addr → Result → Shared → Prop}
    (J : Nat → List Value → Heap → Prop) (W : Walks prog w A s₁.heap.objs.size fp [s₁.heap.objs.size] n P St) (hsz : n ≤ sizeLine)
    (hcell : ∀ y ∈ scope.names, y.2 ≠ .cell) (hkind : scope.kind = .function) (hx : scope.names.lookup x = some .local)
    (hst : St 0 (s₁.heap.push oI)) (hfp : ∀ b ∈ fp, b < s₁.heap.objs.size + 1) (hI : s₁.heap.objs.size ∈ fp) (hIo : ∀ i h, St i h → ∃ o, h.get? s₁.heap.objs.size = some o)
    (hg : Le g₀ s₁.heap) (h0 : J 0 [] g₀)
    (step : ∀ i v ys g h tk C m, i < n → P i v → J i ys g → ys.length ≤ i → EAt s₁ g₀ C g h m → m x = some v →
        wpAny (model prog w) A (forIn ifs true fun c r => if r = true then do let ok ← isTrue c (compEnvC scope cl C env) (eval c (compEnvC scope cl C env)); pure (ForInStep.yield ok) else pure (ForInStep.yield r)) (fun ok s₃ =>
          if ok = true then wpAny (model prog w) A (eval elt (compEnvC scope cl C env)) (fun y s₄ => EEnd s₁ g h C (J (i + 1) (ys ++ [y])) s₄) Nope s₃
          else EEnd s₁ g h C (J (i + 1) ys) s₃) Nope { s₁ with heap := h, toks := tk })
    (fin : ∀ D C h tk ys g m', J n ys g → Le g₀ g → Le g h → g.get? D = none → g.get? C = none → C ≠ D → s₁.heap.get? C = none → h.Ns C m' → s₁.heap.get? D = none → h.get? D = some (lst ys) → Le s₁.heap h → RR (.ref D) C (.ok .next) { s₁ with heap := h, toks := tk }) :
    wpAny (model prog w) A (newList []) (fun acc s₃ => wpAny (model prog w) A (newFunctionEnv scope env.globals cl [] env.qual none .none (some env)) (fun cenv s₄ =>
      codeAny (model prog w) A (.compStart (.ListComp elt [⟨.Name x px, iter, ifs, 0⟩] scope pos) 0 (.ref s₁.heap.objs.size) acc { cenv with scope := relabel scope env }) (RR acc cenv.locals) s₄) E s₃) E { s₁ with heap := s₁.heap.push oI } := by
  have hpush : Le s₁.heap (s₁.heap.push oI) := fun b o e => Heap.get?_push_of_some _ e
  have fresh : ∀ a, s₁.heap.objs.size ≤ a → s₁.heap.get? a = none := fun a ha => Heap.get?_none_of_le ha
  have oldI : ∀ {h : Heap}, (∀ b o, b ≠ s₁.heap.objs.size → (s₁.heap.push oI).get? b = some o → h.get? b = some o) → Le s₁.heap h := fun hk b o e => hk b o (Nat.ne_of_lt (Heap.lt_size e)) (hpush b o e)
  refine comp_blockR (s₂ := { s₁ with heap := s₁.heap.push oI }) (g₀ := g₀) J W hsz hcell hkind hst (fun b hb => by show b < (s₁.heap.push oI).objs.size; rw [Heap.size_push]; exact hfp b hb) hI hIo (hg.trans hpush) (none_le hg (fresh _ (Nat.le_refl _))) h0
    (fun i v ys g h tk C D m hi hP hJ hyl cat hD => ?_) (fun D C h tk ys g m' hJ b1 b2 b3 c1 c2 c3 c4 b4 b5 b6 => fin D C h tk ys g m' hJ b1 b2 b3 c1 c2 (fresh _ (Nat.le_trans (Nat.le_succ _) (by have b6' : (s₁.heap.push oI).objs.size ≤ C := c3; rw [Heap.size_push] at b6'; exact b6'))) c4 (fresh _ (Nat.le_trans (Nat.le_succ _) (by have b6' : (s₁.heap.push oI).objs.size ≤ D := b6; rw [Heap.size_push] at b6'; exact b6'))) b4 (oldI b5))
  refine wpAny_mono (Q := fun _ s' => s' = { s₁ with heap := h, toks := tk }) (E := Nope) (fun _ _ _ => rfl) (fun _ s' hs' => ?_) fun _ _ x => x.elim
  subst hs'
  refine wpAny_assign_Name (wpAny_storeName_local (lookup_relabel_local hx) cat.ns (fun h₁ hn₁ hs₁ => ?_) (by simp [compEnvC, relabel, hkind]))
  have hCn : s₁.heap.objs.size + 1 ≤ C := by have := cat.newC; have this' : (s₁.heap.push oI).objs.size ≤ C := this; rw [Heap.size_push] at this'; exact this'
  have hDn : s₁.heap.objs.size + 1 ≤ D := by have := cat.newD; have this' : (s₁.heap.push oI).objs.size ≤ D := this; rw [Heap.size_push] at this'; exact this'
  have le₁ : Le g h₁ := fun b o e => hs₁.extBut b o (fun q => by have q' : b = C := q; rw [q', cat.outC] at e; cases e) (cat.le b o e)
  have ce : ∀ {K : Heap → Prop} {s' : Shared}, EEnd s₁ g h₁ C K s' → CEnd { s₁ with heap := s₁.heap.push oI } h g s₁.heap.objs.size C D K s' := by
    rintro K s' ⟨h', tk', g', m', rfl, hn', hk', lg, lg', new, hK⟩
    have out : ∀ b o, h₁.get? b = some o → g.get? b = none → g'.get? b = none := fun b o e1 e2 => by
      cases q : g'.get? b with
      | none => rfl
      | some o' =>
        rcases new b o' q with z | z
        · rw [e2] at z; cases z
        · rw [e1] at z; cases z
    refine ⟨h', tk', g', m', rfl, hn', fun b o q e => hk' b o q (hs₁.extBut b o q e), lg, lg', ⟨?_, ?_, ?_⟩, hK⟩
    · obtain ⟨o, ho⟩ := cat.hasI
      exact out _ o (hs₁.extBut _ o (Nat.ne_of_lt (Nat.lt_of_succ_le hCn)) ho) cat.outI
    · obtain ⟨oC, _, _, eC, _⟩ := id hn₁
      exact out _ _ eC cat.outC
    · exact out _ _ (hs₁.extBut D _ (Ne.symm cat.neCD) hD) cat.outD
  refine wpAny_mono (step i v ys g h₁ _ C _ hi hP hJ hyl ⟨cat.base, le₁, cat.outC, fresh _ (Nat.le_trans (Nat.le_succ _) hCn), Nat.le_trans (Nat.le_succ _) hCn, fun b o e => hs₁.extBut b o (fun q => absurd (show C < s₁.heap.objs.size from (show b = C from q) ▸ Heap.lt_size e) (Nat.not_lt.mpr (Nat.le_trans (Nat.le_succ _) hCn))) (oldI cat.old b o e), hn₁⟩ (by simp)) (fun ok s₃ q => ?_) fun _ _ x => x
  cases ok with
  | false => simp only [Bool.false_eq_true, if_false] at q ⊢; exact ce q
  | true => simp only [if_true] at q ⊢; exact wpAny_mono q (fun y s₄ q' => ce q') fun _ _ x => x

theorem comp_listU {elt iter : Expr} {x : Str} {px : Pos} {ifs : List Expr} {scope : Scope} {cl : List (Str × Addr)} {pos pos2 : Pos} {env : Env} {ax : Addr} {items : Array Value} {g₀ : Heap} {use : Option (Value → Sem Unit)} {Q : Value → Shared → Prop}
    (J : Nat → List Value → Heap → Prop) (hh : A.handled = none) (hclos : closureFor scope env = pure cl) (hcell : ∀ y ∈ scope.names, y.2 ≠ .cell) (hkind : scope.kind = .function)
    (hnames : ∀ y ∈ scope.names, y.2 = .local → scope.names.lookup y.1 = some .local) (hx : scope.names.lookup x = some .local)
    (src : ∀ Q' : Value → Shared → Prop, Q' (.ref ax) s → wpAny (model prog w) A (eval iter env) Q' E s) (hl : s.heap.IsList ax items) (hsz : items.size ≤ sizeLine) (hg : Le g₀ s.heap) (h0 : J 0 [] g₀)
    (step : ∀ i v ys g h tk C m, items[i]? = some v → J i ys g → ys.length ≤ i → EAt s g₀ C g h m → m x = some v →
        wpAny (model prog w) A (forIn ifs true fun c r => if r = true then do let ok ← isTrue c (compEnvC scope cl C env) (eval c (compEnvC scope cl C env)); pure (ForInStep.yield ok) else pure (ForInStep.yield r)) (fun ok s₃ =>
          if ok = true then wpAny (model prog w) A (eval elt (compEnvC scope cl C env)) (fun y s₄ => EEnd s g h C (J (i + 1) (ys ++ [y])) s₄) Nope s₃
          else EEnd s g h C (J (i + 1) ys) s₃) Nope { s with heap := h, toks := tk })
    (fin : ∀ D C h tk ys g m', J items.size ys g → Le g₀ g → Le g h → g.get? D = none → g.get? C = none → C ≠ D → s.heap.get? C = none → h.Ns C m' → s.heap.get? D = none → h.get? D = some (lst ys) → Le s.heap h → compPost (model prog w) A E use Q (.ref D) C (.ok .next) { s with heap := h, toks := tk })
    (hs : ∀ x, foldedSetIterable iter env x = pure x := by intro _; rfl) :
    wpAny (model prog w) A (comprehension (.ListComp elt [⟨.Name x px, iter, ifs, 0⟩] scope pos) scope env pos2 (newList []) false (eval iter env) use) Q E s := by
  refine wpAny_comprehension_free (use := use) rfl hs hclos hkind hnames (src _ (wpAny_pyIter_list hl ?_))
  have hlt : ax < s.heap.objs.size := by obtain ⟨_, e, _⟩ := hl; exact Heap.lt_size e
  refine comp_nameR (RR := fun acc C => compPost (model prog w) A E use Q acc C) (oI := { cls := .type "list_iterator", data := .fields #[.ref ax, .int 0 0] }) J (Walks.list hh s.heap.objs.size ax (Nat.ne_of_lt hlt) items) hsz hcell hkind hx ⟨⟨_, Heap.get?_push_size _ rfl, rfl, rfl⟩, hl.push _⟩ (fun b hb => ?_) (by simp) (fun i h st => by obtain ⟨o, e, _⟩ := st.1; exact ⟨o, e⟩) hg h0
    (fun i v ys g h tk C m _ hP => step i v ys g h tk C m hP) fin
  rcases List.mem_cons.mp hb with rfl | hb
  · exact Nat.lt_succ_self _
  · rw [List.mem_singleton.mp hb]; exact Nat.lt_succ_of_lt hlt


theorem comp_list {elt iter : Expr} {x : Str} {px : Pos} {ifs : List Expr} {scope : Scope} {cl : List (Str × Addr)} {pos : Pos} {env : Env} {ax : Addr} {items : Array Value} {g₀ : Heap} {Q : Value → Shared → Prop}
    (J : Nat → List Value → Heap → Prop) (hh : A.handled = none) (hclos : closureFor scope env = pure cl) (hcell : ∀ y ∈ scope.names, y.2 ≠ .cell) (hkind : scope.kind = .function)
    (hnames : ∀ y ∈ scope.names, y.2 = .local → scope.names.lookup y.1 = some .local) (hx : scope.names.lookup x = some .local)
    (src : ∀ Q' : Value → Shared → Prop, Q' (.ref ax) s → wpAny (model prog w) A (eval iter env) Q' E s) (hl : s.heap.IsList ax items) (hsz : items.size ≤ sizeLine) (hg : Le g₀ s.heap) (h0 : J 0 [] g₀)
    (step : ∀ i v ys g h tk C m, items[i]? = some v → J i ys g → ys.length ≤ i → EAt s g₀ C g h m → m x = some v →
        wpAny (model prog w) A (forIn ifs true fun c r => if r = true then do let ok ← isTrue c (compEnvC scope cl C env) (eval c (compEnvC scope cl C env)); pure (ForInStep.yield ok) else pure (ForInStep.yield r)) (fun ok s₃ =>
          if ok = true then wpAny (model prog w) A (eval elt (compEnvC scope cl C env)) (fun y s₄ => EEnd s g h C (J (i + 1) (ys ++ [y])) s₄) Nope s₃
          else EEnd s g h C (J (i + 1) ys) s₃) Nope { s with heap := h, toks := tk })
    (fin : ∀ D h tk ys g, J items.size ys g → Le g₀ g → Le g h → g.get? D = none → s.heap.get? D = none → h.get? D = some (lst ys) → Le s.heap h → Q (.ref D) { s with heap := h, toks := tk })
    (hs : ∀ x, foldedSetIterable iter env x = pure x := by intro _; rfl) :
    wpAny (model prog w) A (eval (.ListComp elt [⟨.Name x px, iter, ifs, 0⟩] scope pos) env) Q E s := by
  rw [eval_ListComp]
  refine comp_listU (use := none) J hh hclos hcell hkind hnames hx src hl hsz hg h0 step (fun D C h tk ys g m' hJ b1 b2 b3 c1 c2 c3 c4 b4 b5 b6 => ?_) hs
  exact ⟨m', c4, fun h'' hs'' => fin D h'' tk ys g hJ b1 (fun b o e => hs''.extBut b o (fun q => by rw [q, c1] at e; cases e) (b2 b o e)) b3 b4 (hs''.extBut _ _ (Ne.symm c2) b5) (fun b o e => hs''.extBut b o (fun q => by rw [q, c3] at e; cases e) (b6 b o e))⟩

theorem comp_range {elt iter : Expr} {x : Str} {px : Pos} {ifs : List Expr} {scope : Scope} {cl : List (Str × Addr)} {pos : Pos} {env : Env} {n : Nat} {g₀ : Heap} {Q : Value → Shared → Prop}
    (J : Nat → List Value → Heap → Prop) (hh : A.handled = none) (hclos : closureFor scope env = pure cl) (hcell : ∀ y ∈ scope.names, y.2 ≠ .cell) (hkind : scope.kind = .function)
    (hnames : ∀ y ∈ scope.names, y.2 = .local → scope.names.lookup y.1 = some .local) (hx : scope.names.lookup x = some .local)
    (src : ∀ Q' : Value → Shared → Prop, (∀ r h₁ tk t u v, Le s.heap h₁ → s.heap.objs.size ≤ h₁.objs.size → IsRange h₁ r 0 (n : Int) 1 t u v → Q' (.ref r) { s with heap := h₁, toks := tk }) → wpAny (model prog w) A (eval iter env) Q' E s) (hsz : n ≤ 1000) (hg : Le g₀ s.heap) (h0 : J 0 [] g₀)
    (step : ∀ i t ys g h tk C m, i < n → J i ys g → ys.length ≤ i → EAt s g₀ C g h m → m x = some (.int (i : Int) t) →
        wpAny (model prog w) A (forIn ifs true fun c r => if r = true then do let ok ← isTrue c (compEnvC scope cl C env) (eval c (compEnvC scope cl C env)); pure (ForInStep.yield ok) else pure (ForInStep.yield r)) (fun ok s₃ =>
          if ok = true then wpAny (model prog w) A (eval elt (compEnvC scope cl C env)) (fun y s₄ => EEnd s g h C (J (i + 1) (ys ++ [y])) s₄) Nope s₃
          else EEnd s g h C (J (i + 1) ys) s₃) Nope { s with heap := h, toks := tk })
    (fin : ∀ D h tk ys g, J n ys g → Le g₀ g → Le g h → g.get? D = none → s.heap.get? D = none → h.get? D = some (lst ys) → Le s.heap h → Q (.ref D) { s with heap := h, toks := tk })
    (hs : ∀ x, foldedSetIterable iter env x = pure x := by intro _; rfl) :
    wpAny (model prog w) A (eval (.ListComp elt [⟨.Name x px, iter, ifs, 0⟩] scope pos) env) Q E s := by
  rw [eval_ListComp]
  have hrs : Builtin.Range.rangeSize 0 (n : Int) 1 = ((n : Nat) : Int) := by
    unfold Builtin.Range.rangeSize
    simp
    try omega
  have hsm : Builtin.Range.small 0 (n : Int) 1 = true := by
    have f : ∀ k : Nat, k ≤ 1000 → Builtin.Range.rangeFitsLong (k : Int) = true := fun k hk => by
      unfold Builtin.Range.rangeFitsLong
      simp
      omega
    have f0 : Builtin.Range.rangeFitsLong 0 = true := by decide
    have f1 : Builtin.Range.rangeFitsLong 1 = true := by decide
    have fn := f n hsz
    unfold Builtin.Range.small
    rw [hrs]
    simp [fn, f0, f1]
  refine wpAny_comprehension_free (use := none) rfl hs hclos hkind hnames (src _ fun r h₁ tk₁ t u v le₁ sz₁ hr => wpAny_pyIter_range hr hsm ?_)
  rw [hrs]
  refine comp_nameR (RR := fun acc C => compPost (model prog w) A E none Q acc C) (s₁ := { s with heap := h₁, toks := tk₁ }) (oI := { cls := .type "range_iterator", data := .fields #[rawInt 0, rawInt ((n : Nat) : Int), rawInt 1] }) J (range_walks hh 0 n) (Nat.le_trans hsz (by rw [sizeLine_eq]; omega)) hcell hkind hx (by show IsRangeIter _ _ _ _ _; simpa using Heap.get?_push_size _ rfl) (fun b hb => ?_) (by simp) (fun i h st => ⟨_, st⟩) (hg.trans le₁) h0
    (fun i v ys g h tk C m hi hP hJ hyl ea hm => ?_) (fun D C h tk ys g m' a1 a2 a3 a4 c1 c2 c3 c4 a5 a6 a7 => ⟨m', c4, fun h'' hs'' => fin D h'' tk ys g a1 a2 (fun b o e => hs''.extBut b o (fun q => by rw [q, c1] at e; cases e) (a3 b o e)) a4 (none_le le₁ a5) (hs''.extBut _ _ (Ne.symm c2) a6) (fun b o e => hs''.extBut b o (fun q => by have e' := le₁ b o e; rw [q] at e'; rw [c3] at e'; cases e') (a7 b o (le₁ b o e)))⟩)
  · rw [List.mem_singleton.mp hb]; exact Nat.lt_succ_self _
  · obtain ⟨t', rfl⟩ := hP
    exact step i t' ys g h tk C m hi hJ hyl ⟨ea.base, ea.le, ea.outC, none_le le₁ ea.newC, Nat.le_trans sz₁ ea.szC, le₁.trans ea.old, ea.ns⟩ (by rw [hm]; simp)
end
end

section
open PySem PySem.W PyProof.Rows PySem.Calls PyProof.Rows.LCg

theorem enterC {prog : Program} {w : World} {A : Around} {E : Value → Shared → Prop} {s : Shared} {K : Frag} {g : Heap} {Q : Value → Shared → Prop}
    {name qual : Str} {params : Arguments} {body : List Stmt} {scope : Scope} {dV kV doc pm cdv ct oc : Value} {an od : Option Addr} {osl : Array (Option Value)} {f : Addr} {args : List Value} {binds : List (Str × Value)}
    (X : K.In g) (hlim : g.NoLimit) (l : Le g s.heap) (hsz : g.objs.size ≤ s.heap.objs.size)
    (ho : K.lookup f = some ⟨oc, od, .func (fnOf name qual params body scope dV kV doc pm an cdv ct), osl⟩) (hcd : codeIn K cdv qual = true) (hroom : A.depth < recursionLimit)
    (hbind : BindsTo s (fnOf name qual params body scope dV kV doc pm an cdv ct) ⟨args, []⟩ binds) (hkind : (binds.all fun y => scope.names.lookup y.1 == some .local || scope.names.lookup y.1 == some .cell) = true)
    (hnd : ((cellsFrom 0 scope.names []).map (·.1)).Nodup)
    (h : ∀ h₁ tk cells, Fr g s.heap.objs.size h₁ (bindL (envOfC qual scope s.heap.objs.size f cdv).kindOf binds fun _ => none) → News g s.heap.objs.size h₁ cells →
      CellsAre (bindC (envOfC qual scope s.heap.objs.size f cdv).kindOf binds fun _ => none) (cellsFrom (s.heap.objs.size + 1) scope.names []) cells → Le s.heap h₁ →
      wpAny (model prog w) (A.deeper (envOfC qual scope s.heap.objs.size f cdv)) (execs body (envOfC qual scope s.heap.objs.size f cdv))
        (fun fl s' => Q (match fl with | .ret v => v | _ => .none) s')
        (fun _ _ => False)
        { s with heap := h₁, toks := tk })
    (hco : scope.isCoroutine = false) (hgen : scope.isGenerator = false) (hk : scope.kind = .function) :
    wpAny (model prog w) A (call (.ref f) args) Q E s := by
  refine wpAny_call ?_
  refine codeAny_call_function (fd := fnOf name qual params body scope dV kV doc pm an cdv ct) (body := body) hroom (X.keeps l _ _ ho) rfl hco hgen rfl (codeRec_of (X.keeps l) hcd) (hbind _ _ _ _ ?_)
  refine wpAny_newFunctionEnv_cells hk (kindsX hkind _) fun env' he s' x => ?_
  subst he
  refine ⟨(hlim.keeps l).keeps x.toInCall.keep, codeAny_func ?_⟩
  obtain ⟨h₁, tk, rfl, _⟩ := x.done
  have hk₁ := x.toInCall.keep
  obtain ⟨cells, NC, Y⟩ := Cl.news (h₀ := s.heap) (Nat.le_refl _) fun n c hm => ⟨x.cell n c (lookup_of_mem_nodup (cellsFrom_names scope.names 0 (s.heap.objs.size + 1) [] [] rfl ▸ hnd) hm), x.above n c hm⟩
  refine wpAny_mono (h h₁ tk cells ⟨x.toInCall.ns, fun b o e => hk₁ b o (l b o e), hsz⟩ (fun p hp => ⟨(NC p hp).1, (NC p hp).2.1, none_le l (NC p hp).2.2⟩) Y hk₁) (fun fl s' h' => h') (fun _ _ x => x.elim)
end

section
open PySem PySem.W PyProof.Rows PySem.Calls PySem.SeqAt

theorem dedP_any (ps : List PP) (x : List Bool) : ((ps.foldl dedStep []).any fun q => q.2 == x) = ps.any fun q => q.2 == x := by
  have : ∀ (ps acc : List PP), ((ps.foldl dedStep acc).any fun q => q.2 == x) = (acc.any (fun q => q.2 == x) || ps.any fun q => q.2 == x) := by
    intro ps
    induction ps with
    | nil => intro acc; simp
    | cons p r ih =>
      intro acc
      rw [List.foldl_cons, ih, List.any_cons]
      unfold dedStep
      split
      · rename_i hc
        cases hx : p.2 == x with
        | false => simp
        | true =>
          have : (acc.any fun q => q.2 == x) = true := by rw [← eq_of_beq hx]; exact hc
          simp [this]
      · simp [Bool.or_assoc]
  simpa using this ps []

theorem once_c {w : World} {A : Around} {E : Value → Shared → Prop} {s : Shared} {g : Heap} {Q : Value → Shared → Prop} {l : Addr} {ps₀ : List PP} (a : Amb w g) (lg : Le g s.heap) (r : Room 6 A)
    (hl : g.IsList l (ps₀.map (·.1)).toArray) (hr : ∀ q ∈ ps₀, Rd g q.1 (dW q.2)) (hlen : ps₀.length ≤ 800)
    (hQ : ∀ h' tk r n', Le s.heap h' → s.heap.get? r = none → h'.get? r = some (listOf ((dedP ps₀).map (·.1)).toArray n') → Q (.ref r) { s with heap := h', toks := tk }) :
    wpAny (model Challenge.rw_ny0132_01.row.prog w) A (call (.ref 195) [.ref l]) Q E s := by
  have a' := a.le lg
  obtain ⟨X, mean, mg, mb, T⟩ := a'
  revert X; k_fill; intro X
  have hr' : ∀ q ∈ ps₀, Rd s.heap q.1 (dW q.2) := fun q hq => (hr q hq).le lg
  have hl' : s.heap.IsList l (ps₀.map (·.1)).toArray := hl.at fun o e => lg _ o e
  refine weaken r ?_
  refine enterC (binds := [(Str.ofString "ways", .ref l)]) X T.nolimit (Le.refl _) (Nat.le_refl _) (by k_is) (by k_is) (by show 346 < recursionLimit; decide) (BindsTo.of_eq rfl) (by rfl) (by decide) (fun h₁ tk₁ cells F N Y L₁ => ?_) rfl rfl rfl
  show wpAny _ _ _ _ _ _
  obtain ⟨o, rfl, d1⟩ := CellsAre.one Y
  generalize hL : s.heap.objs.size = L at *
  k_fold
  (repeat' (first | (k_unfold; (try dsimp only)) | ((((fail_if_success (with_reducible show wpAny _ _ (exec (Stmt.While _ _ _ _) _) _ _ _)); (fail_if_success (with_reducible show wpAny _ _ (exec (Stmt.For _ _ _ _ _) _) _ _ _)); (fail_if_success (with_reducible show wpAny _ _ (call (Value.ref _) _ _) _ _ _)); (fail_if_success (with_reducible show wpAny _ _ (eval (Expr.ListComp _ _ _ _) _) _ _ _)))); (first | ((with_reducible show wpAny _ _ (storeName (envOf _ _ _ _ _) _ _) _ _ _); k_here; (with_reducible show wpAny _ _ (storeName (envOf _ _ _ _ _) _ _) _ _ _); k_dflt (refine' stG ?k1 ?k2 ?k3 ?k4 ?_; (case k1 => k_asm); (case k2 => k_asm); (case k3 => exact rfl); (case k4 => exact rfl); k_whole); intro sgH sgT sgM sgE sgD sgF sgN; (try k_sweep)) | (k_here; (with_reducible show wpAny _ _ (eval (Expr.Name _ _) (compEnvC _ _ _ _)) _ _ _); (with_reducible rename Fr _ _ _ _ => kF); k_dflt (refine' cname kF ?k2 ?_ ?k3 ?k4; (case k3 => exact rfl); (case k4 => exact rfl); (case k2 => ((repeat' (first | (with_reducible assumption) | exact if_pos rfl | refine Eq.trans (if_neg (by decide)) ?_ | (refine Eq.trans (stG_at (by with_reducible assumption) (by decide)) ?_) | exact rfl)); done)); k_whole)) | (k_here; (with_reducible show wpAny _ _ (eval (Expr.Name _ _) (envOf _ _ _ _ _)) _ _ _); (with_reducible rename Fr _ _ _ _ => kF); k_dflt (refine' ld kF ?k2 ?_; (case k2 => ((repeat' (first | (with_reducible assumption) | exact if_pos rfl | refine Eq.trans (if_neg (by decide)) ?_ | (refine Eq.trans (stG_at (by with_reducible assumption) (by decide)) ?_) | exact rfl)); done)); k_whole)) | (k_here; (with_reducible show wpAny _ _ (call (Value.builtin "len") [Value.ref _]) _ _ _); k_dflt (refine' len_B ?k1 ?k2 ?_; (case k1 => is_list); (case k2 => (simp only [List.length_map, List.length_append, List.length_cons, List.length_nil]; omega)); k_whole); intro _) | walk1)) | ((((fail_if_success (with_reducible show wpAny _ _ (exec (Stmt.While _ _ _ _) _) _ _ _)); (fail_if_success (with_reducible show wpAny _ _ (exec (Stmt.For _ _ _ _ _) _) _ _ _)); (fail_if_success (with_reducible show wpAny _ _ (call (Value.ref _) _ _) _ _ _)); (fail_if_success (with_reducible show wpAny _ _ (eval (Expr.ListComp _ _ _ _) _) _ _ _)))); dsimp only; (((fail_if_success (with_reducible show wpAny _ _ (exec (Stmt.While _ _ _ _) _) _ _ _)); (fail_if_success (with_reducible show wpAny _ _ (exec (Stmt.For _ _ _ _ _) _) _ _ _)); (fail_if_success (with_reducible show wpAny _ _ (call (Value.ref _) _ _) _ _ _)); (fail_if_success (with_reducible show wpAny _ _ (eval (Expr.ListComp _ _ _ _) _) _ _ _)))); (first | ((with_reducible show wpAny _ _ (storeName (envOf _ _ _ _ _) _ _) _ _ _); k_here; (with_reducible show wpAny _ _ (storeName (envOf _ _ _ _ _) _ _) _ _ _); k_dflt (refine' stG ?k1 ?k2 ?k3 ?k4 ?_; (case k1 => k_asm); (case k2 => k_asm); (case k3 => exact rfl); (case k4 => exact rfl); k_whole); intro sgH sgT sgM sgE sgD sgF sgN; (try k_sweep)) | (k_here; (with_reducible show wpAny _ _ (eval (Expr.Name _ _) (compEnvC _ _ _ _)) _ _ _); (with_reducible rename Fr _ _ _ _ => kF); k_dflt (refine' cname kF ?k2 ?_ ?k3 ?k4; (case k3 => exact rfl); (case k4 => exact rfl); (case k2 => ((repeat' (first | (with_reducible assumption) | exact if_pos rfl | refine Eq.trans (if_neg (by decide)) ?_ | (refine Eq.trans (stG_at (by with_reducible assumption) (by decide)) ?_) | exact rfl)); done)); k_whole)) | (k_here; (with_reducible show wpAny _ _ (eval (Expr.Name _ _) (envOf _ _ _ _ _)) _ _ _); (with_reducible rename Fr _ _ _ _ => kF); k_dflt (refine' ld kF ?k2 ?_; (case k2 => ((repeat' (first | (with_reducible assumption) | exact if_pos rfl | refine Eq.trans (if_neg (by decide)) ?_ | (refine Eq.trans (stG_at (by with_reducible assumption) (by decide)) ?_) | exact rfl)); done)); k_whole)) | (k_here; (with_reducible show wpAny _ _ (call (Value.builtin "len") [Value.ref _]) _ _ _); k_dflt (refine' len_B ?k1 ?k2 ?_; (case k1 => is_list); (case k2 => (simp only [List.length_map, List.length_append, List.length_cons, List.length_nil]; omega)); k_whole); intro _) | walk1)) | fail "no step"))
  replace d1 : o.data = .cell (some (.ref l)) := d1
  refine comp_range (n := ps₀.length) (g₀ := s.heap) (fun i ys g => ys = ((ps₀.take i).foldl dedStep []).map (·.1)) rfl rfl (by decide) rfl (by decide) rfl (fun Q' hQ' => ?_) (by omega) F.keep rfl (fun i t ys g h tk C m hi hJ hyl ea hm => ?_) (fun D h tk ys g hJ b1 b2 b3 b4 b5 b6 => ?_)
  · (repeat' (first | (k_unfold; (try dsimp only)) | ((((fail_if_success (with_reducible show wpAny _ _ (exec (Stmt.While _ _ _ _) _) _ _ _)); (fail_if_success (with_reducible show wpAny _ _ (exec (Stmt.For _ _ _ _ _) _) _ _ _)); (fail_if_success (with_reducible show wpAny _ _ (call (Value.ref _) _ _) _ _ _)); (fail_if_success (with_reducible show wpAny _ _ (eval (Expr.ListComp _ _ _ _) _) _ _ _)))); (first | ((with_reducible show wpAny _ _ (storeName (envOf _ _ _ _ _) _ _) _ _ _); k_here; (with_reducible show wpAny _ _ (storeName (envOf _ _ _ _ _) _ _) _ _ _); k_dflt (refine' stG ?k1 ?k2 ?k3 ?k4 ?_; (case k1 => k_asm); (case k2 => k_asm); (case k3 => exact rfl); (case k4 => exact rfl); k_whole); intro sgH sgT sgM sgE sgD sgF sgN; (try k_sweep)) | (k_here; (with_reducible show wpAny _ _ (eval (Expr.Name _ _) (compEnvC _ _ _ _)) _ _ _); (with_reducible rename Fr _ _ _ _ => kF); k_dflt (refine' cname kF ?k2 ?_ ?k3 ?k4; (case k3 => exact rfl); (case k4 => exact rfl); (case k2 => ((repeat' (first | (with_reducible assumption) | exact if_pos rfl | refine Eq.trans (if_neg (by decide)) ?_ | (refine Eq.trans (stG_at (by with_reducible assumption) (by decide)) ?_) | exact rfl)); done)); k_whole)) | (k_here; (with_reducible show wpAny _ _ (eval (Expr.Name _ _) (envOf _ _ _ _ _)) _ _ _); (with_reducible rename Fr _ _ _ _ => kF); k_dflt (refine' ld kF ?k2 ?_; (case k2 => ((repeat' (first | (with_reducible assumption) | exact if_pos rfl | refine Eq.trans (if_neg (by decide)) ?_ | (refine Eq.trans (stG_at (by with_reducible assumption) (by decide)) ?_) | exact rfl)); done)); k_whole)) | (k_here; (with_reducible show wpAny _ _ (call (Value.builtin "len") [Value.ref _]) _ _ _); k_dflt (refine' len_B ?k1 ?k2 ?_; (case k1 => is_list); (case k2 => (simp only [List.length_map, List.length_append, List.length_cons, List.length_nil]; omega)); k_whole); intro _) | walk1)) | ((((fail_if_success (with_reducible show wpAny _ _ (exec (Stmt.While _ _ _ _) _) _ _ _)); (fail_if_success (with_reducible show wpAny _ _ (exec (Stmt.For _ _ _ _ _) _) _ _ _)); (fail_if_success (with_reducible show wpAny _ _ (call (Value.ref _) _ _) _ _ _)); (fail_if_success (with_reducible show wpAny _ _ (eval (Expr.ListComp _ _ _ _) _) _ _ _)))); dsimp only; (((fail_if_success (with_reducible show wpAny _ _ (exec (Stmt.While _ _ _ _) _) _ _ _)); (fail_if_success (with_reducible show wpAny _ _ (exec (Stmt.For _ _ _ _ _) _) _ _ _)); (fail_if_success (with_reducible show wpAny _ _ (call (Value.ref _) _ _) _ _ _)); (fail_if_success (with_reducible show wpAny _ _ (eval (Expr.ListComp _ _ _ _) _) _ _ _)))); (first | ((with_reducible show wpAny _ _ (storeName (envOf _ _ _ _ _) _ _) _ _ _); k_here; (with_reducible show wpAny _ _ (storeName (envOf _ _ _ _ _) _ _) _ _ _); k_dflt (refine' stG ?k1 ?k2 ?k3 ?k4 ?_; (case k1 => k_asm); (case k2 => k_asm); (case k3 => exact rfl); (case k4 => exact rfl); k_whole); intro sgH sgT sgM sgE sgD sgF sgN; (try k_sweep)) | (k_here; (with_reducible show wpAny _ _ (eval (Expr.Name _ _) (compEnvC _ _ _ _)) _ _ _); (with_reducible rename Fr _ _ _ _ => kF); k_dflt (refine' cname kF ?k2 ?_ ?k3 ?k4; (case k3 => exact rfl); (case k4 => exact rfl); (case k2 => ((repeat' (first | (with_reducible assumption) | exact if_pos rfl | refine Eq.trans (if_neg (by decide)) ?_ | (refine Eq.trans (stG_at (by with_reducible assumption) (by decide)) ?_) | exact rfl)); done)); k_whole)) | (k_here; (with_reducible show wpAny _ _ (eval (Expr.Name _ _) (envOf _ _ _ _ _)) _ _ _); (with_reducible rename Fr _ _ _ _ => kF); k_dflt (refine' ld kF ?k2 ?_; (case k2 => ((repeat' (first | (with_reducible assumption) | exact if_pos rfl | refine Eq.trans (if_neg (by decide)) ?_ | (refine Eq.trans (stG_at (by with_reducible assumption) (by decide)) ?_) | exact rfl)); done)); k_whole)) | (k_here; (with_reducible show wpAny _ _ (call (Value.builtin "len") [Value.ref _]) _ _ _); k_dflt (refine' len_B ?k1 ?k2 ?_; (case k1 => is_list); (case k2 => (simp only [List.length_map, List.length_append, List.length_cons, List.length_nil]; omega)); k_whole); intro _) | walk1)) | fail "no step"))
    rename IsRange _ _ _ _ _ _ _ _ => hR
    rename (∀ (b : Addr) (o : Obj), _) => hK
    exact hQ' _ _ _ _ _ _ hK (Nat.le_of_lt (Heap.lt_size hR)) (by simpa using hR)
  · have hC1 : @Ne Nat (L + 1) C := fun q => by
      have := ea.newC
      rw [← q] at this
      rw [(N _ (.head _)).1] at this; cases this
    have FC : Fr s.heap C h m := ⟨ea.ns, fun b o e => ea.old b o (F.keep b o e), by rw [hL]; exact Nat.le_trans (Nat.le_of_lt F.ns.lt) ea.szC⟩
    obtain ⟨rest, NR, hall⟩ := ledger_all FC
    have hkk : ∀ h' m' all, Fr s.heap C h' m' → News s.heap C h' all → (∀ p ∈ rest, p ∈ all) → ∀ b o, b ≠ C → h.get? b = some o → h'.get? b = some o := fun _ _ _ F' N' sub => le_of_ledger FC hall F' N' sub
    have NC : News s.heap C h ((L + 1, o) :: rest) := fun p hp => by
      rcases List.mem_cons.mp hp with rfl | hp
      · exact ⟨ea.old _ _ (N _ (.head _)).1, hC1, (N _ (.head _)).2.2⟩
      · exact NR p hp
    have hst : (ps₀.take (i + 1)).foldl dedStep [] = dedStep ((ps₀.take i).foldl dedStep []) ps₀[i] := by
      rw [List.take_succ_eq_append_getElem hi, List.foldl_append]; rfl
    have hany := dedP_any (ps₀.take i) ps₀[i].2
    refine wpAny_tests_one ?_
    clear F N NR
    (repeat' (first | (k_unfold; (try dsimp only)) | ((((fail_if_success (with_reducible show wpAny _ _ (exec (Stmt.While _ _ _ _) _) _ _ _)); (fail_if_success (with_reducible show wpAny _ _ (exec (Stmt.For _ _ _ _ _) _) _ _ _)); (fail_if_success (with_reducible show wpAny _ _ (call (Value.ref _) _ _) _ _ _)); (fail_if_success (with_reducible show wpAny _ _ (eval (Expr.ListComp _ _ _ _) _) _ _ _)))); (first | ((with_reducible show wpAny _ _ (storeName (envOf _ _ _ _ _) _ _) _ _ _); k_here; (with_reducible show wpAny _ _ (storeName (envOf _ _ _ _ _) _ _) _ _ _); k_dflt (refine' stG ?k1 ?k2 ?k3 ?k4 ?_; (case k1 => k_asm); (case k2 => k_asm); (case k3 => exact rfl); (case k4 => exact rfl); k_whole); intro sgH sgT sgM sgE sgD sgF sgN; (try k_sweep)) | (k_here; (with_reducible show wpAny _ _ (eval (Expr.Name _ _) (compEnvC _ _ _ _)) _ _ _); (with_reducible rename Fr _ _ _ _ => kF); k_dflt (refine' cname kF ?k2 ?_ ?k3 ?k4; (case k3 => exact rfl); (case k4 => exact rfl); (case k2 => ((repeat' (first | (with_reducible assumption) | exact if_pos rfl | refine Eq.trans (if_neg (by decide)) ?_ | (refine Eq.trans (stG_at (by with_reducible assumption) (by decide)) ?_) | exact rfl)); done)); k_whole)) | (k_here; (with_reducible show wpAny _ _ (eval (Expr.Name _ _) (envOf _ _ _ _ _)) _ _ _); (with_reducible rename Fr _ _ _ _ => kF); k_dflt (refine' ld kF ?k2 ?_; (case k2 => ((repeat' (first | (with_reducible assumption) | exact if_pos rfl | refine Eq.trans (if_neg (by decide)) ?_ | (refine Eq.trans (stG_at (by with_reducible assumption) (by decide)) ?_) | exact rfl)); done)); k_whole)) | (k_here; (with_reducible show wpAny _ _ (call (Value.builtin "len") [Value.ref _]) _ _ _); k_dflt (refine' len_B ?k1 ?k2 ?_; (case k1 => is_list); (case k2 => (simp only [List.length_map, List.length_append, List.length_cons, List.length_nil]; omega)); k_whole); intro _) | walk1)) | ((((fail_if_success (with_reducible show wpAny _ _ (exec (Stmt.While _ _ _ _) _) _ _ _)); (fail_if_success (with_reducible show wpAny _ _ (exec (Stmt.For _ _ _ _ _) _) _ _ _)); (fail_if_success (with_reducible show wpAny _ _ (call (Value.ref _) _ _) _ _ _)); (fail_if_success (with_reducible show wpAny _ _ (eval (Expr.ListComp _ _ _ _) _) _ _ _)))); dsimp only; (((fail_if_success (with_reducible show wpAny _ _ (exec (Stmt.While _ _ _ _) _) _ _ _)); (fail_if_success (with_reducible show wpAny _ _ (exec (Stmt.For _ _ _ _ _) _) _ _ _)); (fail_if_success (with_reducible show wpAny _ _ (call (Value.ref _) _ _) _ _ _)); (fail_if_success (with_reducible show wpAny _ _ (eval (Expr.ListComp _ _ _ _) _) _ _ _)))); (first | ((with_reducible show wpAny _ _ (storeName (envOf _ _ _ _ _) _ _) _ _ _); k_here; (with_reducible show wpAny _ _ (storeName (envOf _ _ _ _ _) _ _) _ _ _); k_dflt (refine' stG ?k1 ?k2 ?k3 ?k4 ?_; (case k1 => k_asm); (case k2 => k_asm); (case k3 => exact rfl); (case k4 => exact rfl); k_whole); intro sgH sgT sgM sgE sgD sgF sgN; (try k_sweep)) | (k_here; (with_reducible show wpAny _ _ (eval (Expr.Name _ _) (compEnvC _ _ _ _)) _ _ _); (with_reducible rename Fr _ _ _ _ => kF); k_dflt (refine' cname kF ?k2 ?_ ?k3 ?k4; (case k3 => exact rfl); (case k4 => exact rfl); (case k2 => ((repeat' (first | (with_reducible assumption) | exact if_pos rfl | refine Eq.trans (if_neg (by decide)) ?_ | (refine Eq.trans (stG_at (by with_reducible assumption) (by decide)) ?_) | exact rfl)); done)); k_whole)) | (k_here; (with_reducible show wpAny _ _ (eval (Expr.Name _ _) (envOf _ _ _ _ _)) _ _ _); (with_reducible rename Fr _ _ _ _ => kF); k_dflt (refine' ld kF ?k2 ?_; (case k2 => ((repeat' (first | (with_reducible assumption) | exact if_pos rfl | refine Eq.trans (if_neg (by decide)) ?_ | (refine Eq.trans (stG_at (by with_reducible assumption) (by decide)) ?_) | exact rfl)); done)); k_whole)) | (k_here; (with_reducible show wpAny _ _ (call (Value.builtin "len") [Value.ref _]) _ _ _); k_dflt (refine' len_B ?k1 ?k2 ?_; (case k1 => is_list); (case k2 => (simp only [List.length_map, List.length_append, List.length_cons, List.length_nil]; omega)); k_whole); intro _) | walk1)) | fail "no step"))
    rename Fr _ _ _ _ => F2
    refine item_B (hl'.at fun o e => F2.keep _ o e) (by simp; omega) (v := ps₀[i].1) (by simp [hi]) ?_
    (repeat' (first | (k_unfold; (try dsimp only)) | ((((fail_if_success (with_reducible show wpAny _ _ (exec (Stmt.While _ _ _ _) _) _ _ _)); (fail_if_success (with_reducible show wpAny _ _ (exec (Stmt.For _ _ _ _ _) _) _ _ _)); (fail_if_success (with_reducible show wpAny _ _ (call (Value.ref _) _ _) _ _ _)); (fail_if_success (with_reducible show wpAny _ _ (eval (Expr.ListComp _ _ _ _) _) _ _ _)))); (first | ((with_reducible show wpAny _ _ (storeName (envOf _ _ _ _ _) _ _) _ _ _); k_here; (with_reducible show wpAny _ _ (storeName (envOf _ _ _ _ _) _ _) _ _ _); k_dflt (refine' stG ?k1 ?k2 ?k3 ?k4 ?_; (case k1 => k_asm); (case k2 => k_asm); (case k3 => exact rfl); (case k4 => exact rfl); k_whole); intro sgH sgT sgM sgE sgD sgF sgN; (try k_sweep)) | (k_here; (with_reducible show wpAny _ _ (eval (Expr.Name _ _) (compEnvC _ _ _ _)) _ _ _); (with_reducible rename Fr _ _ _ _ => kF); k_dflt (refine' cname kF ?k2 ?_ ?k3 ?k4; (case k3 => exact rfl); (case k4 => exact rfl); (case k2 => ((repeat' (first | (with_reducible assumption) | exact if_pos rfl | refine Eq.trans (if_neg (by decide)) ?_ | (refine Eq.trans (stG_at (by with_reducible assumption) (by decide)) ?_) | exact rfl)); done)); k_whole)) | (k_here; (with_reducible show wpAny _ _ (eval (Expr.Name _ _) (envOf _ _ _ _ _)) _ _ _); (with_reducible rename Fr _ _ _ _ => kF); k_dflt (refine' ld kF ?k2 ?_; (case k2 => ((repeat' (first | (with_reducible assumption) | exact if_pos rfl | refine Eq.trans (if_neg (by decide)) ?_ | (refine Eq.trans (stG_at (by with_reducible assumption) (by decide)) ?_) | exact rfl)); done)); k_whole)) | (k_here; (with_reducible show wpAny _ _ (call (Value.builtin "len") [Value.ref _]) _ _ _); k_dflt (refine' len_B ?k1 ?k2 ?_; (case k1 => is_list); (case k2 => (simp only [List.length_map, List.length_append, List.length_cons, List.length_nil]; omega)); k_whole); intro _) | walk1)) | ((((fail_if_success (with_reducible show wpAny _ _ (exec (Stmt.While _ _ _ _) _) _ _ _)); (fail_if_success (with_reducible show wpAny _ _ (exec (Stmt.For _ _ _ _ _) _) _ _ _)); (fail_if_success (with_reducible show wpAny _ _ (call (Value.ref _) _ _) _ _ _)); (fail_if_success (with_reducible show wpAny _ _ (eval (Expr.ListComp _ _ _ _) _) _ _ _)))); dsimp only; (((fail_if_success (with_reducible show wpAny _ _ (exec (Stmt.While _ _ _ _) _) _ _ _)); (fail_if_success (with_reducible show wpAny _ _ (exec (Stmt.For _ _ _ _ _) _) _ _ _)); (fail_if_success (with_reducible show wpAny _ _ (call (Value.ref _) _ _) _ _ _)); (fail_if_success (with_reducible show wpAny _ _ (eval (Expr.ListComp _ _ _ _) _) _ _ _)))); (first | ((with_reducible show wpAny _ _ (storeName (envOf _ _ _ _ _) _ _) _ _ _); k_here; (with_reducible show wpAny _ _ (storeName (envOf _ _ _ _ _) _ _) _ _ _); k_dflt (refine' stG ?k1 ?k2 ?k3 ?k4 ?_; (case k1 => k_asm); (case k2 => k_asm); (case k3 => exact rfl); (case k4 => exact rfl); k_whole); intro sgH sgT sgM sgE sgD sgF sgN; (try k_sweep)) | (k_here; (with_reducible show wpAny _ _ (eval (Expr.Name _ _) (compEnvC _ _ _ _)) _ _ _); (with_reducible rename Fr _ _ _ _ => kF); k_dflt (refine' cname kF ?k2 ?_ ?k3 ?k4; (case k3 => exact rfl); (case k4 => exact rfl); (case k2 => ((repeat' (first | (with_reducible assumption) | exact if_pos rfl | refine Eq.trans (if_neg (by decide)) ?_ | (refine Eq.trans (stG_at (by with_reducible assumption) (by decide)) ?_) | exact rfl)); done)); k_whole)) | (k_here; (with_reducible show wpAny _ _ (eval (Expr.Name _ _) (envOf _ _ _ _ _)) _ _ _); (with_reducible rename Fr _ _ _ _ => kF); k_dflt (refine' ld kF ?k2 ?_; (case k2 => ((repeat' (first | (with_reducible assumption) | exact if_pos rfl | refine Eq.trans (if_neg (by decide)) ?_ | (refine Eq.trans (stG_at (by with_reducible assumption) (by decide)) ?_) | exact rfl)); done)); k_whole)) | (k_here; (with_reducible show wpAny _ _ (call (Value.builtin "len") [Value.ref _]) _ _ _); k_dflt (refine' len_B ?k1 ?k2 ?_; (case k1 => is_list); (case k2 => (simp only [List.length_map, List.length_append, List.length_cons, List.length_nil]; omega)); k_whole); intro _) | walk1)) | fail "no step"))
    rename Fr _ _ _ _ => F3
    rename News _ _ _ _ => N3
    rw [slicePick_upto _ i (by simp; omega)] at N3
    refine notIn_W (ps := ps₀.take i) (n := 0) (by rw [(N3 _ (.head _)).1]; simp) (fun q hq => (hr' q (List.mem_of_mem_take hq)).le F3.keep) ((hr' _ (List.getElem_mem _)).le F3.keep) (by show 460 + 3 + 5 < cLine; decide) ?_
    rw [← hany]
    rw [hst]
    generalize (ps₀.take i).foldl dedStep [] = acc at *
    have hk3 := hkk _ _ _ F3 N3 fun p hp => .tail _ (.tail _ hp)
    have hg3 : Le g _ := fun b o e => hk3 b o (fun q => by rw [q, ea.outC] at e; cases e) (ea.le b o e)
    (repeat' (first | (k_unfold; (try dsimp only)) | ((((fail_if_success (with_reducible show wpAny _ _ (exec (Stmt.While _ _ _ _) _) _ _ _)); (fail_if_success (with_reducible show wpAny _ _ (exec (Stmt.For _ _ _ _ _) _) _ _ _)); (fail_if_success (with_reducible show wpAny _ _ (call (Value.ref _) _ _) _ _ _)); (fail_if_success (with_reducible show wpAny _ _ (eval (Expr.ListComp _ _ _ _) _) _ _ _)))); (first | ((with_reducible show wpAny _ _ (storeName (envOf _ _ _ _ _) _ _) _ _ _); k_here; (with_reducible show wpAny _ _ (storeName (envOf _ _ _ _ _) _ _) _ _ _); k_dflt (refine' stG ?k1 ?k2 ?k3 ?k4 ?_; (case k1 => k_asm); (case k2 => k_asm); (case k3 => exact rfl); (case k4 => exact rfl); k_whole); intro sgH sgT sgM sgE sgD sgF sgN; (try k_sweep)) | (k_here; (with_reducible show wpAny _ _ (eval (Expr.Name _ _) (compEnvC _ _ _ _)) _ _ _); (with_reducible rename Fr _ _ _ _ => kF); k_dflt (refine' cname kF ?k2 ?_ ?k3 ?k4; (case k3 => exact rfl); (case k4 => exact rfl); (case k2 => ((repeat' (first | (with_reducible assumption) | exact if_pos rfl | refine Eq.trans (if_neg (by decide)) ?_ | (refine Eq.trans (stG_at (by with_reducible assumption) (by decide)) ?_) | exact rfl)); done)); k_whole)) | (k_here; (with_reducible show wpAny _ _ (eval (Expr.Name _ _) (envOf _ _ _ _ _)) _ _ _); (with_reducible rename Fr _ _ _ _ => kF); k_dflt (refine' ld kF ?k2 ?_; (case k2 => ((repeat' (first | (with_reducible assumption) | exact if_pos rfl | refine Eq.trans (if_neg (by decide)) ?_ | (refine Eq.trans (stG_at (by with_reducible assumption) (by decide)) ?_) | exact rfl)); done)); k_whole)) | (k_here; (with_reducible show wpAny _ _ (call (Value.builtin "len") [Value.ref _]) _ _ _); k_dflt (refine' len_B ?k1 ?k2 ?_; (case k1 => is_list); (case k2 => (simp only [List.length_map, List.length_append, List.length_cons, List.length_nil]; omega)); k_whole); intro _) | walk1)) | ((((fail_if_success (with_reducible show wpAny _ _ (exec (Stmt.While _ _ _ _) _) _ _ _)); (fail_if_success (with_reducible show wpAny _ _ (exec (Stmt.For _ _ _ _ _) _) _ _ _)); (fail_if_success (with_reducible show wpAny _ _ (call (Value.ref _) _ _) _ _ _)); (fail_if_success (with_reducible show wpAny _ _ (eval (Expr.ListComp _ _ _ _) _) _ _ _)))); dsimp only; (((fail_if_success (with_reducible show wpAny _ _ (exec (Stmt.While _ _ _ _) _) _ _ _)); (fail_if_success (with_reducible show wpAny _ _ (exec (Stmt.For _ _ _ _ _) _) _ _ _)); (fail_if_success (with_reducible show wpAny _ _ (call (Value.ref _) _ _) _ _ _)); (fail_if_success (with_reducible show wpAny _ _ (eval (Expr.ListComp _ _ _ _) _) _ _ _)))); (first | ((with_reducible show wpAny _ _ (storeName (envOf _ _ _ _ _) _ _) _ _ _); k_here; (with_reducible show wpAny _ _ (storeName (envOf _ _ _ _ _) _ _) _ _ _); k_dflt (refine' stG ?k1 ?k2 ?k3 ?k4 ?_; (case k1 => k_asm); (case k2 => k_asm); (case k3 => exact rfl); (case k4 => exact rfl); k_whole); intro sgH sgT sgM sgE sgD sgF sgN; (try k_sweep)) | (k_here; (with_reducible show wpAny _ _ (eval (Expr.Name _ _) (compEnvC _ _ _ _)) _ _ _); (with_reducible rename Fr _ _ _ _ => kF); k_dflt (refine' cname kF ?k2 ?_ ?k3 ?k4; (case k3 => exact rfl); (case k4 => exact rfl); (case k2 => ((repeat' (first | (with_reducible assumption) | exact if_pos rfl | refine Eq.trans (if_neg (by decide)) ?_ | (refine Eq.trans (stG_at (by with_reducible assumption) (by decide)) ?_) | exact rfl)); done)); k_whole)) | (k_here; (with_reducible show wpAny _ _ (eval (Expr.Name _ _) (envOf _ _ _ _ _)) _ _ _); (with_reducible rename Fr _ _ _ _ => kF); k_dflt (refine' ld kF ?k2 ?_; (case k2 => ((repeat' (first | (with_reducible assumption) | exact if_pos rfl | refine Eq.trans (if_neg (by decide)) ?_ | (refine Eq.trans (stG_at (by with_reducible assumption) (by decide)) ?_) | exact rfl)); done)); k_whole)) | (k_here; (with_reducible show wpAny _ _ (call (Value.builtin "len") [Value.ref _]) _ _ _); k_dflt (refine' len_B ?k1 ?k2 ?_; (case k1 => is_list); (case k2 => (simp only [List.length_map, List.length_append, List.length_cons, List.length_nil]; omega)); k_whole); intro _) | walk1)) | fail "no step"))
    · rename (List.any _ _ = true) => hc
      refine ⟨_, _, g, _, rfl, F3.ns, hk3, Le.refl _, hg3, fun b o e => .inl e, ?_⟩
      show ys = _
      rw [dedStep, if_pos hc]; exact hJ
    · rename (List.any _ _ = false) => hc
      rename Fr _ _ _ _ => F4
      refine item_B (hl'.at fun o e => F4.keep _ o e) (by simp; omega) (v := ps₀[i].1) (by simp [hi]) ?_
      refine ⟨_, _, g, _, rfl, F4.ns, hk3, Le.refl _, hg3, fun b o e => .inl e, ?_⟩
      show ys ++ [ps₀[i].1] = _
      rw [dedStep, if_neg (by rw [hc]; exact Bool.false_ne_true), hJ]; simp
  · subst hJ
    rw [List.take_length] at b5
    exact hQ _ _ _ _ (fun b o e => b6 b o (F.keep b o e)) (none_le F.keep b4) b5
end

section
open PySem PySem.W PyProof.Rows PySem.Calls PyProof.Rows.LCg
section
variable {prog : Program} {w : World} {A : Around} {E : Value → Shared → Prop} {s : Shared} {env : Env}

theorem turn_one {h₀ h' : Heap} {L I a : Addr} {oI o : Obj} {m₂ : Str → Option Value} {all : List (Addr × Obj)} {J : (Str → Option Value) → List (Addr × Obj) → Prop} {tk : Nat} (F : Fr h₀ L h' m₂) (N : News h₀ L h' all) (hI : (I, oI) ∈ all) (ha : (a, o) ∈ all)
    (hc : o.cls = .type "list") (hcl : oI.cls ≠ .type "list") (hJ : J m₂ [(a, o)]) : TurnQ h₀ L I oI s J { s with heap := h', toks := tk } := by
  refine ⟨h', tk, m₂, [(a, o)], rfl, F, fun p hp => N p ?_, fun p hp q => ?_, hJ⟩
  · rcases List.mem_cons.mp hp with rfl | hp
    · exact hI
    · rw [List.mem_singleton.mp hp]; exact ha
  · rw [List.mem_singleton.mp hp] at q
    have e1 := (N _ hI).1
    have e2 := (N _ ha).1
    have q' : a = I := q
    rw [q'] at e2
    rw [e1] at e2
    cases e2
    exact hcl hc

theorem for_range_rule {h₀ : Heap} {L : Addr} {m : Str → Option Value} {news : List (Addr × Obj)} {x : Str} {px pos : Pos} {iter : Expr} {body : List Stmt} {n : Nat} {Q : Flow → Shared → Prop}
    (F : Fr h₀ L s.heap m) (N : News h₀ L s.heap news) (hL : env.locals = L) (hh : A.handled = none) (hx : env.kindOf x = some .local)
    (hp : (env.scope.kind == .class || (env.scope.kind == .module && env.locals != env.globals)) = false)
    (src : ∀ Q' : Value → Shared → Prop, (∀ r h₁ tk t u v, Le s.heap h₁ → IsRange h₁ r 0 (n : Int) 1 t u v → Q' (.ref r) { s with heap := h₁, toks := tk }) → wpAny (model prog w) A (eval iter env) Q' E s) (hsz : n ≤ 1000)
    (J : Nat → (Str → Option Value) → List (Addr × Obj) → Prop) (h0 : J 0 m news)
    (step : ∀ i t I oI m₁ news₁ h₁ tk₁, i < n → J i m₁ news₁ → Fr h₀ L h₁ (fun y => if y = x then some (.int (i : Int) t) else m₁ y) → News h₀ L h₁ ((I, oI) :: news₁) → (∀ p ∈ news₁, p.1 ≠ I) → oI.cls ≠ .type "list" →
      wpAny (model prog w) A (execs body env) (fun f s₂ => match f with
        | .next | .cont => TurnQ h₀ L I oI s (J (i + 1)) s₂
        | .brk => Q .next s₂
        | .ret v => Q (.ret v) s₂) Nope { s with heap := h₁, toks := tk₁ })
    (hQ : ∀ h' tk m' news', Fr h₀ L h' m' → News h₀ L h' news' → J n m' news' → Q .next { s with heap := h', toks := tk })
    (hs : ∀ x, foldedSetIterable iter env x = pure x := by intro _; rfl) :
    wpAny (model prog w) A (exec (.For (.Name x px) iter body [] pos) env) Q E s := by
  subst hL
  have hrs : Builtin.Range.rangeSize 0 (n : Int) 1 = ((n : Nat) : Int) := by
    unfold Builtin.Range.rangeSize
    simp
    try omega
  have hsm : Builtin.Range.small 0 (n : Int) 1 = true := by
    have f : ∀ k : Nat, k ≤ 1000 → Builtin.Range.rangeFitsLong (k : Int) = true := fun k hk => by
      unfold Builtin.Range.rangeFitsLong
      simp
      omega
    have f0 : Builtin.Range.rangeFitsLong 0 = true := by decide
    have f1 : Builtin.Range.rangeFitsLong 1 = true := by decide
    have fn := f n hsz
    unfold Builtin.Range.small
    rw [hrs]
    simp [fn, f0, f1]
  refine wpAny_For (src _ fun r h₁ tk₁ t u v le₁ hr => wpAny_pyIter_range hr hsm ?_) hs
  rw [hrs]
  have F1 : Fr h₀ env.locals h₁ m := ⟨F.ns.at' fun o e => le₁ _ o e, fun b o e => le₁ b o (F.keep b o e), F.above⟩
  have N1 : News h₀ env.locals h₁ news := fun p hp => ⟨le₁ _ _ (N p hp).1, (N p hp).2⟩
  have hI0 : h₀.get? h₁.objs.size = none := by
    cases q : h₀.get? h₁.objs.size with
    | none => rfl
    | some o => exact absurd (Heap.lt_size (F1.keep _ _ q)) (Nat.lt_irrefl _)
  have hIL : h₁.objs.size ≠ env.locals := Nat.ne_of_gt F1.ns.lt
  have W := range_walks (prog := prog) (w := w) (A := A) (I := h₁.objs.size) hh 0 n
  refine codeAny_forLoop_any (fun k s' => ∃ i h' tk m' news', s' = { s with heap := h', toks := tk } ∧ i ≤ n ∧ k = n - i ∧ Fr h₀ env.locals h' m' ∧ News h₀ env.locals h' news' ∧ (∀ p ∈ news', p.1 ≠ h₁.objs.size) ∧
    IsRangeIter h' h₁.objs.size (0 + (i : Nat) * 1) ((n : Int) - (i : Nat)) 1 ∧ J i m' news') (fun k s' hI => ?_) n
    ⟨0, _, tk₁, m, news, rfl, Nat.zero_le _, rfl, F1.push _, fun p hp => ⟨Heap.get?_push_of_some _ (N1 p hp).1, (N1 p hp).2⟩, fun p hp => Nat.ne_of_lt (Heap.lt_size (N1 p hp).1), by show IsRangeIter _ _ _ _ _; simpa using Heap.get?_push_size _ rfl, h0⟩
  obtain ⟨i, h', tk, m', news', rfl, hi, rfl, F', N', off, it, hJ⟩ := hI
  by_cases hlt : i < n
  · refine W.item i _ _ _ hlt it fun v h₂ tk₂ hPv it₂ hk₂ => ?_
    obtain ⟨t₂, rfl⟩ := hPv
    refine wpAny_mono (Q := fun _ s₁ => s₁ = { s with heap := h₂, toks := tk₂ }) (fun _ _ _ => rfl) (fun _ s₁ hs₁ => ?_) (E := Nope) fun _ _ x => x.elim
    subst hs₁
    have F₂ : Fr h₀ env.locals h₂ m' := fr_but F' hk₂ (Ne.symm hIL) hI0
    have N₂ : News h₀ env.locals h₂ news' := news_but N' hk₂ off
    refine wpAny_assign_Name (wpAny_storeName_local hx F₂.ns (fun h₃ hn₃ hs₃ => ?_) hp)
    have F₃ := F₂.set hn₃ hs₃
    have N₃ := N₂.set hs₃
    obtain ⟨oI, heI, hcl, hback⟩ : ∃ oI, h₂.get? h₁.objs.size = some oI ∧ oI.cls ≠ .type "list" ∧ ∀ h : Heap, h.get? h₁.objs.size = some oI → IsRangeIter h h₁.objs.size (0 + ((i + 1 : Nat) : Int) * 1) ((n : Int) - ((i + 1 : Nat) : Int)) 1 := ⟨_, it₂, by simp, fun h e => e⟩
    have heI₃ : h₃.get? h₁.objs.size = some oI := (hs₃.2 _ hIL).trans heI
    have NI : News h₀ env.locals h₃ ((h₁.objs.size, oI) :: news') := fun p hp => by
      rcases List.mem_cons.mp hp with rfl | hp
      · exact ⟨heI₃, hIL, hI0⟩
      · exact N₃ p hp
    have F₃' : Fr h₀ env.locals h₃ (fun y => if y = x then some (.int (i : Int) t₂) else m' y) := by simpa using F₃
    refine wpAny_mono (step i t₂ _ _ m' news' h₃ _ hlt hJ F₃' NI off hcl) (fun f s₃ h₄ => ?_) fun _ _ x => x.elim
    have go : TurnQ h₀ env.locals h₁.objs.size oI s (J (i + 1)) s₃ → ∃ m, m < n - i ∧ ∃ i h' tk m' news', s₃ = { s with heap := h', toks := tk } ∧ i ≤ n ∧ m = n - i ∧ Fr h₀ env.locals h' m' ∧ News h₀ env.locals h' news' ∧ (∀ p ∈ news', p.1 ≠ h₁.objs.size) ∧
        IsRangeIter h' h₁.objs.size (0 + (i : Nat) * 1) ((n : Int) - (i : Nat)) 1 ∧ J i m' news' := by
      rintro ⟨h₅, tk₅, m₅, news₅, rfl, F₅, N₅, off₅, J₅⟩
      exact ⟨n - (i + 1), by omega, i + 1, h₅, tk₅, m₅, news₅, rfl, hlt, rfl, F₅, fun p hp => N₅ p (.tail _ hp), off₅, hback _ (N₅ _ (.head _)).1, J₅⟩
    cases f with
    | next => exact go h₄
    | cont => exact go h₄
    | brk => exact h₄
    | ret v => exact h₄
  · have he : i = n := by omega
    subst he
    refine W.done _ _ _ it fun h₂ tk₂ he₂ => wpAny_execs_nil ?_
    exact hQ h₂ tk₂ m' news' (fr_but F' he₂ (Ne.symm hIL) hI0) (news_but N' he₂ off) hJ
end
end

section
open PySem PySem.W PyProof.Rows PySem.Calls PySem.SeqAt

/-- values that are the texts of w -/
noncomputable def TX : List Value → List Bool → Prop
  | [], [] => True
  | v :: vs, b :: w => (∃ t, v = .str (tx b) t) ∧ TX vs w
  | _, _ => False
theorem TX.length : ∀ {vs : List Value} {w : List Bool}, TX vs w → vs.length = w.length
  | [], [], _ => rfl
  | _ :: _, _ :: _, h => by simp [TX.length h.2]
  | [], _ :: _, h => h.elim
  | _ :: _, [], h => h.elim
theorem TX.append : ∀ {vs us : List Value} {w u : List Bool}, TX vs w → TX us u → TX (vs ++ us) (w ++ u)
  | [], _, [], _, _, h => h
  | _ :: _, _, _ :: _, _, h, h' => ⟨h.1, TX.append h.2 h'⟩
  | [], _, _ :: _, _, h, _ => h.elim
  | _ :: _, _, [], _, h, _ => h.elim
theorem TX.dropLast : ∀ {vs : List Value} {w : List Bool}, TX vs w → TX vs.dropLast w.dropLast
  | [], [], _ => trivial
  | [_], [_], _ => trivial
  | _ :: _ :: _, _ :: _ :: _, h => ⟨h.1, TX.dropLast h.2⟩
  | [_], _ :: _ :: _, h => h.2.elim
  | _ :: _ :: _, [_], h => h.2.elim
  | [], _ :: _, h => h.elim
  | _ :: _, [], h => h.elim
theorem TX.reads {h : Heap} : ∀ {vs : List Value} {w : List Bool}, TX vs w → ∃ as, ReadsAll h vs (w.map fun b => PyData.str (tx b)) as
  | [], [], _ => ⟨_, .nil⟩
  | _ :: _, _ :: _, ⟨⟨t, e⟩, r⟩ => by
    subst e
    obtain ⟨as, ha⟩ := TX.reads (h := h) r
    exact ⟨_, .cons (.str _ t) ha⟩
  | [], _ :: _, h => h.elim
  | _ :: _, [], h => h.elim
theorem TX.rd {h : Heap} {a : Addr} {vs : List Value} {w : List Bool} {n : Nat} (t : TX vs w) (e : h.get? a = some (listOf vs.toArray n)) : Rd h (.ref a) (dW w) := by
  obtain ⟨as, ha⟩ := t.reads (h := h)
  exact ⟨_, .list e rfl rfl (by simpa using ha)⟩

theorem slicePick_init (items : Array Value) : slicePick items none (some (-1)) none = items.toList.dropLast.toArray := by
  have e : sliceBounds none (some (-1)) none items.size = (((0 : Nat) : Int), ((items.size - 1 : Nat) : Int), 1) := by
    simp only [sliceBounds, Option.getD_none]
    simp only [show (1 : Int) > 0 by decide, show (-1 : Int) < 0 by decide, if_true]
    congr 1
    congr 1; omega
  unfold slicePick
  rw [e]
  simp only [sliceRange_one, pick_run]
  rw [List.dropLast_eq_take]; simp

noncomputable def digit (x : Int) (k : Nat) : Int := (x.fdiv (5 ^ k)).fmod 5
theorem digit_range (x : Int) (k : Nat) : 0 ≤ digit x k ∧ digit x k < 5 := by
  unfold digit
  exact ⟨Int.fmod_nonneg_of_pos _ (by decide), Int.fmod_lt_of_pos _ (by decide)⟩
noncomputable def wayStep (w : List Bool) (d : Int) : List Bool := if d = 2 then w.dropLast else if d = 3 then w else w ++ [decide (d ≠ 0)]
noncomputable def wayN (x : Int) (i : Nat) : List Bool := ((List.range i).map (digit x)).foldl wayStep []
theorem wayN_succ (x : Int) (i : Nat) : wayN x (i + 1) = wayStep (wayN x i) (digit x i) := by
  unfold wayN; rw [List.range_succ, List.map_append, List.foldl_append]; rfl
theorem wayN_len (x : Int) (i : Nat) : (wayN x i).length ≤ i := by
  induction i with
  | zero => simp [wayN]
  | succ i ih =>
    rw [wayN_succ]; unfold wayStep
    split
    · simp; omega
    · split
      · omega
      · simp; omega

theorem way_c {w : World} {A : Around} {E : Value → Shared → Prop} {s : Shared} {g : Heap} {Q : Value → Shared → Prop} {x : Int} {t : Tok} (a : Amb w g) (lg : Le g s.heap) (r : Room 6 A)
    (hQ : ∀ h' tk r vs n', Le s.heap h' → s.heap.get? r = none → TX vs (wayN x 3) → h'.get? r = some (listOf vs.toArray n') → Q (.ref r) { s with heap := h', toks := tk }) :
    wpAny (model Challenge.rw_ny0132_01.row.prog w) A (call (.ref 190) [.int x t]) Q E s := by
  have a' := a.le lg
  obtain ⟨X, mean, mg, mb, T⟩ := a'
  revert X; k_fill; intro X
  refine weaken r ?_
  refine enter (binds := [(Str.ofString "x", .int x t)]) X T.nolimit (Le.refl _) (Nat.le_refl _) (by k_is) (by k_is) (by show 346 < recursionLimit; decide) (BindsTo.of_eq rfl) (locs rfl) (fun h₁ F L₁ => ?_) (by decide) rfl rfl rfl
  have N : News s.heap s.heap.objs.size h₁ [] := News.nil
  show wpAny _ _ _ _ _ _
  generalize hL : s.heap.objs.size = L at *
  k_fold
  (repeat' (first | (k_unfold; (try dsimp only)) | ((((fail_if_success (with_reducible show wpAny _ _ (exec (Stmt.While _ _ _ _) _) _ _ _)); (fail_if_success (with_reducible show wpAny _ _ (exec (Stmt.For _ _ _ _ _) _) _ _ _)); (fail_if_success (with_reducible show wpAny _ _ (call (Value.ref _) _ _) _ _ _)); (fail_if_success (with_reducible show wpAny _ _ (eval (Expr.ListComp _ _ _ _) _) _ _ _)))); (first | ((with_reducible show wpAny _ _ (storeName (envOf _ _ _ _ _) _ _) _ _ _); k_here; (with_reducible show wpAny _ _ (storeName (envOf _ _ _ _ _) _ _) _ _ _); k_dflt (refine' stG ?k1 ?k2 ?k3 ?k4 ?_; (case k1 => k_asm); (case k2 => k_asm); (case k3 => exact rfl); (case k4 => exact rfl); k_whole); intro sgH sgT sgM sgE sgD sgF sgN; (try k_sweep)) | (k_here; (with_reducible show wpAny _ _ (eval (Expr.Name _ _) (compEnvC _ _ _ _)) _ _ _); (with_reducible rename Fr _ _ _ _ => kF); k_dflt (refine' cname kF ?k2 ?_ ?k3 ?k4; (case k3 => exact rfl); (case k4 => exact rfl); (case k2 => ((repeat' (first | (with_reducible assumption) | exact if_pos rfl | refine Eq.trans (if_neg (by decide)) ?_ | (refine Eq.trans (stG_at (by with_reducible assumption) (by decide)) ?_) | exact rfl)); done)); k_whole)) | (k_here; (with_reducible show wpAny _ _ (eval (Expr.Name _ _) (envOf _ _ _ _ _)) _ _ _); (with_reducible rename Fr _ _ _ _ => kF); k_dflt (refine' ld kF ?k2 ?_; (case k2 => ((repeat' (first | (with_reducible assumption) | exact if_pos rfl | refine Eq.trans (if_neg (by decide)) ?_ | (refine Eq.trans (stG_at (by with_reducible assumption) (by decide)) ?_) | exact rfl)); done)); k_whole)) | ((with_reducible show wpAny _ _ (binaryOp Operator.Add (Value.ref _) (Value.ref _)) _ _ _); k_here; k_dflt (refine' add_L ?k1 ?k2 ?k3 ?k4 ?z ?_; (case k1 => k_asm); (case k2 => k_asm); (case k3 => is_list); (case k4 => is_list); (case z => first | size_fits | ((try simp only [List.length_map, List.length_cons, List.length_nil, List.length_append]); rw [sizeLine_eq]; omega)); k_whole); intro l' h' F' N' l1; (try k_lt l1); (try k_sweep)) | walk1)) | ((((fail_if_success (with_reducible show wpAny _ _ (exec (Stmt.While _ _ _ _) _) _ _ _)); (fail_if_success (with_reducible show wpAny _ _ (exec (Stmt.For _ _ _ _ _) _) _ _ _)); (fail_if_success (with_reducible show wpAny _ _ (call (Value.ref _) _ _) _ _ _)); (fail_if_success (with_reducible show wpAny _ _ (eval (Expr.ListComp _ _ _ _) _) _ _ _)))); dsimp only; (((fail_if_success (with_reducible show wpAny _ _ (exec (Stmt.While _ _ _ _) _) _ _ _)); (fail_if_success (with_reducible show wpAny _ _ (exec (Stmt.For _ _ _ _ _) _) _ _ _)); (fail_if_success (with_reducible show wpAny _ _ (call (Value.ref _) _ _) _ _ _)); (fail_if_success (with_reducible show wpAny _ _ (eval (Expr.ListComp _ _ _ _) _) _ _ _)))); (first | ((with_reducible show wpAny _ _ (storeName (envOf _ _ _ _ _) _ _) _ _ _); k_here; (with_reducible show wpAny _ _ (storeName (envOf _ _ _ _ _) _ _) _ _ _); k_dflt (refine' stG ?k1 ?k2 ?k3 ?k4 ?_; (case k1 => k_asm); (case k2 => k_asm); (case k3 => exact rfl); (case k4 => exact rfl); k_whole); intro sgH sgT sgM sgE sgD sgF sgN; (try k_sweep)) | (k_here; (with_reducible show wpAny _ _ (eval (Expr.Name _ _) (compEnvC _ _ _ _)) _ _ _); (with_reducible rename Fr _ _ _ _ => kF); k_dflt (refine' cname kF ?k2 ?_ ?k3 ?k4; (case k3 => exact rfl); (case k4 => exact rfl); (case k2 => ((repeat' (first | (with_reducible assumption) | exact if_pos rfl | refine Eq.trans (if_neg (by decide)) ?_ | (refine Eq.trans (stG_at (by with_reducible assumption) (by decide)) ?_) | exact rfl)); done)); k_whole)) | (k_here; (with_reducible show wpAny _ _ (eval (Expr.Name _ _) (envOf _ _ _ _ _)) _ _ _); (with_reducible rename Fr _ _ _ _ => kF); k_dflt (refine' ld kF ?k2 ?_; (case k2 => ((repeat' (first | (with_reducible assumption) | exact if_pos rfl | refine Eq.trans (if_neg (by decide)) ?_ | (refine Eq.trans (stG_at (by with_reducible assumption) (by decide)) ?_) | exact rfl)); done)); k_whole)) | ((with_reducible show wpAny _ _ (binaryOp Operator.Add (Value.ref _) (Value.ref _)) _ _ _); k_here; k_dflt (refine' add_L ?k1 ?k2 ?k3 ?k4 ?z ?_; (case k1 => k_asm); (case k2 => k_asm); (case k3 => is_list); (case k4 => is_list); (case z => first | size_fits | ((try simp only [List.length_map, List.length_cons, List.length_nil, List.length_append]); rw [sizeLine_eq]; omega)); k_whole); intro l' h' F' N' l1; (try k_lt l1); (try k_sweep)) | walk1)) | fail "no step"))
  rename Fr _ _ _ _ => F1
  rename News _ _ _ _ => N1
  refine for_range_rule (n := 3) F1 N1 rfl rfl rfl rfl (fun Q' hQ' => ?_) (by omega) (fun i m news => ∃ a ws n, m (Str.ofString "way") = some (.ref a) ∧ m (Str.ofString "x") = some (.int x t) ∧ TX ws (wayN x i) ∧ news = [(a, listOf ws.toArray n)]) ⟨_, [], _, by ((repeat' (first | (with_reducible assumption) | exact if_pos rfl | refine Eq.trans (if_neg (by decide)) ?_ | (refine Eq.trans (stG_at (by with_reducible assumption) (by decide)) ?_) | exact rfl)); done), by ((repeat' (first | (with_reducible assumption) | exact if_pos rfl | refine Eq.trans (if_neg (by decide)) ?_ | (refine Eq.trans (stG_at (by with_reducible assumption) (by decide)) ?_) | exact rfl)); done), trivial, rfl⟩ (fun i t I oI m₁ news₁ h₁ tk₁ hi hJ F3 N3 hoff hcl => ?_) (fun h4 tk4 m4 news4 F4 N4 hJ => ?_)
  · (repeat' (first | (k_unfold; (try dsimp only)) | ((((fail_if_success (with_reducible show wpAny _ _ (exec (Stmt.While _ _ _ _) _) _ _ _)); (fail_if_success (with_reducible show wpAny _ _ (exec (Stmt.For _ _ _ _ _) _) _ _ _)); (fail_if_success (with_reducible show wpAny _ _ (call (Value.ref _) _ _) _ _ _)); (fail_if_success (with_reducible show wpAny _ _ (eval (Expr.ListComp _ _ _ _) _) _ _ _)))); (first | ((with_reducible show wpAny _ _ (storeName (envOf _ _ _ _ _) _ _) _ _ _); k_here; (with_reducible show wpAny _ _ (storeName (envOf _ _ _ _ _) _ _) _ _ _); k_dflt (refine' stG ?k1 ?k2 ?k3 ?k4 ?_; (case k1 => k_asm); (case k2 => k_asm); (case k3 => exact rfl); (case k4 => exact rfl); k_whole); intro sgH sgT sgM sgE sgD sgF sgN; (try k_sweep)) | (k_here; (with_reducible show wpAny _ _ (eval (Expr.Name _ _) (compEnvC _ _ _ _)) _ _ _); (with_reducible rename Fr _ _ _ _ => kF); k_dflt (refine' cname kF ?k2 ?_ ?k3 ?k4; (case k3 => exact rfl); (case k4 => exact rfl); (case k2 => ((repeat' (first | (with_reducible assumption) | exact if_pos rfl | refine Eq.trans (if_neg (by decide)) ?_ | (refine Eq.trans (stG_at (by with_reducible assumption) (by decide)) ?_) | exact rfl)); done)); k_whole)) | (k_here; (with_reducible show wpAny _ _ (eval (Expr.Name _ _) (envOf _ _ _ _ _)) _ _ _); (with_reducible rename Fr _ _ _ _ => kF); k_dflt (refine' ld kF ?k2 ?_; (case k2 => ((repeat' (first | (with_reducible assumption) | exact if_pos rfl | refine Eq.trans (if_neg (by decide)) ?_ | (refine Eq.trans (stG_at (by with_reducible assumption) (by decide)) ?_) | exact rfl)); done)); k_whole)) | ((with_reducible show wpAny _ _ (binaryOp Operator.Add (Value.ref _) (Value.ref _)) _ _ _); k_here; k_dflt (refine' add_L ?k1 ?k2 ?k3 ?k4 ?z ?_; (case k1 => k_asm); (case k2 => k_asm); (case k3 => is_list); (case k4 => is_list); (case z => first | size_fits | ((try simp only [List.length_map, List.length_cons, List.length_nil, List.length_append]); rw [sizeLine_eq]; omega)); k_whole); intro l' h' F' N' l1; (try k_lt l1); (try k_sweep)) | walk1)) | ((((fail_if_success (with_reducible show wpAny _ _ (exec (Stmt.While _ _ _ _) _) _ _ _)); (fail_if_success (with_reducible show wpAny _ _ (exec (Stmt.For _ _ _ _ _) _) _ _ _)); (fail_if_success (with_reducible show wpAny _ _ (call (Value.ref _) _ _) _ _ _)); (fail_if_success (with_reducible show wpAny _ _ (eval (Expr.ListComp _ _ _ _) _) _ _ _)))); dsimp only; (((fail_if_success (with_reducible show wpAny _ _ (exec (Stmt.While _ _ _ _) _) _ _ _)); (fail_if_success (with_reducible show wpAny _ _ (exec (Stmt.For _ _ _ _ _) _) _ _ _)); (fail_if_success (with_reducible show wpAny _ _ (call (Value.ref _) _ _) _ _ _)); (fail_if_success (with_reducible show wpAny _ _ (eval (Expr.ListComp _ _ _ _) _) _ _ _)))); (first | ((with_reducible show wpAny _ _ (storeName (envOf _ _ _ _ _) _ _) _ _ _); k_here; (with_reducible show wpAny _ _ (storeName (envOf _ _ _ _ _) _ _) _ _ _); k_dflt (refine' stG ?k1 ?k2 ?k3 ?k4 ?_; (case k1 => k_asm); (case k2 => k_asm); (case k3 => exact rfl); (case k4 => exact rfl); k_whole); intro sgH sgT sgM sgE sgD sgF sgN; (try k_sweep)) | (k_here; (with_reducible show wpAny _ _ (eval (Expr.Name _ _) (compEnvC _ _ _ _)) _ _ _); (with_reducible rename Fr _ _ _ _ => kF); k_dflt (refine' cname kF ?k2 ?_ ?k3 ?k4; (case k3 => exact rfl); (case k4 => exact rfl); (case k2 => ((repeat' (first | (with_reducible assumption) | exact if_pos rfl | refine Eq.trans (if_neg (by decide)) ?_ | (refine Eq.trans (stG_at (by with_reducible assumption) (by decide)) ?_) | exact rfl)); done)); k_whole)) | (k_here; (with_reducible show wpAny _ _ (eval (Expr.Name _ _) (envOf _ _ _ _ _)) _ _ _); (with_reducible rename Fr _ _ _ _ => kF); k_dflt (refine' ld kF ?k2 ?_; (case k2 => ((repeat' (first | (with_reducible assumption) | exact if_pos rfl | refine Eq.trans (if_neg (by decide)) ?_ | (refine Eq.trans (stG_at (by with_reducible assumption) (by decide)) ?_) | exact rfl)); done)); k_whole)) | ((with_reducible show wpAny _ _ (binaryOp Operator.Add (Value.ref _) (Value.ref _)) _ _ _); k_here; k_dflt (refine' add_L ?k1 ?k2 ?k3 ?k4 ?z ?_; (case k1 => k_asm); (case k2 => k_asm); (case k3 => is_list); (case k4 => is_list); (case z => first | size_fits | ((try simp only [List.length_map, List.length_cons, List.length_nil, List.length_append]); rw [sizeLine_eq]; omega)); k_whole); intro l' h' F' N' l1; (try k_lt l1); (try k_sweep)) | walk1)) | fail "no step"))
    rename IsRange _ _ _ _ _ _ _ _ => hR
    rename (∀ (b : Addr) (o : Obj), _) => hK
    exact hQ' _ _ _ _ _ _ hK hR
  · obtain ⟨wa, ws, n, m1, m2, hT, rfl⟩ := hJ
    have hlw := hT.length
    have hlw2 := wayN_len x i
    have hI : @Ne Nat wa I := hoff _ (.head _)
    have hpow : (5 : Int) ^ i < 1073741824 ∧ 0 < (5 : Int) ^ i := by
      have : i = 0 ∨ i = 1 ∨ i = 2 := by omega
      rcases this with rfl | rfl | rfl <;> decide
    rw [show wayN x (i + 1) = wayStep (wayN x i) (digit x i) from wayN_succ x i]
    obtain ⟨d0, d5⟩ := digit_range x i
    have hd : digit x i = (x.fdiv (5 ^ (i : Int).toNat)).fmod 5 := rfl
    clear F1 N1
    (repeat' (first | (k_unfold; (try dsimp only)) | ((((fail_if_success (with_reducible show wpAny _ _ (exec (Stmt.While _ _ _ _) _) _ _ _)); (fail_if_success (with_reducible show wpAny _ _ (exec (Stmt.For _ _ _ _ _) _) _ _ _)); (fail_if_success (with_reducible show wpAny _ _ (call (Value.ref _) _ _) _ _ _)); (fail_if_success (with_reducible show wpAny _ _ (eval (Expr.ListComp _ _ _ _) _) _ _ _)))); (first | ((with_reducible show wpAny _ _ (storeName (envOf _ _ _ _ _) _ _) _ _ _); k_here; (with_reducible show wpAny _ _ (storeName (envOf _ _ _ _ _) _ _) _ _ _); k_dflt (refine' stG ?k1 ?k2 ?k3 ?k4 ?_; (case k1 => k_asm); (case k2 => k_asm); (case k3 => exact rfl); (case k4 => exact rfl); k_whole); intro sgH sgT sgM sgE sgD sgF sgN; (try k_sweep)) | (k_here; (with_reducible show wpAny _ _ (eval (Expr.Name _ _) (compEnvC _ _ _ _)) _ _ _); (with_reducible rename Fr _ _ _ _ => kF); k_dflt (refine' cname kF ?k2 ?_ ?k3 ?k4; (case k3 => exact rfl); (case k4 => exact rfl); (case k2 => ((repeat' (first | (with_reducible assumption) | exact if_pos rfl | refine Eq.trans (if_neg (by decide)) ?_ | (refine Eq.trans (stG_at (by with_reducible assumption) (by decide)) ?_) | exact rfl)); done)); k_whole)) | (k_here; (with_reducible show wpAny _ _ (eval (Expr.Name _ _) (envOf _ _ _ _ _)) _ _ _); (with_reducible rename Fr _ _ _ _ => kF); k_dflt (refine' ld kF ?k2 ?_; (case k2 => ((repeat' (first | (with_reducible assumption) | exact if_pos rfl | refine Eq.trans (if_neg (by decide)) ?_ | (refine Eq.trans (stG_at (by with_reducible assumption) (by decide)) ?_) | exact rfl)); done)); k_whole)) | ((with_reducible show wpAny _ _ (binaryOp Operator.Add (Value.ref _) (Value.ref _)) _ _ _); k_here; k_dflt (refine' add_L ?k1 ?k2 ?k3 ?k4 ?z ?_; (case k1 => k_asm); (case k2 => k_asm); (case k3 => is_list); (case k4 => is_list); (case z => first | size_fits | ((try simp only [List.length_map, List.length_cons, List.length_nil, List.length_append]); rw [sizeLine_eq]; omega)); k_whole); intro l' h' F' N' l1; (try k_lt l1); (try k_sweep)) | walk1)) | ((((fail_if_success (with_reducible show wpAny _ _ (exec (Stmt.While _ _ _ _) _) _ _ _)); (fail_if_success (with_reducible show wpAny _ _ (exec (Stmt.For _ _ _ _ _) _) _ _ _)); (fail_if_success (with_reducible show wpAny _ _ (call (Value.ref _) _ _) _ _ _)); (fail_if_success (with_reducible show wpAny _ _ (eval (Expr.ListComp _ _ _ _) _) _ _ _)))); dsimp only; (((fail_if_success (with_reducible show wpAny _ _ (exec (Stmt.While _ _ _ _) _) _ _ _)); (fail_if_success (with_reducible show wpAny _ _ (exec (Stmt.For _ _ _ _ _) _) _ _ _)); (fail_if_success (with_reducible show wpAny _ _ (call (Value.ref _) _ _) _ _ _)); (fail_if_success (with_reducible show wpAny _ _ (eval (Expr.ListComp _ _ _ _) _) _ _ _)))); (first | ((with_reducible show wpAny _ _ (storeName (envOf _ _ _ _ _) _ _) _ _ _); k_here; (with_reducible show wpAny _ _ (storeName (envOf _ _ _ _ _) _ _) _ _ _); k_dflt (refine' stG ?k1 ?k2 ?k3 ?k4 ?_; (case k1 => k_asm); (case k2 => k_asm); (case k3 => exact rfl); (case k4 => exact rfl); k_whole); intro sgH sgT sgM sgE sgD sgF sgN; (try k_sweep)) | (k_here; (with_reducible show wpAny _ _ (eval (Expr.Name _ _) (compEnvC _ _ _ _)) _ _ _); (with_reducible rename Fr _ _ _ _ => kF); k_dflt (refine' cname kF ?k2 ?_ ?k3 ?k4; (case k3 => exact rfl); (case k4 => exact rfl); (case k2 => ((repeat' (first | (with_reducible assumption) | exact if_pos rfl | refine Eq.trans (if_neg (by decide)) ?_ | (refine Eq.trans (stG_at (by with_reducible assumption) (by decide)) ?_) | exact rfl)); done)); k_whole)) | (k_here; (with_reducible show wpAny _ _ (eval (Expr.Name _ _) (envOf _ _ _ _ _)) _ _ _); (with_reducible rename Fr _ _ _ _ => kF); k_dflt (refine' ld kF ?k2 ?_; (case k2 => ((repeat' (first | (with_reducible assumption) | exact if_pos rfl | refine Eq.trans (if_neg (by decide)) ?_ | (refine Eq.trans (stG_at (by with_reducible assumption) (by decide)) ?_) | exact rfl)); done)); k_whole)) | ((with_reducible show wpAny _ _ (binaryOp Operator.Add (Value.ref _) (Value.ref _)) _ _ _); k_here; k_dflt (refine' add_L ?k1 ?k2 ?k3 ?k4 ?z ?_; (case k1 => k_asm); (case k2 => k_asm); (case k3 => is_list); (case k4 => is_list); (case z => first | size_fits | ((try simp only [List.length_map, List.length_cons, List.length_nil, List.length_append]); rw [sizeLine_eq]; omega)); k_whole); intro l' h' F' N' l1; (try k_lt l1); (try k_sweep)) | walk1)) | fail "no step"))
    refine floordiv_int (by simp; omega) ?_ (Or.inl (PyProof.noPylong_small (by show ((5 : Int) ^ i).natAbs < 1073741824; omega)))
    (repeat' (first | (k_unfold; (try dsimp only)) | ((((fail_if_success (with_reducible show wpAny _ _ (exec (Stmt.While _ _ _ _) _) _ _ _)); (fail_if_success (with_reducible show wpAny _ _ (exec (Stmt.For _ _ _ _ _) _) _ _ _)); (fail_if_success (with_reducible show wpAny _ _ (call (Value.ref _) _ _) _ _ _)); (fail_if_success (with_reducible show wpAny _ _ (eval (Expr.ListComp _ _ _ _) _) _ _ _)))); (first | ((with_reducible show wpAny _ _ (storeName (envOf _ _ _ _ _) _ _) _ _ _); k_here; (with_reducible show wpAny _ _ (storeName (envOf _ _ _ _ _) _ _) _ _ _); k_dflt (refine' stG ?k1 ?k2 ?k3 ?k4 ?_; (case k1 => k_asm); (case k2 => k_asm); (case k3 => exact rfl); (case k4 => exact rfl); k_whole); intro sgH sgT sgM sgE sgD sgF sgN; (try k_sweep)) | (k_here; (with_reducible show wpAny _ _ (eval (Expr.Name _ _) (compEnvC _ _ _ _)) _ _ _); (with_reducible rename Fr _ _ _ _ => kF); k_dflt (refine' cname kF ?k2 ?_ ?k3 ?k4; (case k3 => exact rfl); (case k4 => exact rfl); (case k2 => ((repeat' (first | (with_reducible assumption) | exact if_pos rfl | refine Eq.trans (if_neg (by decide)) ?_ | (refine Eq.trans (stG_at (by with_reducible assumption) (by decide)) ?_) | exact rfl)); done)); k_whole)) | (k_here; (with_reducible show wpAny _ _ (eval (Expr.Name _ _) (envOf _ _ _ _ _)) _ _ _); (with_reducible rename Fr _ _ _ _ => kF); k_dflt (refine' ld kF ?k2 ?_; (case k2 => ((repeat' (first | (with_reducible assumption) | exact if_pos rfl | refine Eq.trans (if_neg (by decide)) ?_ | (refine Eq.trans (stG_at (by with_reducible assumption) (by decide)) ?_) | exact rfl)); done)); k_whole)) | ((with_reducible show wpAny _ _ (binaryOp Operator.Add (Value.ref _) (Value.ref _)) _ _ _); k_here; k_dflt (refine' add_L ?k1 ?k2 ?k3 ?k4 ?z ?_; (case k1 => k_asm); (case k2 => k_asm); (case k3 => is_list); (case k4 => is_list); (case z => first | size_fits | ((try simp only [List.length_map, List.length_cons, List.length_nil, List.length_append]); rw [sizeLine_eq]; omega)); k_whole); intro l' h' F' N' l1; (try k_lt l1); (try k_sweep)) | walk1)) | ((((fail_if_success (with_reducible show wpAny _ _ (exec (Stmt.While _ _ _ _) _) _ _ _)); (fail_if_success (with_reducible show wpAny _ _ (exec (Stmt.For _ _ _ _ _) _) _ _ _)); (fail_if_success (with_reducible show wpAny _ _ (call (Value.ref _) _ _) _ _ _)); (fail_if_success (with_reducible show wpAny _ _ (eval (Expr.ListComp _ _ _ _) _) _ _ _)))); dsimp only; (((fail_if_success (with_reducible show wpAny _ _ (exec (Stmt.While _ _ _ _) _) _ _ _)); (fail_if_success (with_reducible show wpAny _ _ (exec (Stmt.For _ _ _ _ _) _) _ _ _)); (fail_if_success (with_reducible show wpAny _ _ (call (Value.ref _) _ _) _ _ _)); (fail_if_success (with_reducible show wpAny _ _ (eval (Expr.ListComp _ _ _ _) _) _ _ _)))); (first | ((with_reducible show wpAny _ _ (storeName (envOf _ _ _ _ _) _ _) _ _ _); k_here; (with_reducible show wpAny _ _ (storeName (envOf _ _ _ _ _) _ _) _ _ _); k_dflt (refine' stG ?k1 ?k2 ?k3 ?k4 ?_; (case k1 => k_asm); (case k2 => k_asm); (case k3 => exact rfl); (case k4 => exact rfl); k_whole); intro sgH sgT sgM sgE sgD sgF sgN; (try k_sweep)) | (k_here; (with_reducible show wpAny _ _ (eval (Expr.Name _ _) (compEnvC _ _ _ _)) _ _ _); (with_reducible rename Fr _ _ _ _ => kF); k_dflt (refine' cname kF ?k2 ?_ ?k3 ?k4; (case k3 => exact rfl); (case k4 => exact rfl); (case k2 => ((repeat' (first | (with_reducible assumption) | exact if_pos rfl | refine Eq.trans (if_neg (by decide)) ?_ | (refine Eq.trans (stG_at (by with_reducible assumption) (by decide)) ?_) | exact rfl)); done)); k_whole)) | (k_here; (with_reducible show wpAny _ _ (eval (Expr.Name _ _) (envOf _ _ _ _ _)) _ _ _); (with_reducible rename Fr _ _ _ _ => kF); k_dflt (refine' ld kF ?k2 ?_; (case k2 => ((repeat' (first | (with_reducible assumption) | exact if_pos rfl | refine Eq.trans (if_neg (by decide)) ?_ | (refine Eq.trans (stG_at (by with_reducible assumption) (by decide)) ?_) | exact rfl)); done)); k_whole)) | ((with_reducible show wpAny _ _ (binaryOp Operator.Add (Value.ref _) (Value.ref _)) _ _ _); k_here; k_dflt (refine' add_L ?k1 ?k2 ?k3 ?k4 ?z ?_; (case k1 => k_asm); (case k2 => k_asm); (case k3 => is_list); (case k4 => is_list); (case z => first | size_fits | ((try simp only [List.length_map, List.length_cons, List.length_nil, List.length_append]); rw [sizeLine_eq]; omega)); k_whole); intro l' h' F' N' l1; (try k_lt l1); (try k_sweep)) | walk1)) | fail "no step"))
    · rename Fr _ _ _ _ => F5
      rename News _ _ _ _ => N5
      rename ((Int.fmod _ _) = 2) => hf
      rw [slicePick_init] at N5
      refine turn_one F5 N5 (by k_mem) (.head _) rfl hcl ⟨_, _, _, by ((repeat' (first | (with_reducible assumption) | exact if_pos rfl | refine Eq.trans (if_neg (by decide)) ?_ | (refine Eq.trans (stG_at (by with_reducible assumption) (by decide)) ?_) | exact rfl)); done), by ((repeat' (first | (with_reducible assumption) | exact if_pos rfl | refine Eq.trans (if_neg (by decide)) ?_ | (refine Eq.trans (stG_at (by with_reducible assumption) (by decide)) ?_) | exact rfl)); done), ?_, rfl⟩
      rw [wayStep, if_pos (hd.trans hf)]; exact hT.dropLast
    · rename Fr _ _ _ _ => F5
      rename News _ _ _ _ => N5
      rename ((Int.fmod _ _) = 3) => hf
      refine turn_one F5 N5 (by k_mem) (.tail _ (.head _)) rfl hcl ⟨_, _, _, by ((repeat' (first | (with_reducible assumption) | exact if_pos rfl | refine Eq.trans (if_neg (by decide)) ?_ | (refine Eq.trans (stG_at (by with_reducible assumption) (by decide)) ?_) | exact rfl)); done), by ((repeat' (first | (with_reducible assumption) | exact if_pos rfl | refine Eq.trans (if_neg (by decide)) ?_ | (refine Eq.trans (stG_at (by with_reducible assumption) (by decide)) ?_) | exact rfl)); done), ?_, rfl⟩
      rw [wayStep, if_neg (by rw [hd, hf]; decide), if_pos (hd.trans hf)]; exact hT
    · rename Fr _ _ _ _ => F5
      rename News _ _ _ _ => N5
      rename ((Int.fmod _ _) = 0) => hf
      refine turn_one F5 N5 (by k_mem) (.head _) rfl hcl ⟨_, _, _, by ((repeat' (first | (with_reducible assumption) | exact if_pos rfl | refine Eq.trans (if_neg (by decide)) ?_ | (refine Eq.trans (stG_at (by with_reducible assumption) (by decide)) ?_) | exact rfl)); done), by ((repeat' (first | (with_reducible assumption) | exact if_pos rfl | refine Eq.trans (if_neg (by decide)) ?_ | (refine Eq.trans (stG_at (by with_reducible assumption) (by decide)) ?_) | exact rfl)); done), ?_, rfl⟩
      rw [wayStep, if_neg (by rw [hd, hf]; decide), if_neg (by rw [hd, hf]; decide), hd, hf]
      exact hT.append (u := [false]) ⟨⟨_, rfl⟩, trivial⟩
    · rename Fr _ _ _ _ => F5
      rename News _ _ _ _ => N5
      rename ((Int.fmod _ _) = 1) => hf
      refine turn_one F5 N5 (by k_mem) (.head _) rfl hcl ⟨_, _, _, by ((repeat' (first | (with_reducible assumption) | exact if_pos rfl | refine Eq.trans (if_neg (by decide)) ?_ | (refine Eq.trans (stG_at (by with_reducible assumption) (by decide)) ?_) | exact rfl)); done), by ((repeat' (first | (with_reducible assumption) | exact if_pos rfl | refine Eq.trans (if_neg (by decide)) ?_ | (refine Eq.trans (stG_at (by with_reducible assumption) (by decide)) ?_) | exact rfl)); done), ?_, rfl⟩
      rw [wayStep, if_neg (by rw [hd, hf]; decide), if_neg (by rw [hd, hf]; decide), hd, hf]
      exact hT.append (u := [true]) ⟨⟨_, rfl⟩, trivial⟩
    · rename Fr _ _ _ _ => F5
      rename News _ _ _ _ => N5
      rename ((Int.fmod _ _) = 4) => hf
      refine turn_one F5 N5 (by k_mem) (.head _) rfl hcl ⟨_, _, _, by ((repeat' (first | (with_reducible assumption) | exact if_pos rfl | refine Eq.trans (if_neg (by decide)) ?_ | (refine Eq.trans (stG_at (by with_reducible assumption) (by decide)) ?_) | exact rfl)); done), by ((repeat' (first | (with_reducible assumption) | exact if_pos rfl | refine Eq.trans (if_neg (by decide)) ?_ | (refine Eq.trans (stG_at (by with_reducible assumption) (by decide)) ?_) | exact rfl)); done), ?_, rfl⟩
      rw [wayStep, if_neg (by rw [hd, hf]; decide), if_neg (by rw [hd, hf]; decide), hd, hf]
      exact hT.append (u := [true]) ⟨⟨_, rfl⟩, trivial⟩
  · obtain ⟨wa, ws, n, m1, m2, hT, rfl⟩ := hJ
    clear F1 N1
    (repeat' (first | (k_unfold; (try dsimp only)) | ((((fail_if_success (with_reducible show wpAny _ _ (exec (Stmt.While _ _ _ _) _) _ _ _)); (fail_if_success (with_reducible show wpAny _ _ (exec (Stmt.For _ _ _ _ _) _) _ _ _)); (fail_if_success (with_reducible show wpAny _ _ (call (Value.ref _) _ _) _ _ _)); (fail_if_success (with_reducible show wpAny _ _ (eval (Expr.ListComp _ _ _ _) _) _ _ _)))); (first | ((with_reducible show wpAny _ _ (storeName (envOf _ _ _ _ _) _ _) _ _ _); k_here; (with_reducible show wpAny _ _ (storeName (envOf _ _ _ _ _) _ _) _ _ _); k_dflt (refine' stG ?k1 ?k2 ?k3 ?k4 ?_; (case k1 => k_asm); (case k2 => k_asm); (case k3 => exact rfl); (case k4 => exact rfl); k_whole); intro sgH sgT sgM sgE sgD sgF sgN; (try k_sweep)) | (k_here; (with_reducible show wpAny _ _ (eval (Expr.Name _ _) (compEnvC _ _ _ _)) _ _ _); (with_reducible rename Fr _ _ _ _ => kF); k_dflt (refine' cname kF ?k2 ?_ ?k3 ?k4; (case k3 => exact rfl); (case k4 => exact rfl); (case k2 => ((repeat' (first | (with_reducible assumption) | exact if_pos rfl | refine Eq.trans (if_neg (by decide)) ?_ | (refine Eq.trans (stG_at (by with_reducible assumption) (by decide)) ?_) | exact rfl)); done)); k_whole)) | (k_here; (with_reducible show wpAny _ _ (eval (Expr.Name _ _) (envOf _ _ _ _ _)) _ _ _); (with_reducible rename Fr _ _ _ _ => kF); k_dflt (refine' ld kF ?k2 ?_; (case k2 => ((repeat' (first | (with_reducible assumption) | exact if_pos rfl | refine Eq.trans (if_neg (by decide)) ?_ | (refine Eq.trans (stG_at (by with_reducible assumption) (by decide)) ?_) | exact rfl)); done)); k_whole)) | ((with_reducible show wpAny _ _ (binaryOp Operator.Add (Value.ref _) (Value.ref _)) _ _ _); k_here; k_dflt (refine' add_L ?k1 ?k2 ?k3 ?k4 ?z ?_; (case k1 => k_asm); (case k2 => k_asm); (case k3 => is_list); (case k4 => is_list); (case z => first | size_fits | ((try simp only [List.length_map, List.length_cons, List.length_nil, List.length_append]); rw [sizeLine_eq]; omega)); k_whole); intro l' h' F' N' l1; (try k_lt l1); (try k_sweep)) | walk1)) | ((((fail_if_success (with_reducible show wpAny _ _ (exec (Stmt.While _ _ _ _) _) _ _ _)); (fail_if_success (with_reducible show wpAny _ _ (exec (Stmt.For _ _ _ _ _) _) _ _ _)); (fail_if_success (with_reducible show wpAny _ _ (call (Value.ref _) _ _) _ _ _)); (fail_if_success (with_reducible show wpAny _ _ (eval (Expr.ListComp _ _ _ _) _) _ _ _)))); dsimp only; (((fail_if_success (with_reducible show wpAny _ _ (exec (Stmt.While _ _ _ _) _) _ _ _)); (fail_if_success (with_reducible show wpAny _ _ (exec (Stmt.For _ _ _ _ _) _) _ _ _)); (fail_if_success (with_reducible show wpAny _ _ (call (Value.ref _) _ _) _ _ _)); (fail_if_success (with_reducible show wpAny _ _ (eval (Expr.ListComp _ _ _ _) _) _ _ _)))); (first | ((with_reducible show wpAny _ _ (storeName (envOf _ _ _ _ _) _ _) _ _ _); k_here; (with_reducible show wpAny _ _ (storeName (envOf _ _ _ _ _) _ _) _ _ _); k_dflt (refine' stG ?k1 ?k2 ?k3 ?k4 ?_; (case k1 => k_asm); (case k2 => k_asm); (case k3 => exact rfl); (case k4 => exact rfl); k_whole); intro sgH sgT sgM sgE sgD sgF sgN; (try k_sweep)) | (k_here; (with_reducible show wpAny _ _ (eval (Expr.Name _ _) (compEnvC _ _ _ _)) _ _ _); (with_reducible rename Fr _ _ _ _ => kF); k_dflt (refine' cname kF ?k2 ?_ ?k3 ?k4; (case k3 => exact rfl); (case k4 => exact rfl); (case k2 => ((repeat' (first | (with_reducible assumption) | exact if_pos rfl | refine Eq.trans (if_neg (by decide)) ?_ | (refine Eq.trans (stG_at (by with_reducible assumption) (by decide)) ?_) | exact rfl)); done)); k_whole)) | (k_here; (with_reducible show wpAny _ _ (eval (Expr.Name _ _) (envOf _ _ _ _ _)) _ _ _); (with_reducible rename Fr _ _ _ _ => kF); k_dflt (refine' ld kF ?k2 ?_; (case k2 => ((repeat' (first | (with_reducible assumption) | exact if_pos rfl | refine Eq.trans (if_neg (by decide)) ?_ | (refine Eq.trans (stG_at (by with_reducible assumption) (by decide)) ?_) | exact rfl)); done)); k_whole)) | ((with_reducible show wpAny _ _ (binaryOp Operator.Add (Value.ref _) (Value.ref _)) _ _ _); k_here; k_dflt (refine' add_L ?k1 ?k2 ?k3 ?k4 ?z ?_; (case k1 => k_asm); (case k2 => k_asm); (case k3 => is_list); (case k4 => is_list); (case z => first | size_fits | ((try simp only [List.length_map, List.length_cons, List.length_nil, List.length_append]); rw [sizeLine_eq]; omega)); k_whole); intro l' h' F' N' l1; (try k_lt l1); (try k_sweep)) | walk1)) | fail "no step"))
    rename Fr _ _ _ _ => F5
    have z := N4 _ (.head _)
    exact hQ _ _ _ _ _ F5.keep z.2.2 hT z.1
end

section
open PySem PySem.W PyProof.Rows PySem.Calls PySem.SeqAt

noncomputable def piece (d : Int) : Str := if d = 0 then Str.ofString "a" else if d = 1 then Str.ofString "b" else if d = 2 then Str.ofString ".." else if d = 3 then Str.ofString "." else Str.ofString "b//"

noncomputable def pathS (a b c : Int) : Str := Str.ofString "/" ++ Txt.join (Str.ofString "/") [piece a, piece b, piece c]
theorem piece_len (d : Int) : (piece d).length ≤ 3 := by
  unfold piece; repeat' split
  all_goals decide +kernel

theorem piece_cases (d : Int) : piece d = Str.ofString "a" ∨ piece d = Str.ofString "b" ∨ piece d = Str.ofString ".." ∨ piece d = Str.ofString "." ∨ piece d = Str.ofString "b//" := by
  unfold piece
  split
  · exact .inl rfl
  · split
    · exact .inr (.inl rfl)
    · split
      · exact .inr (.inr (.inl rfl))
      · split
        · exact .inr (.inr (.inr (.inl rfl)))
        · exact .inr (.inr (.inr (.inr rfl)))
theorem pathJ_len (a b c : Int) : (Txt.join (Str.ofString "/") [piece a, piece b, piece c]).length ≤ 11 := by
  rcases piece_cases a with h | h | h | h | h <;> rcases piece_cases b with h' | h' | h' | h' | h' <;> rcases piece_cases c with h'' | h'' | h'' | h'' | h'' <;> rw [h, h', h''] <;> decide +kernel

theorem path_c {w : World} {A : Around} {E : Value → Shared → Prop} {s : Shared} {g : Heap} {Q : Value → Shared → Prop} {x : Int} {t : Tok} (a : Amb w g) (lg : Le g s.heap) (r : Room 6 A)
    (hQ : ∀ h' tk u, Le s.heap h' → Q (.str (pathS (digit x 0) (digit x 1) (digit x 2)) u) { s with heap := h', toks := tk }) :
    wpAny (model Challenge.rw_ny0132_01.row.prog w) A (call (.ref 169) [.int x t]) Q E s := by
  have a' := a.le lg
  obtain ⟨X, mean, mg, mb, T⟩ := a'
  revert X; k_fill; intro X
  refine weaken r ?_
  refine enterC (binds := [(Str.ofString "x", .int x t)]) X T.nolimit (Le.refl _) (Nat.le_refl _) (by k_is) (by k_is) (by show 346 < recursionLimit; decide) (BindsTo.of_eq rfl) (by rfl) (by decide) (fun h₁ tk₁ cells F N Y L₁ => ?_) rfl rfl rfl
  obtain ⟨o, rfl, d1⟩ := CellsAre.one Y
  replace d1 : o.data = .cell (some (.int x t)) := d1
  generalize hL : s.heap.objs.size = L at *
  show wpAny _ _ _ _ _ _
  k_fold
  (repeat' (first | (k_unfold; (try dsimp only)) | ((((fail_if_success (with_reducible show wpAny _ _ (exec (Stmt.While _ _ _ _) _) _ _ _)); (fail_if_success (with_reducible show wpAny _ _ (exec (Stmt.For _ _ _ _ _) _) _ _ _)); (fail_if_success (with_reducible show wpAny _ _ (call (Value.ref _) _ _) _ _ _)); (fail_if_success (with_reducible show wpAny _ _ (eval (Expr.ListComp _ _ _ _) _) _ _ _)); (fail_if_success (with_reducible show wpAny _ _ (binaryOp Operator.Add (Value.str _ _) (Value.str (Txt.join _ _) _)) _ _ _)))); (first | ((with_reducible show wpAny _ _ (storeName (envOf _ _ _ _ _) _ _) _ _ _); k_here; (with_reducible show wpAny _ _ (storeName (envOf _ _ _ _ _) _ _) _ _ _); k_dflt (refine' stG ?k1 ?k2 ?k3 ?k4 ?_; (case k1 => k_asm); (case k2 => k_asm); (case k3 => exact rfl); (case k4 => exact rfl); k_whole); intro sgH sgT sgM sgE sgD sgF sgN; (try k_sweep)) | (k_here; (with_reducible show wpAny _ _ (eval (Expr.Name _ _) (compEnvC _ _ _ _)) _ _ _); (with_reducible rename Fr _ _ _ _ => kF); k_dflt (refine' cname kF ?k2 ?_ ?k3 ?k4; (case k3 => exact rfl); (case k4 => exact rfl); (case k2 => ((repeat' (first | (with_reducible assumption) | exact if_pos rfl | refine Eq.trans (if_neg (by decide)) ?_ | (refine Eq.trans (stG_at (by with_reducible assumption) (by decide)) ?_) | exact rfl)); done)); k_whole)) | (k_here; (with_reducible show wpAny _ _ (eval (Expr.Name _ _) (envOf _ _ _ _ _)) _ _ _); (with_reducible rename Fr _ _ _ _ => kF); k_dflt (refine' ld kF ?k2 ?_; (case k2 => ((repeat' (first | (with_reducible assumption) | exact if_pos rfl | refine Eq.trans (if_neg (by decide)) ?_ | (refine Eq.trans (stG_at (by with_reducible assumption) (by decide)) ?_) | exact rfl)); done)); k_whole)) | walk1)) | ((((fail_if_success (with_reducible show wpAny _ _ (exec (Stmt.While _ _ _ _) _) _ _ _)); (fail_if_success (with_reducible show wpAny _ _ (exec (Stmt.For _ _ _ _ _) _) _ _ _)); (fail_if_success (with_reducible show wpAny _ _ (call (Value.ref _) _ _) _ _ _)); (fail_if_success (with_reducible show wpAny _ _ (eval (Expr.ListComp _ _ _ _) _) _ _ _)); (fail_if_success (with_reducible show wpAny _ _ (binaryOp Operator.Add (Value.str _ _) (Value.str (Txt.join _ _) _)) _ _ _)))); dsimp only; (((fail_if_success (with_reducible show wpAny _ _ (exec (Stmt.While _ _ _ _) _) _ _ _)); (fail_if_success (with_reducible show wpAny _ _ (exec (Stmt.For _ _ _ _ _) _) _ _ _)); (fail_if_success (with_reducible show wpAny _ _ (call (Value.ref _) _ _) _ _ _)); (fail_if_success (with_reducible show wpAny _ _ (eval (Expr.ListComp _ _ _ _) _) _ _ _)); (fail_if_success (with_reducible show wpAny _ _ (binaryOp Operator.Add (Value.str _ _) (Value.str (Txt.join _ _) _)) _ _ _)))); (first | ((with_reducible show wpAny _ _ (storeName (envOf _ _ _ _ _) _ _) _ _ _); k_here; (with_reducible show wpAny _ _ (storeName (envOf _ _ _ _ _) _ _) _ _ _); k_dflt (refine' stG ?k1 ?k2 ?k3 ?k4 ?_; (case k1 => k_asm); (case k2 => k_asm); (case k3 => exact rfl); (case k4 => exact rfl); k_whole); intro sgH sgT sgM sgE sgD sgF sgN; (try k_sweep)) | (k_here; (with_reducible show wpAny _ _ (eval (Expr.Name _ _) (compEnvC _ _ _ _)) _ _ _); (with_reducible rename Fr _ _ _ _ => kF); k_dflt (refine' cname kF ?k2 ?_ ?k3 ?k4; (case k3 => exact rfl); (case k4 => exact rfl); (case k2 => ((repeat' (first | (with_reducible assumption) | exact if_pos rfl | refine Eq.trans (if_neg (by decide)) ?_ | (refine Eq.trans (stG_at (by with_reducible assumption) (by decide)) ?_) | exact rfl)); done)); k_whole)) | (k_here; (with_reducible show wpAny _ _ (eval (Expr.Name _ _) (envOf _ _ _ _ _)) _ _ _); (with_reducible rename Fr _ _ _ _ => kF); k_dflt (refine' ld kF ?k2 ?_; (case k2 => ((repeat' (first | (with_reducible assumption) | exact if_pos rfl | refine Eq.trans (if_neg (by decide)) ?_ | (refine Eq.trans (stG_at (by with_reducible assumption) (by decide)) ?_) | exact rfl)); done)); k_whole)) | walk1)) | fail "no step"))
  refine comp_range (n := 3) (g₀ := s.heap) (fun i ys g => ∃ t0 t1 t2, ys = [Value.str (piece (digit x 0)) t0, Value.str (piece (digit x 1)) t1, Value.str (piece (digit x 2)) t2].take i) rfl rfl (by decide) rfl (by decide) rfl (fun Q' hQ' => ?_) (by omega) F.keep ⟨0, 0, 0, rfl⟩ (fun i t ys g h tk C m hi hJ hyl ea hm => ?_) (fun D h tk ys g hJ b1 b2 b3 b4 b5 b6 => ?_)
  · (repeat' (first | (k_unfold; (try dsimp only)) | ((((fail_if_success (with_reducible show wpAny _ _ (exec (Stmt.While _ _ _ _) _) _ _ _)); (fail_if_success (with_reducible show wpAny _ _ (exec (Stmt.For _ _ _ _ _) _) _ _ _)); (fail_if_success (with_reducible show wpAny _ _ (call (Value.ref _) _ _) _ _ _)); (fail_if_success (with_reducible show wpAny _ _ (eval (Expr.ListComp _ _ _ _) _) _ _ _)); (fail_if_success (with_reducible show wpAny _ _ (binaryOp Operator.Add (Value.str _ _) (Value.str (Txt.join _ _) _)) _ _ _)))); (first | ((with_reducible show wpAny _ _ (storeName (envOf _ _ _ _ _) _ _) _ _ _); k_here; (with_reducible show wpAny _ _ (storeName (envOf _ _ _ _ _) _ _) _ _ _); k_dflt (refine' stG ?k1 ?k2 ?k3 ?k4 ?_; (case k1 => k_asm); (case k2 => k_asm); (case k3 => exact rfl); (case k4 => exact rfl); k_whole); intro sgH sgT sgM sgE sgD sgF sgN; (try k_sweep)) | (k_here; (with_reducible show wpAny _ _ (eval (Expr.Name _ _) (compEnvC _ _ _ _)) _ _ _); (with_reducible rename Fr _ _ _ _ => kF); k_dflt (refine' cname kF ?k2 ?_ ?k3 ?k4; (case k3 => exact rfl); (case k4 => exact rfl); (case k2 => ((repeat' (first | (with_reducible assumption) | exact if_pos rfl | refine Eq.trans (if_neg (by decide)) ?_ | (refine Eq.trans (stG_at (by with_reducible assumption) (by decide)) ?_) | exact rfl)); done)); k_whole)) | (k_here; (with_reducible show wpAny _ _ (eval (Expr.Name _ _) (envOf _ _ _ _ _)) _ _ _); (with_reducible rename Fr _ _ _ _ => kF); k_dflt (refine' ld kF ?k2 ?_; (case k2 => ((repeat' (first | (with_reducible assumption) | exact if_pos rfl | refine Eq.trans (if_neg (by decide)) ?_ | (refine Eq.trans (stG_at (by with_reducible assumption) (by decide)) ?_) | exact rfl)); done)); k_whole)) | walk1)) | ((((fail_if_success (with_reducible show wpAny _ _ (exec (Stmt.While _ _ _ _) _) _ _ _)); (fail_if_success (with_reducible show wpAny _ _ (exec (Stmt.For _ _ _ _ _) _) _ _ _)); (fail_if_success (with_reducible show wpAny _ _ (call (Value.ref _) _ _) _ _ _)); (fail_if_success (with_reducible show wpAny _ _ (eval (Expr.ListComp _ _ _ _) _) _ _ _)); (fail_if_success (with_reducible show wpAny _ _ (binaryOp Operator.Add (Value.str _ _) (Value.str (Txt.join _ _) _)) _ _ _)))); dsimp only; (((fail_if_success (with_reducible show wpAny _ _ (exec (Stmt.While _ _ _ _) _) _ _ _)); (fail_if_success (with_reducible show wpAny _ _ (exec (Stmt.For _ _ _ _ _) _) _ _ _)); (fail_if_success (with_reducible show wpAny _ _ (call (Value.ref _) _ _) _ _ _)); (fail_if_success (with_reducible show wpAny _ _ (eval (Expr.ListComp _ _ _ _) _) _ _ _)); (fail_if_success (with_reducible show wpAny _ _ (binaryOp Operator.Add (Value.str _ _) (Value.str (Txt.join _ _) _)) _ _ _)))); (first | ((with_reducible show wpAny _ _ (storeName (envOf _ _ _ _ _) _ _) _ _ _); k_here; (with_reducible show wpAny _ _ (storeName (envOf _ _ _ _ _) _ _) _ _ _); k_dflt (refine' stG ?k1 ?k2 ?k3 ?k4 ?_; (case k1 => k_asm); (case k2 => k_asm); (case k3 => exact rfl); (case k4 => exact rfl); k_whole); intro sgH sgT sgM sgE sgD sgF sgN; (try k_sweep)) | (k_here; (with_reducible show wpAny _ _ (eval (Expr.Name _ _) (compEnvC _ _ _ _)) _ _ _); (with_reducible rename Fr _ _ _ _ => kF); k_dflt (refine' cname kF ?k2 ?_ ?k3 ?k4; (case k3 => exact rfl); (case k4 => exact rfl); (case k2 => ((repeat' (first | (with_reducible assumption) | exact if_pos rfl | refine Eq.trans (if_neg (by decide)) ?_ | (refine Eq.trans (stG_at (by with_reducible assumption) (by decide)) ?_) | exact rfl)); done)); k_whole)) | (k_here; (with_reducible show wpAny _ _ (eval (Expr.Name _ _) (envOf _ _ _ _ _)) _ _ _); (with_reducible rename Fr _ _ _ _ => kF); k_dflt (refine' ld kF ?k2 ?_; (case k2 => ((repeat' (first | (with_reducible assumption) | exact if_pos rfl | refine Eq.trans (if_neg (by decide)) ?_ | (refine Eq.trans (stG_at (by with_reducible assumption) (by decide)) ?_) | exact rfl)); done)); k_whole)) | walk1)) | fail "no step"))
    rename IsRange _ _ _ _ _ _ _ _ => hR
    rename (∀ (b : Addr) (o : Obj), _) => hK
    exact hQ' _ _ _ _ _ _ hK (Nat.le_of_lt (Heap.lt_size hR)) hR
  · have hC1 : @Ne Nat (L + 1) C := fun q => by
      have := ea.newC
      rw [← q] at this
      rw [(N _ (.head _)).1] at this; cases this
    have FC : Fr s.heap C h m := ⟨ea.ns, fun b o e => ea.old b o (F.keep b o e), by rw [hL]; exact Nat.le_trans (Nat.le_of_lt F.ns.lt) ea.szC⟩
    obtain ⟨rest, NR, hall⟩ := ledger_all FC
    have hkk : ∀ h' m' all, Fr s.heap C h' m' → News s.heap C h' all → (∀ p ∈ rest, p ∈ all) → ∀ b o, b ≠ C → h.get? b = some o → h'.get? b = some o := fun _ _ _ F' N' sub => le_of_ledger FC hall F' N' sub
    have NC : News s.heap C h ((L + 1, o) :: rest) := fun p hp => by
      rcases List.mem_cons.mp hp with rfl | hp
      · exact ⟨ea.old _ _ (N _ (.head _)).1, hC1, (N _ (.head _)).2.2⟩
      · exact NR p hp
    have hpow : (5 : Int) ^ i < 1073741824 ∧ 0 < (5 : Int) ^ i := by
      have : i = 0 ∨ i = 1 ∨ i = 2 := by omega
      rcases this with rfl | rfl | rfl <;> decide
    obtain ⟨d0, d5⟩ := digit_range x i
    have hd : digit x i = (x.fdiv (5 ^ (i : Int).toNat)).fmod 5 := rfl
    refine wpAny_tests_nil ?_
    simp only [if_true]
    clear F N NR
    (repeat' (first | (k_unfold; (try dsimp only)) | ((((fail_if_success (with_reducible show wpAny _ _ (exec (Stmt.While _ _ _ _) _) _ _ _)); (fail_if_success (with_reducible show wpAny _ _ (exec (Stmt.For _ _ _ _ _) _) _ _ _)); (fail_if_success (with_reducible show wpAny _ _ (call (Value.ref _) _ _) _ _ _)); (fail_if_success (with_reducible show wpAny _ _ (eval (Expr.ListComp _ _ _ _) _) _ _ _)); (fail_if_success (with_reducible show wpAny _ _ (binaryOp Operator.Add (Value.str _ _) (Value.str (Txt.join _ _) _)) _ _ _)))); (first | ((with_reducible show wpAny _ _ (storeName (envOf _ _ _ _ _) _ _) _ _ _); k_here; (with_reducible show wpAny _ _ (storeName (envOf _ _ _ _ _) _ _) _ _ _); k_dflt (refine' stG ?k1 ?k2 ?k3 ?k4 ?_; (case k1 => k_asm); (case k2 => k_asm); (case k3 => exact rfl); (case k4 => exact rfl); k_whole); intro sgH sgT sgM sgE sgD sgF sgN; (try k_sweep)) | (k_here; (with_reducible show wpAny _ _ (eval (Expr.Name _ _) (compEnvC _ _ _ _)) _ _ _); (with_reducible rename Fr _ _ _ _ => kF); k_dflt (refine' cname kF ?k2 ?_ ?k3 ?k4; (case k3 => exact rfl); (case k4 => exact rfl); (case k2 => ((repeat' (first | (with_reducible assumption) | exact if_pos rfl | refine Eq.trans (if_neg (by decide)) ?_ | (refine Eq.trans (stG_at (by with_reducible assumption) (by decide)) ?_) | exact rfl)); done)); k_whole)) | (k_here; (with_reducible show wpAny _ _ (eval (Expr.Name _ _) (envOf _ _ _ _ _)) _ _ _); (with_reducible rename Fr _ _ _ _ => kF); k_dflt (refine' ld kF ?k2 ?_; (case k2 => ((repeat' (first | (with_reducible assumption) | exact if_pos rfl | refine Eq.trans (if_neg (by decide)) ?_ | (refine Eq.trans (stG_at (by with_reducible assumption) (by decide)) ?_) | exact rfl)); done)); k_whole)) | walk1)) | ((((fail_if_success (with_reducible show wpAny _ _ (exec (Stmt.While _ _ _ _) _) _ _ _)); (fail_if_success (with_reducible show wpAny _ _ (exec (Stmt.For _ _ _ _ _) _) _ _ _)); (fail_if_success (with_reducible show wpAny _ _ (call (Value.ref _) _ _) _ _ _)); (fail_if_success (with_reducible show wpAny _ _ (eval (Expr.ListComp _ _ _ _) _) _ _ _)); (fail_if_success (with_reducible show wpAny _ _ (binaryOp Operator.Add (Value.str _ _) (Value.str (Txt.join _ _) _)) _ _ _)))); dsimp only; (((fail_if_success (with_reducible show wpAny _ _ (exec (Stmt.While _ _ _ _) _) _ _ _)); (fail_if_success (with_reducible show wpAny _ _ (exec (Stmt.For _ _ _ _ _) _) _ _ _)); (fail_if_success (with_reducible show wpAny _ _ (call (Value.ref _) _ _) _ _ _)); (fail_if_success (with_reducible show wpAny _ _ (eval (Expr.ListComp _ _ _ _) _) _ _ _)); (fail_if_success (with_reducible show wpAny _ _ (binaryOp Operator.Add (Value.str _ _) (Value.str (Txt.join _ _) _)) _ _ _)))); (first | ((with_reducible show wpAny _ _ (storeName (envOf _ _ _ _ _) _ _) _ _ _); k_here; (with_reducible show wpAny _ _ (storeName (envOf _ _ _ _ _) _ _) _ _ _); k_dflt (refine' stG ?k1 ?k2 ?k3 ?k4 ?_; (case k1 => k_asm); (case k2 => k_asm); (case k3 => exact rfl); (case k4 => exact rfl); k_whole); intro sgH sgT sgM sgE sgD sgF sgN; (try k_sweep)) | (k_here; (with_reducible show wpAny _ _ (eval (Expr.Name _ _) (compEnvC _ _ _ _)) _ _ _); (with_reducible rename Fr _ _ _ _ => kF); k_dflt (refine' cname kF ?k2 ?_ ?k3 ?k4; (case k3 => exact rfl); (case k4 => exact rfl); (case k2 => ((repeat' (first | (with_reducible assumption) | exact if_pos rfl | refine Eq.trans (if_neg (by decide)) ?_ | (refine Eq.trans (stG_at (by with_reducible assumption) (by decide)) ?_) | exact rfl)); done)); k_whole)) | (k_here; (with_reducible show wpAny _ _ (eval (Expr.Name _ _) (envOf _ _ _ _ _)) _ _ _); (with_reducible rename Fr _ _ _ _ => kF); k_dflt (refine' ld kF ?k2 ?_; (case k2 => ((repeat' (first | (with_reducible assumption) | exact if_pos rfl | refine Eq.trans (if_neg (by decide)) ?_ | (refine Eq.trans (stG_at (by with_reducible assumption) (by decide)) ?_) | exact rfl)); done)); k_whole)) | walk1)) | fail "no step"))
    refine floordiv_int (by simp; omega) ?_ (Or.inl (PyProof.noPylong_small (by show ((5 : Int) ^ i).natAbs < 1073741824; omega)))
    have endp : ∀ h' m' all tk' u, Fr s.heap C h' m' → News s.heap C h' all → (∀ p ∈ rest, p ∈ all) → ∀ {z : Str}, piece (digit x i) = z →
        EEnd { s with heap := h₁, toks := tk₁ } g h C (fun g => ∃ t0 t1 t2, ys ++ [Value.str z u] = [Value.str (piece (digit x 0)) t0, Value.str (piece (digit x 1)) t1, Value.str (piece (digit x 2)) t2].take (i + 1)) { s with heap := h', toks := tk' } := by
      intro h' m' all tk' u F' N' sub z hz
      have hk3 := hkk _ _ _ F' N' sub
      refine ⟨h', tk', g, m', rfl, F'.ns, hk3, Le.refl _, fun b o e => hk3 b o (fun q => by rw [q, ea.outC] at e; cases e) (ea.le b o e), fun b o e => .inl e, ?_⟩
      obtain ⟨t0, t1, t2, hy⟩ := hJ
      have : i = 0 ∨ i = 1 ∨ i = 2 := by omega
      rcases this with rfl | rfl | rfl
      · exact ⟨u, t1, t2, by rw [hy, ← hz]; rfl⟩
      · exact ⟨t0, u, t2, by rw [hy, ← hz]; rfl⟩
      · exact ⟨t0, t1, u, by rw [hy, ← hz]; rfl⟩
    (repeat' (first | (k_unfold; (try dsimp only)) | ((((fail_if_success (with_reducible show wpAny _ _ (exec (Stmt.While _ _ _ _) _) _ _ _)); (fail_if_success (with_reducible show wpAny _ _ (exec (Stmt.For _ _ _ _ _) _) _ _ _)); (fail_if_success (with_reducible show wpAny _ _ (call (Value.ref _) _ _) _ _ _)); (fail_if_success (with_reducible show wpAny _ _ (eval (Expr.ListComp _ _ _ _) _) _ _ _)); (fail_if_success (with_reducible show wpAny _ _ (binaryOp Operator.Add (Value.str _ _) (Value.str (Txt.join _ _) _)) _ _ _)))); (first | ((with_reducible show wpAny _ _ (storeName (envOf _ _ _ _ _) _ _) _ _ _); k_here; (with_reducible show wpAny _ _ (storeName (envOf _ _ _ _ _) _ _) _ _ _); k_dflt (refine' stG ?k1 ?k2 ?k3 ?k4 ?_; (case k1 => k_asm); (case k2 => k_asm); (case k3 => exact rfl); (case k4 => exact rfl); k_whole); intro sgH sgT sgM sgE sgD sgF sgN; (try k_sweep)) | (k_here; (with_reducible show wpAny _ _ (eval (Expr.Name _ _) (compEnvC _ _ _ _)) _ _ _); (with_reducible rename Fr _ _ _ _ => kF); k_dflt (refine' cname kF ?k2 ?_ ?k3 ?k4; (case k3 => exact rfl); (case k4 => exact rfl); (case k2 => ((repeat' (first | (with_reducible assumption) | exact if_pos rfl | refine Eq.trans (if_neg (by decide)) ?_ | (refine Eq.trans (stG_at (by with_reducible assumption) (by decide)) ?_) | exact rfl)); done)); k_whole)) | (k_here; (with_reducible show wpAny _ _ (eval (Expr.Name _ _) (envOf _ _ _ _ _)) _ _ _); (with_reducible rename Fr _ _ _ _ => kF); k_dflt (refine' ld kF ?k2 ?_; (case k2 => ((repeat' (first | (with_reducible assumption) | exact if_pos rfl | refine Eq.trans (if_neg (by decide)) ?_ | (refine Eq.trans (stG_at (by with_reducible assumption) (by decide)) ?_) | exact rfl)); done)); k_whole)) | walk1)) | ((((fail_if_success (with_reducible show wpAny _ _ (exec (Stmt.While _ _ _ _) _) _ _ _)); (fail_if_success (with_reducible show wpAny _ _ (exec (Stmt.For _ _ _ _ _) _) _ _ _)); (fail_if_success (with_reducible show wpAny _ _ (call (Value.ref _) _ _) _ _ _)); (fail_if_success (with_reducible show wpAny _ _ (eval (Expr.ListComp _ _ _ _) _) _ _ _)); (fail_if_success (with_reducible show wpAny _ _ (binaryOp Operator.Add (Value.str _ _) (Value.str (Txt.join _ _) _)) _ _ _)))); dsimp only; (((fail_if_success (with_reducible show wpAny _ _ (exec (Stmt.While _ _ _ _) _) _ _ _)); (fail_if_success (with_reducible show wpAny _ _ (exec (Stmt.For _ _ _ _ _) _) _ _ _)); (fail_if_success (with_reducible show wpAny _ _ (call (Value.ref _) _ _) _ _ _)); (fail_if_success (with_reducible show wpAny _ _ (eval (Expr.ListComp _ _ _ _) _) _ _ _)); (fail_if_success (with_reducible show wpAny _ _ (binaryOp Operator.Add (Value.str _ _) (Value.str (Txt.join _ _) _)) _ _ _)))); (first | ((with_reducible show wpAny _ _ (storeName (envOf _ _ _ _ _) _ _) _ _ _); k_here; (with_reducible show wpAny _ _ (storeName (envOf _ _ _ _ _) _ _) _ _ _); k_dflt (refine' stG ?k1 ?k2 ?k3 ?k4 ?_; (case k1 => k_asm); (case k2 => k_asm); (case k3 => exact rfl); (case k4 => exact rfl); k_whole); intro sgH sgT sgM sgE sgD sgF sgN; (try k_sweep)) | (k_here; (with_reducible show wpAny _ _ (eval (Expr.Name _ _) (compEnvC _ _ _ _)) _ _ _); (with_reducible rename Fr _ _ _ _ => kF); k_dflt (refine' cname kF ?k2 ?_ ?k3 ?k4; (case k3 => exact rfl); (case k4 => exact rfl); (case k2 => ((repeat' (first | (with_reducible assumption) | exact if_pos rfl | refine Eq.trans (if_neg (by decide)) ?_ | (refine Eq.trans (stG_at (by with_reducible assumption) (by decide)) ?_) | exact rfl)); done)); k_whole)) | (k_here; (with_reducible show wpAny _ _ (eval (Expr.Name _ _) (envOf _ _ _ _ _)) _ _ _); (with_reducible rename Fr _ _ _ _ => kF); k_dflt (refine' ld kF ?k2 ?_; (case k2 => ((repeat' (first | (with_reducible assumption) | exact if_pos rfl | refine Eq.trans (if_neg (by decide)) ?_ | (refine Eq.trans (stG_at (by with_reducible assumption) (by decide)) ?_) | exact rfl)); done)); k_whole)) | walk1)) | fail "no step"))
    have hcase : (x.fdiv (5 ^ (i : Int).toNat)).fmod 5 = 0 ∨ (x.fdiv (5 ^ (i : Int).toNat)).fmod 5 = 1 ∨ (x.fdiv (5 ^ (i : Int).toNat)).fmod 5 = 2 ∨ (x.fdiv (5 ^ (i : Int).toNat)).fmod 5 = 3 ∨ (x.fdiv (5 ^ (i : Int).toNat)).fmod 5 = 4 := by rw [← hd]; omega
    rcases hcase with hf | hf | hf | hf | hf
    · rename News _ _ _ _ => N5
      rename Fr _ _ _ _ => F5
      have hp : piece (digit x i) = Str.ofString "a" := by rw [hd, hf]; decide +kernel
      refine item_Li (k := 0) N5 (by k_mem) (by simp) hf rfl ?_
      exact endp _ _ _ _ _ F5 N5 (fun p hp => .tail _ (.tail _ hp)) hp
    · rename News _ _ _ _ => N5
      rename Fr _ _ _ _ => F5
      have hp : piece (digit x i) = Str.ofString "b" := by rw [hd, hf]; decide +kernel
      refine item_Li (k := 1) N5 (by k_mem) (by simp) hf rfl ?_
      exact endp _ _ _ _ _ F5 N5 (fun p hp => .tail _ (.tail _ hp)) hp
    · rename News _ _ _ _ => N5
      rename Fr _ _ _ _ => F5
      have hp : piece (digit x i) = Str.ofString ".." := by rw [hd, hf]; decide +kernel
      refine item_Li (k := 2) N5 (by k_mem) (by simp) hf rfl ?_
      exact endp _ _ _ _ _ F5 N5 (fun p hp => .tail _ (.tail _ hp)) hp
    · rename News _ _ _ _ => N5
      rename Fr _ _ _ _ => F5
      have hp : piece (digit x i) = Str.ofString "." := by rw [hd, hf]; decide +kernel
      refine item_Li (k := 3) N5 (by k_mem) (by simp) hf rfl ?_
      exact endp _ _ _ _ _ F5 N5 (fun p hp => .tail _ (.tail _ hp)) hp
    · rename News _ _ _ _ => N5
      rename Fr _ _ _ _ => F5
      have hp : piece (digit x i) = Str.ofString "b//" := by rw [hd, hf]; decide +kernel
      refine item_Li (k := 4) N5 (by k_mem) (by simp) hf rfl ?_
      exact endp _ _ _ _ _ F5 N5 (fun p hp => .tail _ (.tail _ hp)) hp
  · obtain ⟨t0, t1, t2, rfl⟩ := hJ
    have F6 : Fr s.heap L h _ := F.kept b6
    have N6 : News s.heap L h [(D, listOf #[Value.str (piece (digit x 0)) t0, Value.str (piece (digit x 1)) t1, Value.str (piece (digit x 2)) t2] 3)] := fun p hp => by
      rw [List.mem_singleton.mp hp]
      refine ⟨b5, fun q => ?_, none_le F.keep b4⟩
      obtain ⟨oL, _, _, eL, _⟩ := F.ns
      have q' : D = L := q
      rw [q'] at b4
      have b4' : h₁.get? L = none := b4
      rw [eL] at b4'; cases b4'
    clear F N
    (repeat' (first | (k_unfold; (try dsimp only)) | ((((fail_if_success (with_reducible show wpAny _ _ (exec (Stmt.While _ _ _ _) _) _ _ _)); (fail_if_success (with_reducible show wpAny _ _ (exec (Stmt.For _ _ _ _ _) _) _ _ _)); (fail_if_success (with_reducible show wpAny _ _ (call (Value.ref _) _ _) _ _ _)); (fail_if_success (with_reducible show wpAny _ _ (eval (Expr.ListComp _ _ _ _) _) _ _ _)); (fail_if_success (with_reducible show wpAny _ _ (binaryOp Operator.Add (Value.str _ _) (Value.str (Txt.join _ _) _)) _ _ _)))); (first | ((with_reducible show wpAny _ _ (storeName (envOf _ _ _ _ _) _ _) _ _ _); k_here; (with_reducible show wpAny _ _ (storeName (envOf _ _ _ _ _) _ _) _ _ _); k_dflt (refine' stG ?k1 ?k2 ?k3 ?k4 ?_; (case k1 => k_asm); (case k2 => k_asm); (case k3 => exact rfl); (case k4 => exact rfl); k_whole); intro sgH sgT sgM sgE sgD sgF sgN; (try k_sweep)) | (k_here; (with_reducible show wpAny _ _ (eval (Expr.Name _ _) (compEnvC _ _ _ _)) _ _ _); (with_reducible rename Fr _ _ _ _ => kF); k_dflt (refine' cname kF ?k2 ?_ ?k3 ?k4; (case k3 => exact rfl); (case k4 => exact rfl); (case k2 => ((repeat' (first | (with_reducible assumption) | exact if_pos rfl | refine Eq.trans (if_neg (by decide)) ?_ | (refine Eq.trans (stG_at (by with_reducible assumption) (by decide)) ?_) | exact rfl)); done)); k_whole)) | (k_here; (with_reducible show wpAny _ _ (eval (Expr.Name _ _) (envOf _ _ _ _ _)) _ _ _); (with_reducible rename Fr _ _ _ _ => kF); k_dflt (refine' ld kF ?k2 ?_; (case k2 => ((repeat' (first | (with_reducible assumption) | exact if_pos rfl | refine Eq.trans (if_neg (by decide)) ?_ | (refine Eq.trans (stG_at (by with_reducible assumption) (by decide)) ?_) | exact rfl)); done)); k_whole)) | walk1)) | ((((fail_if_success (with_reducible show wpAny _ _ (exec (Stmt.While _ _ _ _) _) _ _ _)); (fail_if_success (with_reducible show wpAny _ _ (exec (Stmt.For _ _ _ _ _) _) _ _ _)); (fail_if_success (with_reducible show wpAny _ _ (call (Value.ref _) _ _) _ _ _)); (fail_if_success (with_reducible show wpAny _ _ (eval (Expr.ListComp _ _ _ _) _) _ _ _)); (fail_if_success (with_reducible show wpAny _ _ (binaryOp Operator.Add (Value.str _ _) (Value.str (Txt.join _ _) _)) _ _ _)))); dsimp only; (((fail_if_success (with_reducible show wpAny _ _ (exec (Stmt.While _ _ _ _) _) _ _ _)); (fail_if_success (with_reducible show wpAny _ _ (exec (Stmt.For _ _ _ _ _) _) _ _ _)); (fail_if_success (with_reducible show wpAny _ _ (call (Value.ref _) _ _) _ _ _)); (fail_if_success (with_reducible show wpAny _ _ (eval (Expr.ListComp _ _ _ _) _) _ _ _)); (fail_if_success (with_reducible show wpAny _ _ (binaryOp Operator.Add (Value.str _ _) (Value.str (Txt.join _ _) _)) _ _ _)))); (first | ((with_reducible show wpAny _ _ (storeName (envOf _ _ _ _ _) _ _) _ _ _); k_here; (with_reducible show wpAny _ _ (storeName (envOf _ _ _ _ _) _ _) _ _ _); k_dflt (refine' stG ?k1 ?k2 ?k3 ?k4 ?_; (case k1 => k_asm); (case k2 => k_asm); (case k3 => exact rfl); (case k4 => exact rfl); k_whole); intro sgH sgT sgM sgE sgD sgF sgN; (try k_sweep)) | (k_here; (with_reducible show wpAny _ _ (eval (Expr.Name _ _) (compEnvC _ _ _ _)) _ _ _); (with_reducible rename Fr _ _ _ _ => kF); k_dflt (refine' cname kF ?k2 ?_ ?k3 ?k4; (case k3 => exact rfl); (case k4 => exact rfl); (case k2 => ((repeat' (first | (with_reducible assumption) | exact if_pos rfl | refine Eq.trans (if_neg (by decide)) ?_ | (refine Eq.trans (stG_at (by with_reducible assumption) (by decide)) ?_) | exact rfl)); done)); k_whole)) | (k_here; (with_reducible show wpAny _ _ (eval (Expr.Name _ _) (envOf _ _ _ _ _)) _ _ _); (with_reducible rename Fr _ _ _ _ => kF); k_dflt (refine' ld kF ?k2 ?_; (case k2 => ((repeat' (first | (with_reducible assumption) | exact if_pos rfl | refine Eq.trans (if_neg (by decide)) ?_ | (refine Eq.trans (stG_at (by with_reducible assumption) (by decide)) ?_) | exact rfl)); done)); k_whole)) | walk1)) | fail "no step"))
    have l0 := piece_len (digit x 0)
    have l1 := piece_len (digit x 1)
    have l2 := piece_len (digit x 2)
    refine join_listW (ys := [piece (digit x 0), piece (digit x 1), piece (digit x 2)]) (PySem.IsL.isList (n := 3) (N6 _ (.head _)).1) (.cons _ _ (.cons _ _ (.cons _ _ .nil))) (by decide +kernel) (by simp; omega) ?_
    (repeat' (first | (k_unfold; (try dsimp only)) | ((((fail_if_success (with_reducible show wpAny _ _ (exec (Stmt.While _ _ _ _) _) _ _ _)); (fail_if_success (with_reducible show wpAny _ _ (exec (Stmt.For _ _ _ _ _) _) _ _ _)); (fail_if_success (with_reducible show wpAny _ _ (call (Value.ref _) _ _) _ _ _)); (fail_if_success (with_reducible show wpAny _ _ (eval (Expr.ListComp _ _ _ _) _) _ _ _)); (fail_if_success (with_reducible show wpAny _ _ (binaryOp Operator.Add (Value.str _ _) (Value.str (Txt.join _ _) _)) _ _ _)))); (first | ((with_reducible show wpAny _ _ (storeName (envOf _ _ _ _ _) _ _) _ _ _); k_here; (with_reducible show wpAny _ _ (storeName (envOf _ _ _ _ _) _ _) _ _ _); k_dflt (refine' stG ?k1 ?k2 ?k3 ?k4 ?_; (case k1 => k_asm); (case k2 => k_asm); (case k3 => exact rfl); (case k4 => exact rfl); k_whole); intro sgH sgT sgM sgE sgD sgF sgN; (try k_sweep)) | (k_here; (with_reducible show wpAny _ _ (eval (Expr.Name _ _) (compEnvC _ _ _ _)) _ _ _); (with_reducible rename Fr _ _ _ _ => kF); k_dflt (refine' cname kF ?k2 ?_ ?k3 ?k4; (case k3 => exact rfl); (case k4 => exact rfl); (case k2 => ((repeat' (first | (with_reducible assumption) | exact if_pos rfl | refine Eq.trans (if_neg (by decide)) ?_ | (refine Eq.trans (stG_at (by with_reducible assumption) (by decide)) ?_) | exact rfl)); done)); k_whole)) | (k_here; (with_reducible show wpAny _ _ (eval (Expr.Name _ _) (envOf _ _ _ _ _)) _ _ _); (with_reducible rename Fr _ _ _ _ => kF); k_dflt (refine' ld kF ?k2 ?_; (case k2 => ((repeat' (first | (with_reducible assumption) | exact if_pos rfl | refine Eq.trans (if_neg (by decide)) ?_ | (refine Eq.trans (stG_at (by with_reducible assumption) (by decide)) ?_) | exact rfl)); done)); k_whole)) | walk1)) | ((((fail_if_success (with_reducible show wpAny _ _ (exec (Stmt.While _ _ _ _) _) _ _ _)); (fail_if_success (with_reducible show wpAny _ _ (exec (Stmt.For _ _ _ _ _) _) _ _ _)); (fail_if_success (with_reducible show wpAny _ _ (call (Value.ref _) _ _) _ _ _)); (fail_if_success (with_reducible show wpAny _ _ (eval (Expr.ListComp _ _ _ _) _) _ _ _)); (fail_if_success (with_reducible show wpAny _ _ (binaryOp Operator.Add (Value.str _ _) (Value.str (Txt.join _ _) _)) _ _ _)))); dsimp only; (((fail_if_success (with_reducible show wpAny _ _ (exec (Stmt.While _ _ _ _) _) _ _ _)); (fail_if_success (with_reducible show wpAny _ _ (exec (Stmt.For _ _ _ _ _) _) _ _ _)); (fail_if_success (with_reducible show wpAny _ _ (call (Value.ref _) _ _) _ _ _)); (fail_if_success (with_reducible show wpAny _ _ (eval (Expr.ListComp _ _ _ _) _) _ _ _)); (fail_if_success (with_reducible show wpAny _ _ (binaryOp Operator.Add (Value.str _ _) (Value.str (Txt.join _ _) _)) _ _ _)))); (first | ((with_reducible show wpAny _ _ (storeName (envOf _ _ _ _ _) _ _) _ _ _); k_here; (with_reducible show wpAny _ _ (storeName (envOf _ _ _ _ _) _ _) _ _ _); k_dflt (refine' stG ?k1 ?k2 ?k3 ?k4 ?_; (case k1 => k_asm); (case k2 => k_asm); (case k3 => exact rfl); (case k4 => exact rfl); k_whole); intro sgH sgT sgM sgE sgD sgF sgN; (try k_sweep)) | (k_here; (with_reducible show wpAny _ _ (eval (Expr.Name _ _) (compEnvC _ _ _ _)) _ _ _); (with_reducible rename Fr _ _ _ _ => kF); k_dflt (refine' cname kF ?k2 ?_ ?k3 ?k4; (case k3 => exact rfl); (case k4 => exact rfl); (case k2 => ((repeat' (first | (with_reducible assumption) | exact if_pos rfl | refine Eq.trans (if_neg (by decide)) ?_ | (refine Eq.trans (stG_at (by with_reducible assumption) (by decide)) ?_) | exact rfl)); done)); k_whole)) | (k_here; (with_reducible show wpAny _ _ (eval (Expr.Name _ _) (envOf _ _ _ _ _)) _ _ _); (with_reducible rename Fr _ _ _ _ => kF); k_dflt (refine' ld kF ?k2 ?_; (case k2 => ((repeat' (first | (with_reducible assumption) | exact if_pos rfl | refine Eq.trans (if_neg (by decide)) ?_ | (refine Eq.trans (stG_at (by with_reducible assumption) (by decide)) ?_) | exact rfl)); done)); k_whole)) | walk1)) | fail "no step"))
    have hj := pathJ_len (digit x 0) (digit x 1) (digit x 2)
    have e1 : (Str.ofString "/").length = 1 := by decide +kernel
    refine SB.add (fun t' k => ?_) (by rw [e1, sizeLine_eq]; omega)
    (repeat' (first | (k_unfold; (try dsimp only)) | ((((fail_if_success (with_reducible show wpAny _ _ (exec (Stmt.While _ _ _ _) _) _ _ _)); (fail_if_success (with_reducible show wpAny _ _ (exec (Stmt.For _ _ _ _ _) _) _ _ _)); (fail_if_success (with_reducible show wpAny _ _ (call (Value.ref _) _ _) _ _ _)); (fail_if_success (with_reducible show wpAny _ _ (eval (Expr.ListComp _ _ _ _) _) _ _ _)); (fail_if_success (with_reducible show wpAny _ _ (binaryOp Operator.Add (Value.str _ _) (Value.str (Txt.join _ _) _)) _ _ _)))); (first | ((with_reducible show wpAny _ _ (storeName (envOf _ _ _ _ _) _ _) _ _ _); k_here; (with_reducible show wpAny _ _ (storeName (envOf _ _ _ _ _) _ _) _ _ _); k_dflt (refine' stG ?k1 ?k2 ?k3 ?k4 ?_; (case k1 => k_asm); (case k2 => k_asm); (case k3 => exact rfl); (case k4 => exact rfl); k_whole); intro sgH sgT sgM sgE sgD sgF sgN; (try k_sweep)) | (k_here; (with_reducible show wpAny _ _ (eval (Expr.Name _ _) (compEnvC _ _ _ _)) _ _ _); (with_reducible rename Fr _ _ _ _ => kF); k_dflt (refine' cname kF ?k2 ?_ ?k3 ?k4; (case k3 => exact rfl); (case k4 => exact rfl); (case k2 => ((repeat' (first | (with_reducible assumption) | exact if_pos rfl | refine Eq.trans (if_neg (by decide)) ?_ | (refine Eq.trans (stG_at (by with_reducible assumption) (by decide)) ?_) | exact rfl)); done)); k_whole)) | (k_here; (with_reducible show wpAny _ _ (eval (Expr.Name _ _) (envOf _ _ _ _ _)) _ _ _); (with_reducible rename Fr _ _ _ _ => kF); k_dflt (refine' ld kF ?k2 ?_; (case k2 => ((repeat' (first | (with_reducible assumption) | exact if_pos rfl | refine Eq.trans (if_neg (by decide)) ?_ | (refine Eq.trans (stG_at (by with_reducible assumption) (by decide)) ?_) | exact rfl)); done)); k_whole)) | walk1)) | ((((fail_if_success (with_reducible show wpAny _ _ (exec (Stmt.While _ _ _ _) _) _ _ _)); (fail_if_success (with_reducible show wpAny _ _ (exec (Stmt.For _ _ _ _ _) _) _ _ _)); (fail_if_success (with_reducible show wpAny _ _ (call (Value.ref _) _ _) _ _ _)); (fail_if_success (with_reducible show wpAny _ _ (eval (Expr.ListComp _ _ _ _) _) _ _ _)); (fail_if_success (with_reducible show wpAny _ _ (binaryOp Operator.Add (Value.str _ _) (Value.str (Txt.join _ _) _)) _ _ _)))); dsimp only; (((fail_if_success (with_reducible show wpAny _ _ (exec (Stmt.While _ _ _ _) _) _ _ _)); (fail_if_success (with_reducible show wpAny _ _ (exec (Stmt.For _ _ _ _ _) _) _ _ _)); (fail_if_success (with_reducible show wpAny _ _ (call (Value.ref _) _ _) _ _ _)); (fail_if_success (with_reducible show wpAny _ _ (eval (Expr.ListComp _ _ _ _) _) _ _ _)); (fail_if_success (with_reducible show wpAny _ _ (binaryOp Operator.Add (Value.str _ _) (Value.str (Txt.join _ _) _)) _ _ _)))); (first | ((with_reducible show wpAny _ _ (storeName (envOf _ _ _ _ _) _ _) _ _ _); k_here; (with_reducible show wpAny _ _ (storeName (envOf _ _ _ _ _) _ _) _ _ _); k_dflt (refine' stG ?k1 ?k2 ?k3 ?k4 ?_; (case k1 => k_asm); (case k2 => k_asm); (case k3 => exact rfl); (case k4 => exact rfl); k_whole); intro sgH sgT sgM sgE sgD sgF sgN; (try k_sweep)) | (k_here; (with_reducible show wpAny _ _ (eval (Expr.Name _ _) (compEnvC _ _ _ _)) _ _ _); (with_reducible rename Fr _ _ _ _ => kF); k_dflt (refine' cname kF ?k2 ?_ ?k3 ?k4; (case k3 => exact rfl); (case k4 => exact rfl); (case k2 => ((repeat' (first | (with_reducible assumption) | exact if_pos rfl | refine Eq.trans (if_neg (by decide)) ?_ | (refine Eq.trans (stG_at (by with_reducible assumption) (by decide)) ?_) | exact rfl)); done)); k_whole)) | (k_here; (with_reducible show wpAny _ _ (eval (Expr.Name _ _) (envOf _ _ _ _ _)) _ _ _); (with_reducible rename Fr _ _ _ _ => kF); k_dflt (refine' ld kF ?k2 ?_; (case k2 => ((repeat' (first | (with_reducible assumption) | exact if_pos rfl | refine Eq.trans (if_neg (by decide)) ?_ | (refine Eq.trans (stG_at (by with_reducible assumption) (by decide)) ?_) | exact rfl)); done)); k_whole)) | walk1)) | fail "no step"))
    exact hQ _ _ _ F6.keep
end

section
open PySem PySem.W PyProof.Rows PySem.Calls
open PySem.AutoSeq1 (wpAny_loadPart')
theorem kind_isn : builtinKind "issubclass.nested" = none := by decide +kernel
theorem plain_isn : plainId "issubclass.nested" = true := by decide +kernel
theorem self_str : isSubtype (.type "str") (.type "str") = pure true := isSubtype_of_subB (by decide +kernel)

theorem nested_self {prog : Program} {w : World} {A : Around} {E : Value → Shared → Prop} {s : Shared} {k : Value} {dep : Int} {tk : Tok} {Q : PySem.Fin → Shared → Prop} (hk : k = .int dep tk) (hq : Q (.done (.ret (.bool true))) s) :
    wpAny (model prog w) A (Builtin.«issubclass.nested» ⟨[.type "str", .type "str", k], []⟩) Q E s := by
  subst hk
  have hm : ((Value.type ((Manifest.find? "str").elim "type" fun x => x.metatype)) == Value.type "type") = true := by decide +kernel
  have hself := self_str
  repeat (any_goals (first | assumption | (rw [if_pos hm]) | (rw [hself]) | wp_step))

theorem args_isn (a b c : Value) : argsOk "issubclass.nested" ⟨[a, b, c], []⟩ := by unfold argsOk; kernel_rfl
theorem code_entry {prog : Program} {w : World} {A : Around} {s : Shared} {id : String} {b : Builtin} {args : List Value} {R : Result → Shared → Prop} (hk : builtinKind id = none) (hp : plainId id = true)
    (hb : entryFor table id = some b) (ha : argsOk id ⟨args, []⟩)
    (hc : wpAny (model prog w) A.in1 (b ⟨args, []⟩) (fun fin s' => ∃ v, fin = .done (.ret v) ∧ R (.ok (.ret v)) s') (fun e s' => R (.error e) s') s) : codeAny (model prog w) A (.call (.builtin id) ⟨args, []⟩) R s := by
  refine codeAny_call_builtin hp hb ?_
  have hfin := wpAny_mono hc (Q' := fun fin s' => match fin with
      | .done f => R (.ok f) s'
      | .again c' => c'.quiet = true ∧ codeAny (model prog w) A c' R s')
    (fun fin s' h' => by obtain ⟨v, rfl, hv⟩ := h'; exact hv) fun _ _ h' => h'
  simp only [checkBuiltinCall, hk]
  cases hsig : Manifest.signature? id with
  | none => exact wpAny_pure hfin
  | some sig =>
    simp only [argsOk, hsig] at ha
    have h2 : Bind.checkArgs id sig ⟨args, []⟩ = pure () := ha
    show wpAny _ A.in1 (Bind.checkArgs id sig ⟨args, []⟩) _ _ s
    rw [h2]; exact wpAny_pure hfin

theorem nested_tup {prog : Program} {w : World} {A : Around} {E : Value → Shared → Prop} {s : Shared} {t : Addr} {n : Nat} {Q : PySem.Fin → Shared → Prop} (ht : s.heap.get? t = some { cls := .type "tuple", data := .seq #[.type "str", .type "bytes"] n }) (hq : Q (.done (.ret (.bool true))) s) :
    wpAny (model prog w) A (Builtin.«issubclass.nested» ⟨[.type "str", .ref t, rawInt 0], []⟩) Q E s := by
  obtain ⟨hp, g, d, tk, os⟩ := s
  unfold Builtin.«issubclass.nested»
  wp_walk using wpAny_loadPart' ht
  refine wpAny_of_eq (isSubtype_of_subB (by decide +kernel) : isSubtype (.type "tuple") (.type "tuple") = pure true) ?_
  rw [if_pos rfl]
  dsimp only
  rw [if_neg (by decide)]
  refine wpAny_bind (m := seqItems? (.ref t)) ?_
  wp_walk using wpAny_loadPart' ht
  refine code_entry kind_isn plain_isn F.entry_issubclass_nested (args_isn _ _ _) ?_
  refine nested_self (dep := 1) (tk := 0) rfl ⟨_, rfl, ?_⟩
  dsimp only
  refine wpAny_bind (wpAny_truthy_bool ?_)
  rw [if_pos rfl]
  exact wpAny_bind (wpAny_pure (wpAny_pure (wpAny_pure (wpAny_pure hq))))

theorem issub_str {prog : Program} {w : World} {A : Around} {E : Value → Shared → Prop} {s : Shared} {t : Addr} {n : Nat} {Q : Value → Shared → Prop} (ht : s.heap.get? t = some { cls := .type "tuple", data := .seq #[.type "str", .type "bytes"] n }) (hq : Q (.bool true) s) :
    wpAny (model prog w) A (call (.builtin "issubclass") [.type "str", .ref t]) Q E s :=
  call_issubclass (S := fun _ R s => s.heap.get? t = some { cls := .type "tuple", data := .seq #[.type "str", .type "bytes"] n } ∧ R (.ok (.ret (.bool true))) s) (fun _ _ _ _ _ hs => issubclass_outer (nested_tup hs.1 hs.2)) ⟨ht, hq⟩
end

section
open PySem PySem.W PyProof.Rows PySem.Calls PySem.SeqAt

theorem getsep_c {w : World} {A : Around} {E : Value → Shared → Prop} {s : Shared} {g : Heap} {Q : Value → Shared → Prop} {p : Str} {t : Tok} (a : Amb w g) (l : Le g s.heap) (r : Room 9 A)
   (hQ : ∀ h' tk u, Le s.heap h' → Q (.str (Str.ofString "/") u) { s with heap := h', toks := tk }) : wpAny (model Challenge.rw_ny0132_01.row.prog w) A (call (.ref 56) [.str p t]) Q E s := by
  obtain ⟨X, mean, mg, mb, T⟩ := a.le l
  revert X; k_fill; intro X
  refine weaken r ?_
  refine enter (binds := [(Str.ofString "path", .str p t)]) X T.nolimit (Le.refl _) (Nat.le_refl _) (by k_is) (by k_is) (by show 349 < recursionLimit; decide) (BindsTo.of_eq rfl) (locs rfl) (fun h₁ F L₁ => ?_) (by decide) rfl rfl rfl
  have N : News s.heap s.heap.objs.size h₁ [] := News.nil
  show wpAny _ _ _ _ _ _
  k_fold
  (repeat' (first | (k_unfold; (try dsimp only)) | ((((fail_if_success (with_reducible show wpAny _ _ (exec (Stmt.While _ _ _ _) _) _ _ _)); (fail_if_success (with_reducible show wpAny _ _ (exec (Stmt.For _ _ _ _ _) _) _ _ _)); (fail_if_success (with_reducible show wpAny _ _ (call (Value.ref _) _ _) _ _ _)); (fail_if_success (with_reducible show wpAny _ _ (eval (Expr.ListComp _ _ _ _) _) _ _ _)))); (first | ((with_reducible show wpAny _ _ (storeName (envOf _ _ _ _ _) _ _) _ _ _); k_here; (with_reducible show wpAny _ _ (storeName (envOf _ _ _ _ _) _ _) _ _ _); k_dflt (refine' stG ?k1 ?k2 ?k3 ?k4 ?_; (case k1 => k_asm); (case k2 => k_asm); (case k3 => exact rfl); (case k4 => exact rfl); k_whole); intro sgH sgT sgM sgE sgD sgF sgN; (try k_sweep)) | (k_here; (with_reducible show wpAny _ _ (eval (Expr.Name _ _) (compEnvC _ _ _ _)) _ _ _); (with_reducible rename Fr _ _ _ _ => kF); k_dflt (refine' cname kF ?k2 ?_ ?k3 ?k4; (case k3 => exact rfl); (case k4 => exact rfl); (case k2 => ((repeat' (first | (with_reducible assumption) | exact if_pos rfl | refine Eq.trans (if_neg (by decide)) ?_ | (refine Eq.trans (stG_at (by with_reducible assumption) (by decide)) ?_) | exact rfl)); done)); k_whole)) | (k_here; (with_reducible show wpAny _ _ (eval (Expr.Name _ _) (envOf _ _ _ _ _)) _ _ _); (with_reducible rename Fr _ _ _ _ => kF); k_dflt (refine' ld kF ?k2 ?_; (case k2 => ((repeat' (first | (with_reducible assumption) | exact if_pos rfl | refine Eq.trans (if_neg (by decide)) ?_ | (refine Eq.trans (stG_at (by with_reducible assumption) (by decide)) ?_) | exact rfl)); done)); k_whole)) | ((with_reducible show wpAny _ _ (call (Value.builtin "issubclass") _ _) _ _ _); k_here; (with_reducible rename News _ _ _ _ => kN); k_dflt (refine issub_str (n := 0) (kN _ (.head _)).1 ?_)) | walk1)) | ((((fail_if_success (with_reducible show wpAny _ _ (exec (Stmt.While _ _ _ _) _) _ _ _)); (fail_if_success (with_reducible show wpAny _ _ (exec (Stmt.For _ _ _ _ _) _) _ _ _)); (fail_if_success (with_reducible show wpAny _ _ (call (Value.ref _) _ _) _ _ _)); (fail_if_success (with_reducible show wpAny _ _ (eval (Expr.ListComp _ _ _ _) _) _ _ _)))); dsimp only; (((fail_if_success (with_reducible show wpAny _ _ (exec (Stmt.While _ _ _ _) _) _ _ _)); (fail_if_success (with_reducible show wpAny _ _ (exec (Stmt.For _ _ _ _ _) _) _ _ _)); (fail_if_success (with_reducible show wpAny _ _ (call (Value.ref _) _ _) _ _ _)); (fail_if_success (with_reducible show wpAny _ _ (eval (Expr.ListComp _ _ _ _) _) _ _ _)))); (first | ((with_reducible show wpAny _ _ (storeName (envOf _ _ _ _ _) _ _) _ _ _); k_here; (with_reducible show wpAny _ _ (storeName (envOf _ _ _ _ _) _ _) _ _ _); k_dflt (refine' stG ?k1 ?k2 ?k3 ?k4 ?_; (case k1 => k_asm); (case k2 => k_asm); (case k3 => exact rfl); (case k4 => exact rfl); k_whole); intro sgH sgT sgM sgE sgD sgF sgN; (try k_sweep)) | (k_here; (with_reducible show wpAny _ _ (eval (Expr.Name _ _) (compEnvC _ _ _ _)) _ _ _); (with_reducible rename Fr _ _ _ _ => kF); k_dflt (refine' cname kF ?k2 ?_ ?k3 ?k4; (case k3 => exact rfl); (case k4 => exact rfl); (case k2 => ((repeat' (first | (with_reducible assumption) | exact if_pos rfl | refine Eq.trans (if_neg (by decide)) ?_ | (refine Eq.trans (stG_at (by with_reducible assumption) (by decide)) ?_) | exact rfl)); done)); k_whole)) | (k_here; (with_reducible show wpAny _ _ (eval (Expr.Name _ _) (envOf _ _ _ _ _)) _ _ _); (with_reducible rename Fr _ _ _ _ => kF); k_dflt (refine' ld kF ?k2 ?_; (case k2 => ((repeat' (first | (with_reducible assumption) | exact if_pos rfl | refine Eq.trans (if_neg (by decide)) ?_ | (refine Eq.trans (stG_at (by with_reducible assumption) (by decide)) ?_) | exact rfl)); done)); k_whole)) | ((with_reducible show wpAny _ _ (call (Value.builtin "issubclass") _ _) _ _ _); k_here; (with_reducible rename News _ _ _ _ => kN); k_dflt (refine issub_str (n := 0) (kN _ (.head _)).1 ?_)) | walk1)) | fail "no step"))
  exact hQ _ _ _ L₁
theorem fspath_c {w : World} {A : Around} {E : Value → Shared → Prop} {s : Shared} {g : Heap} {Q : Value → Shared → Prop} {p : Str} {t : Tok} (a : Amb w g) (l : Le g s.heap) (r : Room 9 A)
   (hQ : ∀ h' tk, Le s.heap h' → Q (.str p t) { s with heap := h', toks := tk }) : wpAny (model Challenge.rw_ny0132_01.row.prog w) A (call (.ref 129) [.str p t]) Q E s := by
  obtain ⟨X, mean, mg, mb, T⟩ := a.le l
  revert X; k_fill; intro X
  refine weaken r ?_
  refine enter (binds := [(Str.ofString "path", .str p t)]) X T.nolimit (Le.refl _) (Nat.le_refl _) (by k_is) (by k_is) (by show 349 < recursionLimit; decide) (BindsTo.of_eq rfl) (locs rfl) (fun h₁ F L₁ => ?_) (by decide) rfl rfl rfl
  have N : News s.heap s.heap.objs.size h₁ [] := News.nil
  show wpAny _ _ _ _ _ _
  k_fold
  (repeat' (first | (k_unfold; (try dsimp only)) | ((((fail_if_success (with_reducible show wpAny _ _ (exec (Stmt.While _ _ _ _) _) _ _ _)); (fail_if_success (with_reducible show wpAny _ _ (exec (Stmt.For _ _ _ _ _) _) _ _ _)); (fail_if_success (with_reducible show wpAny _ _ (call (Value.ref _) _ _) _ _ _)); (fail_if_success (with_reducible show wpAny _ _ (eval (Expr.ListComp _ _ _ _) _) _ _ _)))); (first | ((with_reducible show wpAny _ _ (storeName (envOf _ _ _ _ _) _ _) _ _ _); k_here; (with_reducible show wpAny _ _ (storeName (envOf _ _ _ _ _) _ _) _ _ _); k_dflt (refine' stG ?k1 ?k2 ?k3 ?k4 ?_; (case k1 => k_asm); (case k2 => k_asm); (case k3 => exact rfl); (case k4 => exact rfl); k_whole); intro sgH sgT sgM sgE sgD sgF sgN; (try k_sweep)) | (k_here; (with_reducible show wpAny _ _ (eval (Expr.Name _ _) (compEnvC _ _ _ _)) _ _ _); (with_reducible rename Fr _ _ _ _ => kF); k_dflt (refine' cname kF ?k2 ?_ ?k3 ?k4; (case k3 => exact rfl); (case k4 => exact rfl); (case k2 => ((repeat' (first | (with_reducible assumption) | exact if_pos rfl | refine Eq.trans (if_neg (by decide)) ?_ | (refine Eq.trans (stG_at (by with_reducible assumption) (by decide)) ?_) | exact rfl)); done)); k_whole)) | (k_here; (with_reducible show wpAny _ _ (eval (Expr.Name _ _) (envOf _ _ _ _ _)) _ _ _); (with_reducible rename Fr _ _ _ _ => kF); k_dflt (refine' ld kF ?k2 ?_; (case k2 => ((repeat' (first | (with_reducible assumption) | exact if_pos rfl | refine Eq.trans (if_neg (by decide)) ?_ | (refine Eq.trans (stG_at (by with_reducible assumption) (by decide)) ?_) | exact rfl)); done)); k_whole)) | ((with_reducible show wpAny _ _ (call (Value.builtin "issubclass") _ _) _ _ _); k_here; (with_reducible rename News _ _ _ _ => kN); k_dflt (refine issub_str (n := 0) (kN _ (.head _)).1 ?_)) | walk1)) | ((((fail_if_success (with_reducible show wpAny _ _ (exec (Stmt.While _ _ _ _) _) _ _ _)); (fail_if_success (with_reducible show wpAny _ _ (exec (Stmt.For _ _ _ _ _) _) _ _ _)); (fail_if_success (with_reducible show wpAny _ _ (call (Value.ref _) _ _) _ _ _)); (fail_if_success (with_reducible show wpAny _ _ (eval (Expr.ListComp _ _ _ _) _) _ _ _)))); dsimp only; (((fail_if_success (with_reducible show wpAny _ _ (exec (Stmt.While _ _ _ _) _) _ _ _)); (fail_if_success (with_reducible show wpAny _ _ (exec (Stmt.For _ _ _ _ _) _) _ _ _)); (fail_if_success (with_reducible show wpAny _ _ (call (Value.ref _) _ _) _ _ _)); (fail_if_success (with_reducible show wpAny _ _ (eval (Expr.ListComp _ _ _ _) _) _ _ _)))); (first | ((with_reducible show wpAny _ _ (storeName (envOf _ _ _ _ _) _ _) _ _ _); k_here; (with_reducible show wpAny _ _ (storeName (envOf _ _ _ _ _) _ _) _ _ _); k_dflt (refine' stG ?k1 ?k2 ?k3 ?k4 ?_; (case k1 => k_asm); (case k2 => k_asm); (case k3 => exact rfl); (case k4 => exact rfl); k_whole); intro sgH sgT sgM sgE sgD sgF sgN; (try k_sweep)) | (k_here; (with_reducible show wpAny _ _ (eval (Expr.Name _ _) (compEnvC _ _ _ _)) _ _ _); (with_reducible rename Fr _ _ _ _ => kF); k_dflt (refine' cname kF ?k2 ?_ ?k3 ?k4; (case k3 => exact rfl); (case k4 => exact rfl); (case k2 => ((repeat' (first | (with_reducible assumption) | exact if_pos rfl | refine Eq.trans (if_neg (by decide)) ?_ | (refine Eq.trans (stG_at (by with_reducible assumption) (by decide)) ?_) | exact rfl)); done)); k_whole)) | (k_here; (with_reducible show wpAny _ _ (eval (Expr.Name _ _) (envOf _ _ _ _ _)) _ _ _); (with_reducible rename Fr _ _ _ _ => kF); k_dflt (refine' ld kF ?k2 ?_; (case k2 => ((repeat' (first | (with_reducible assumption) | exact if_pos rfl | refine Eq.trans (if_neg (by decide)) ?_ | (refine Eq.trans (stG_at (by with_reducible assumption) (by decide)) ?_) | exact rfl)); done)); k_whole)) | ((with_reducible show wpAny _ _ (call (Value.builtin "issubclass") _ _) _ _ _); k_here; (with_reducible rename News _ _ _ _ => kN); k_dflt (refine issub_str (n := 0) (kN _ (.head _)).1 ?_)) | walk1)) | fail "no step"))
  rename Fr _ _ _ _ => F9
  exact hQ _ _ F9.keep
noncomputable def headS (p : Str) : Str := Txt.slice p none (some (Txt.rfind p (Str.ofString "/") + 1))
noncomputable def splitT (p : Str) : Str := Txt.slice p (some (Txt.rfind p (Str.ofString "/") + 1)) none
noncomputable def splitH (p : Str) : Str := if ((headS p).length : Int) ≠ 0 ∧ (headS p != Txt.mul (Str.ofString "/") ((headS p).length : Int)) = true then Txt.rstripChars (headS p) (Str.ofString "/") else headS p
noncomputable abbrev tup2 (a b : Value) : Obj := { cls := .type "tuple", data := .seq #[a, b] }

theorem split_c {w : World} {A : Around} {E : Value → Shared → Prop} {s : Shared} {g : Heap} {Q : Value → Shared → Prop} {p : Str} {t : Tok} (a : Amb w g) (l : Le g s.heap) (r : Room 8 A) (hp : p.length ≤ 100)
   (hQ : ∀ h' tk q u v, Le s.heap h' → s.heap.get? q = none → h'.get? q = some (tup2 (.str (splitH p) u) (.str (splitT p) v)) → Q (.ref q) { s with heap := h', toks := tk }) :
   wpAny (model Challenge.rw_ny0132_01.row.prog w) A (call (.ref 136) [.str p t]) Q E s := by
  have a' := a.le l
  obtain ⟨X, mean, mg, mb, T⟩ := a.le l
  revert X; k_fill; intro X
  refine weaken r ?_
  refine enter (binds := [(Str.ofString "p", .str p t)]) X T.nolimit (Le.refl _) (Nat.le_refl _) (by k_is) (by k_is) (by show 348 < recursionLimit; decide) (BindsTo.of_eq rfl) (locs rfl) (fun h₁ F L₁ => ?_) (by decide) rfl rfl rfl
  have N : News s.heap s.heap.objs.size h₁ [] := News.nil
  show wpAny _ _ _ _ _ _
  generalize hL : s.heap.objs.size = L at *
  k_fold
  (repeat' (first | (k_unfold; (try dsimp only)) | ((((fail_if_success (with_reducible show wpAny _ _ (exec (Stmt.While _ _ _ _) _) _ _ _)); (fail_if_success (with_reducible show wpAny _ _ (exec (Stmt.For _ _ _ _ _) _) _ _ _)); (fail_if_success (with_reducible show wpAny _ _ (call (Value.ref _) _ _) _ _ _)); (fail_if_success (with_reducible show wpAny _ _ (eval (Expr.ListComp _ _ _ _) _) _ _ _)))); (first | ((with_reducible show wpAny _ _ (storeName (envOf _ _ _ _ _) _ _) _ _ _); k_here; (with_reducible show wpAny _ _ (storeName (envOf _ _ _ _ _) _ _) _ _ _); k_dflt (refine' stG ?k1 ?k2 ?k3 ?k4 ?_; (case k1 => k_asm); (case k2 => k_asm); (case k3 => exact rfl); (case k4 => exact rfl); k_whole); intro sgH sgT sgM sgE sgD sgF sgN; (try k_sweep)) | (k_here; (with_reducible show wpAny _ _ (eval (Expr.Name _ _) (compEnvC _ _ _ _)) _ _ _); (with_reducible rename Fr _ _ _ _ => kF); k_dflt (refine' cname kF ?k2 ?_ ?k3 ?k4; (case k3 => exact rfl); (case k4 => exact rfl); (case k2 => ((repeat' (first | (with_reducible assumption) | exact if_pos rfl | refine Eq.trans (if_neg (by decide)) ?_ | (refine Eq.trans (stG_at (by with_reducible assumption) (by decide)) ?_) | exact rfl)); done)); k_whole)) | (k_here; (with_reducible show wpAny _ _ (eval (Expr.Name _ _) (envOf _ _ _ _ _)) _ _ _); (with_reducible rename Fr _ _ _ _ => kF); k_dflt (refine' ld kF ?k2 ?_; (case k2 => ((repeat' (first | (with_reducible assumption) | exact if_pos rfl | refine Eq.trans (if_neg (by decide)) ?_ | (refine Eq.trans (stG_at (by with_reducible assumption) (by decide)) ?_) | exact rfl)); done)); k_whole)) | ((with_reducible show wpAny _ _ (call (Value.builtin "issubclass") _ _) _ _ _); k_here; (with_reducible rename News _ _ _ _ => kN); k_dflt (refine issub_str (n := 0) (kN _ (.head _)).1 ?_)) | walk1)) | ((((fail_if_success (with_reducible show wpAny _ _ (exec (Stmt.While _ _ _ _) _) _ _ _)); (fail_if_success (with_reducible show wpAny _ _ (exec (Stmt.For _ _ _ _ _) _) _ _ _)); (fail_if_success (with_reducible show wpAny _ _ (call (Value.ref _) _ _) _ _ _)); (fail_if_success (with_reducible show wpAny _ _ (eval (Expr.ListComp _ _ _ _) _) _ _ _)))); dsimp only; (((fail_if_success (with_reducible show wpAny _ _ (exec (Stmt.While _ _ _ _) _) _ _ _)); (fail_if_success (with_reducible show wpAny _ _ (exec (Stmt.For _ _ _ _ _) _) _ _ _)); (fail_if_success (with_reducible show wpAny _ _ (call (Value.ref _) _ _) _ _ _)); (fail_if_success (with_reducible show wpAny _ _ (eval (Expr.ListComp _ _ _ _) _) _ _ _)))); (first | ((with_reducible show wpAny _ _ (storeName (envOf _ _ _ _ _) _ _) _ _ _); k_here; (with_reducible show wpAny _ _ (storeName (envOf _ _ _ _ _) _ _) _ _ _); k_dflt (refine' stG ?k1 ?k2 ?k3 ?k4 ?_; (case k1 => k_asm); (case k2 => k_asm); (case k3 => exact rfl); (case k4 => exact rfl); k_whole); intro sgH sgT sgM sgE sgD sgF sgN; (try k_sweep)) | (k_here; (with_reducible show wpAny _ _ (eval (Expr.Name _ _) (compEnvC _ _ _ _)) _ _ _); (with_reducible rename Fr _ _ _ _ => kF); k_dflt (refine' cname kF ?k2 ?_ ?k3 ?k4; (case k3 => exact rfl); (case k4 => exact rfl); (case k2 => ((repeat' (first | (with_reducible assumption) | exact if_pos rfl | refine Eq.trans (if_neg (by decide)) ?_ | (refine Eq.trans (stG_at (by with_reducible assumption) (by decide)) ?_) | exact rfl)); done)); k_whole)) | (k_here; (with_reducible show wpAny _ _ (eval (Expr.Name _ _) (envOf _ _ _ _ _)) _ _ _); (with_reducible rename Fr _ _ _ _ => kF); k_dflt (refine' ld kF ?k2 ?_; (case k2 => ((repeat' (first | (with_reducible assumption) | exact if_pos rfl | refine Eq.trans (if_neg (by decide)) ?_ | (refine Eq.trans (stG_at (by with_reducible assumption) (by decide)) ?_) | exact rfl)); done)); k_whole)) | ((with_reducible show wpAny _ _ (call (Value.builtin "issubclass") _ _) _ _ _); k_here; (with_reducible rename News _ _ _ _ => kN); k_dflt (refine issub_str (n := 0) (kN _ (.head _)).1 ?_)) | walk1)) | fail "no step"))
  rename Fr _ _ _ _ => F1
  refine fspath_c a' F1.keep (Room.deeper _) (fun h2 tk2 k2 => ?_)
  have F2 := F1.kept k2
  have N2 : News s.heap L h2 [] := News.nil
  clear F1 N
  (repeat' (first | (k_unfold; (try dsimp only)) | ((((fail_if_success (with_reducible show wpAny _ _ (exec (Stmt.While _ _ _ _) _) _ _ _)); (fail_if_success (with_reducible show wpAny _ _ (exec (Stmt.For _ _ _ _ _) _) _ _ _)); (fail_if_success (with_reducible show wpAny _ _ (call (Value.ref _) _ _) _ _ _)); (fail_if_success (with_reducible show wpAny _ _ (eval (Expr.ListComp _ _ _ _) _) _ _ _)))); (first | ((with_reducible show wpAny _ _ (storeName (envOf _ _ _ _ _) _ _) _ _ _); k_here; (with_reducible show wpAny _ _ (storeName (envOf _ _ _ _ _) _ _) _ _ _); k_dflt (refine' stG ?k1 ?k2 ?k3 ?k4 ?_; (case k1 => k_asm); (case k2 => k_asm); (case k3 => exact rfl); (case k4 => exact rfl); k_whole); intro sgH sgT sgM sgE sgD sgF sgN; (try k_sweep)) | (k_here; (with_reducible show wpAny _ _ (eval (Expr.Name _ _) (compEnvC _ _ _ _)) _ _ _); (with_reducible rename Fr _ _ _ _ => kF); k_dflt (refine' cname kF ?k2 ?_ ?k3 ?k4; (case k3 => exact rfl); (case k4 => exact rfl); (case k2 => ((repeat' (first | (with_reducible assumption) | exact if_pos rfl | refine Eq.trans (if_neg (by decide)) ?_ | (refine Eq.trans (stG_at (by with_reducible assumption) (by decide)) ?_) | exact rfl)); done)); k_whole)) | (k_here; (with_reducible show wpAny _ _ (eval (Expr.Name _ _) (envOf _ _ _ _ _)) _ _ _); (with_reducible rename Fr _ _ _ _ => kF); k_dflt (refine' ld kF ?k2 ?_; (case k2 => ((repeat' (first | (with_reducible assumption) | exact if_pos rfl | refine Eq.trans (if_neg (by decide)) ?_ | (refine Eq.trans (stG_at (by with_reducible assumption) (by decide)) ?_) | exact rfl)); done)); k_whole)) | ((with_reducible show wpAny _ _ (call (Value.builtin "issubclass") _ _) _ _ _); k_here; (with_reducible rename News _ _ _ _ => kN); k_dflt (refine issub_str (n := 0) (kN _ (.head _)).1 ?_)) | walk1)) | ((((fail_if_success (with_reducible show wpAny _ _ (exec (Stmt.While _ _ _ _) _) _ _ _)); (fail_if_success (with_reducible show wpAny _ _ (exec (Stmt.For _ _ _ _ _) _) _ _ _)); (fail_if_success (with_reducible show wpAny _ _ (call (Value.ref _) _ _) _ _ _)); (fail_if_success (with_reducible show wpAny _ _ (eval (Expr.ListComp _ _ _ _) _) _ _ _)))); dsimp only; (((fail_if_success (with_reducible show wpAny _ _ (exec (Stmt.While _ _ _ _) _) _ _ _)); (fail_if_success (with_reducible show wpAny _ _ (exec (Stmt.For _ _ _ _ _) _) _ _ _)); (fail_if_success (with_reducible show wpAny _ _ (call (Value.ref _) _ _) _ _ _)); (fail_if_success (with_reducible show wpAny _ _ (eval (Expr.ListComp _ _ _ _) _) _ _ _)))); (first | ((with_reducible show wpAny _ _ (storeName (envOf _ _ _ _ _) _ _) _ _ _); k_here; (with_reducible show wpAny _ _ (storeName (envOf _ _ _ _ _) _ _) _ _ _); k_dflt (refine' stG ?k1 ?k2 ?k3 ?k4 ?_; (case k1 => k_asm); (case k2 => k_asm); (case k3 => exact rfl); (case k4 => exact rfl); k_whole); intro sgH sgT sgM sgE sgD sgF sgN; (try k_sweep)) | (k_here; (with_reducible show wpAny _ _ (eval (Expr.Name _ _) (compEnvC _ _ _ _)) _ _ _); (with_reducible rename Fr _ _ _ _ => kF); k_dflt (refine' cname kF ?k2 ?_ ?k3 ?k4; (case k3 => exact rfl); (case k4 => exact rfl); (case k2 => ((repeat' (first | (with_reducible assumption) | exact if_pos rfl | refine Eq.trans (if_neg (by decide)) ?_ | (refine Eq.trans (stG_at (by with_reducible assumption) (by decide)) ?_) | exact rfl)); done)); k_whole)) | (k_here; (with_reducible show wpAny _ _ (eval (Expr.Name _ _) (envOf _ _ _ _ _)) _ _ _); (with_reducible rename Fr _ _ _ _ => kF); k_dflt (refine' ld kF ?k2 ?_; (case k2 => ((repeat' (first | (with_reducible assumption) | exact if_pos rfl | refine Eq.trans (if_neg (by decide)) ?_ | (refine Eq.trans (stG_at (by with_reducible assumption) (by decide)) ?_) | exact rfl)); done)); k_whole)) | ((with_reducible show wpAny _ _ (call (Value.builtin "issubclass") _ _) _ _ _); k_here; (with_reducible rename News _ _ _ _ => kN); k_dflt (refine issub_str (n := 0) (kN _ (.head _)).1 ?_)) | walk1)) | fail "no step"))
  rename Fr _ _ _ _ => F3
  refine getsep_c a' F3.keep (Room.deeper _) (fun h4 tk4 u4 k4 => ?_)
  have F4 := F3.kept k4
  have N4 : News s.heap L h4 [] := News.nil
  clear F3
  (repeat' (first | (k_unfold; (try dsimp only)) | ((((fail_if_success (with_reducible show wpAny _ _ (exec (Stmt.While _ _ _ _) _) _ _ _)); (fail_if_success (with_reducible show wpAny _ _ (exec (Stmt.For _ _ _ _ _) _) _ _ _)); (fail_if_success (with_reducible show wpAny _ _ (call (Value.ref _) _ _) _ _ _)); (fail_if_success (with_reducible show wpAny _ _ (eval (Expr.ListComp _ _ _ _) _) _ _ _)))); (first | ((with_reducible show wpAny _ _ (storeName (envOf _ _ _ _ _) _ _) _ _ _); k_here; (with_reducible show wpAny _ _ (storeName (envOf _ _ _ _ _) _ _) _ _ _); k_dflt (refine' stG ?k1 ?k2 ?k3 ?k4 ?_; (case k1 => k_asm); (case k2 => k_asm); (case k3 => exact rfl); (case k4 => exact rfl); k_whole); intro sgH sgT sgM sgE sgD sgF sgN; (try k_sweep)) | (k_here; (with_reducible show wpAny _ _ (eval (Expr.Name _ _) (compEnvC _ _ _ _)) _ _ _); (with_reducible rename Fr _ _ _ _ => kF); k_dflt (refine' cname kF ?k2 ?_ ?k3 ?k4; (case k3 => exact rfl); (case k4 => exact rfl); (case k2 => ((repeat' (first | (with_reducible assumption) | exact if_pos rfl | refine Eq.trans (if_neg (by decide)) ?_ | (refine Eq.trans (stG_at (by with_reducible assumption) (by decide)) ?_) | exact rfl)); done)); k_whole)) | (k_here; (with_reducible show wpAny _ _ (eval (Expr.Name _ _) (envOf _ _ _ _ _)) _ _ _); (with_reducible rename Fr _ _ _ _ => kF); k_dflt (refine' ld kF ?k2 ?_; (case k2 => ((repeat' (first | (with_reducible assumption) | exact if_pos rfl | refine Eq.trans (if_neg (by decide)) ?_ | (refine Eq.trans (stG_at (by with_reducible assumption) (by decide)) ?_) | exact rfl)); done)); k_whole)) | ((with_reducible show wpAny _ _ (call (Value.builtin "issubclass") _ _) _ _ _); k_here; (with_reducible rename News _ _ _ _ => kN); k_dflt (refine issub_str (n := 0) (kN _ (.head _)).1 ?_)) | walk1)) | ((((fail_if_success (with_reducible show wpAny _ _ (exec (Stmt.While _ _ _ _) _) _ _ _)); (fail_if_success (with_reducible show wpAny _ _ (exec (Stmt.For _ _ _ _ _) _) _ _ _)); (fail_if_success (with_reducible show wpAny _ _ (call (Value.ref _) _ _) _ _ _)); (fail_if_success (with_reducible show wpAny _ _ (eval (Expr.ListComp _ _ _ _) _) _ _ _)))); dsimp only; (((fail_if_success (with_reducible show wpAny _ _ (exec (Stmt.While _ _ _ _) _) _ _ _)); (fail_if_success (with_reducible show wpAny _ _ (exec (Stmt.For _ _ _ _ _) _) _ _ _)); (fail_if_success (with_reducible show wpAny _ _ (call (Value.ref _) _ _) _ _ _)); (fail_if_success (with_reducible show wpAny _ _ (eval (Expr.ListComp _ _ _ _) _) _ _ _)))); (first | ((with_reducible show wpAny _ _ (storeName (envOf _ _ _ _ _) _ _) _ _ _); k_here; (with_reducible show wpAny _ _ (storeName (envOf _ _ _ _ _) _ _) _ _ _); k_dflt (refine' stG ?k1 ?k2 ?k3 ?k4 ?_; (case k1 => k_asm); (case k2 => k_asm); (case k3 => exact rfl); (case k4 => exact rfl); k_whole); intro sgH sgT sgM sgE sgD sgF sgN; (try k_sweep)) | (k_here; (with_reducible show wpAny _ _ (eval (Expr.Name _ _) (compEnvC _ _ _ _)) _ _ _); (with_reducible rename Fr _ _ _ _ => kF); k_dflt (refine' cname kF ?k2 ?_ ?k3 ?k4; (case k3 => exact rfl); (case k4 => exact rfl); (case k2 => ((repeat' (first | (with_reducible assumption) | exact if_pos rfl | refine Eq.trans (if_neg (by decide)) ?_ | (refine Eq.trans (stG_at (by with_reducible assumption) (by decide)) ?_) | exact rfl)); done)); k_whole)) | (k_here; (with_reducible show wpAny _ _ (eval (Expr.Name _ _) (envOf _ _ _ _ _)) _ _ _); (with_reducible rename Fr _ _ _ _ => kF); k_dflt (refine' ld kF ?k2 ?_; (case k2 => ((repeat' (first | (with_reducible assumption) | exact if_pos rfl | refine Eq.trans (if_neg (by decide)) ?_ | (refine Eq.trans (stG_at (by with_reducible assumption) (by decide)) ?_) | exact rfl)); done)); k_whole)) | ((with_reducible show wpAny _ _ (call (Value.builtin "issubclass") _ _) _ _ _); k_here; (with_reducible rename News _ _ _ _ => kN); k_dflt (refine issub_str (n := 0) (kN _ (.head _)).1 ?_)) | walk1)) | fail "no step"))
  · rename Fr _ _ _ _ => F9
    rename News _ _ _ _ => N9
    rename ((_ : Int) ≠ 0) => c1
    rename ((_ != _) = true) => c2
    have e : splitH p = Txt.rstripChars (Txt.slice p none (some (Txt.rfind p (Str.ofString "/") + 1))) (Str.ofString "/") := by
      unfold splitH; rw [if_pos ⟨c1, c2⟩]; rfl
    have z := (N9 _ (.head _)).1
    have zn := (N9 _ (.head _)).2.2
    rw [← e] at z
    exact hQ _ _ _ _ _ F9.keep zn z
  · rename Fr _ _ _ _ => F9
    rename News _ _ _ _ => N9
    rename ((_ != _) = false) => c2
    have e : splitH p = Txt.slice p none (some (Txt.rfind p (Str.ofString "/") + 1)) := by
      unfold splitH; rw [if_neg (fun q => by have := q.2; unfold headS at this; rw [c2] at this; cases this)]; rfl
    have z := (N9 _ (.head _)).1
    have zn := (N9 _ (.head _)).2.2
    rw [← e] at z
    exact hQ _ _ _ _ _ F9.keep zn z
  · rename Fr _ _ _ _ => F9
    rename News _ _ _ _ => N9
    rename ((_ : Int) = 0) => c1
    have e : splitH p = Txt.slice p none (some (Txt.rfind p (Str.ofString "/") + 1)) := by
      unfold splitH; rw [if_neg (fun q => q.1 c1)]; rfl
    have z := (N9 _ (.head _)).1
    have zn := (N9 _ (.head _)).2.2
    rw [← e] at z
    exact hQ _ _ _ _ _ F9.keep zn z
end

section
open PySem PySem.W PyProof.Rows PySem.Calls PySem.SeqAt

noncomputable abbrev tup3 (a b c : Value) : Obj := { cls := .type "tuple", data := .seq #[a, b, c] }
theorem splitroot_c {w : World} {A : Around} {E : Value → Shared → Prop} {s : Shared} {g : Heap} {Q : Value → Shared → Prop} {p : Str} {t : Tok} (a : Amb w g) (l : Le g s.heap) (r : Room 8 A) (hp : p.length ≤ 100) (c1 : (Txt.slice p none (some 1) != Str.ofString "/") = false) (c2 : (Txt.slice p (some 1) (some 2) != Str.ofString "/") = true)
   (hQ : ∀ h' tk q u v z, Le s.heap h' → s.heap.get? q = none → h'.get? q = some (tup3 (.str (Str.ofString "") u) (.str (Str.ofString "/") v) (.str (Txt.slice p (some 1) none) z)) → Q (.ref q) { s with heap := h', toks := tk }) :
   wpAny (model Challenge.rw_ny0132_01.row.prog w) A (call (.ref 143) [.str p t]) Q E s := by
  have a' := a.le l
  obtain ⟨X, mean, mg, mb, T⟩ := a.le l
  revert X; k_fill; intro X
  refine weaken r ?_
  refine enter (binds := [(Str.ofString "p", .str p t)]) X T.nolimit (Le.refl _) (Nat.le_refl _) (by k_is) (by k_is) (by show 348 < recursionLimit; decide) (BindsTo.of_eq rfl) (locs rfl) (fun h₁ F L₁ => ?_) (by decide) rfl rfl rfl
  have N : News s.heap s.heap.objs.size h₁ [] := News.nil
  show wpAny _ _ _ _ _ _
  generalize hL : s.heap.objs.size = L at *
  k_fold
  (repeat' (first | (k_unfold; (try dsimp only)) | ((((fail_if_success (with_reducible show wpAny _ _ (exec (Stmt.While _ _ _ _) _) _ _ _)); (fail_if_success (with_reducible show wpAny _ _ (exec (Stmt.For _ _ _ _ _) _) _ _ _)); (fail_if_success (with_reducible show wpAny _ _ (call (Value.ref _) _ _) _ _ _)); (fail_if_success (with_reducible show wpAny _ _ (eval (Expr.ListComp _ _ _ _) _) _ _ _)))); (first | ((with_reducible show wpAny _ _ (storeName (envOf _ _ _ _ _) _ _) _ _ _); k_here; (with_reducible show wpAny _ _ (storeName (envOf _ _ _ _ _) _ _) _ _ _); k_dflt (refine' stG ?k1 ?k2 ?k3 ?k4 ?_; (case k1 => k_asm); (case k2 => k_asm); (case k3 => exact rfl); (case k4 => exact rfl); k_whole); intro sgH sgT sgM sgE sgD sgF sgN; (try k_sweep)) | (k_here; (with_reducible show wpAny _ _ (eval (Expr.Name _ _) (compEnvC _ _ _ _)) _ _ _); (with_reducible rename Fr _ _ _ _ => kF); k_dflt (refine' cname kF ?k2 ?_ ?k3 ?k4; (case k3 => exact rfl); (case k4 => exact rfl); (case k2 => ((repeat' (first | (with_reducible assumption) | exact if_pos rfl | refine Eq.trans (if_neg (by decide)) ?_ | (refine Eq.trans (stG_at (by with_reducible assumption) (by decide)) ?_) | exact rfl)); done)); k_whole)) | (k_here; (with_reducible show wpAny _ _ (eval (Expr.Name _ _) (envOf _ _ _ _ _)) _ _ _); (with_reducible rename Fr _ _ _ _ => kF); k_dflt (refine' ld kF ?k2 ?_; (case k2 => ((repeat' (first | (with_reducible assumption) | exact if_pos rfl | refine Eq.trans (if_neg (by decide)) ?_ | (refine Eq.trans (stG_at (by with_reducible assumption) (by decide)) ?_) | exact rfl)); done)); k_whole)) | walk1)) | ((((fail_if_success (with_reducible show wpAny _ _ (exec (Stmt.While _ _ _ _) _) _ _ _)); (fail_if_success (with_reducible show wpAny _ _ (exec (Stmt.For _ _ _ _ _) _) _ _ _)); (fail_if_success (with_reducible show wpAny _ _ (call (Value.ref _) _ _) _ _ _)); (fail_if_success (with_reducible show wpAny _ _ (eval (Expr.ListComp _ _ _ _) _) _ _ _)))); dsimp only; (((fail_if_success (with_reducible show wpAny _ _ (exec (Stmt.While _ _ _ _) _) _ _ _)); (fail_if_success (with_reducible show wpAny _ _ (exec (Stmt.For _ _ _ _ _) _) _ _ _)); (fail_if_success (with_reducible show wpAny _ _ (call (Value.ref _) _ _) _ _ _)); (fail_if_success (with_reducible show wpAny _ _ (eval (Expr.ListComp _ _ _ _) _) _ _ _)))); (first | ((with_reducible show wpAny _ _ (storeName (envOf _ _ _ _ _) _ _) _ _ _); k_here; (with_reducible show wpAny _ _ (storeName (envOf _ _ _ _ _) _ _) _ _ _); k_dflt (refine' stG ?k1 ?k2 ?k3 ?k4 ?_; (case k1 => k_asm); (case k2 => k_asm); (case k3 => exact rfl); (case k4 => exact rfl); k_whole); intro sgH sgT sgM sgE sgD sgF sgN; (try k_sweep)) | (k_here; (with_reducible show wpAny _ _ (eval (Expr.Name _ _) (compEnvC _ _ _ _)) _ _ _); (with_reducible rename Fr _ _ _ _ => kF); k_dflt (refine' cname kF ?k2 ?_ ?k3 ?k4; (case k3 => exact rfl); (case k4 => exact rfl); (case k2 => ((repeat' (first | (with_reducible assumption) | exact if_pos rfl | refine Eq.trans (if_neg (by decide)) ?_ | (refine Eq.trans (stG_at (by with_reducible assumption) (by decide)) ?_) | exact rfl)); done)); k_whole)) | (k_here; (with_reducible show wpAny _ _ (eval (Expr.Name _ _) (envOf _ _ _ _ _)) _ _ _); (with_reducible rename Fr _ _ _ _ => kF); k_dflt (refine' ld kF ?k2 ?_; (case k2 => ((repeat' (first | (with_reducible assumption) | exact if_pos rfl | refine Eq.trans (if_neg (by decide)) ?_ | (refine Eq.trans (stG_at (by with_reducible assumption) (by decide)) ?_) | exact rfl)); done)); k_whole)) | walk1)) | fail "no step"))
  rename Fr _ _ _ _ => F1
  refine fspath_c a' F1.keep (Room.deeper _) (fun h2 tk2 k2 => ?_)
  have F2 := F1.kept k2
  have N2 : News s.heap L h2 [] := News.nil
  clear F1 N
  (repeat' (first | (k_unfold; (try dsimp only)) | ((((fail_if_success (with_reducible show wpAny _ _ (exec (Stmt.While _ _ _ _) _) _ _ _)); (fail_if_success (with_reducible show wpAny _ _ (exec (Stmt.For _ _ _ _ _) _) _ _ _)); (fail_if_success (with_reducible show wpAny _ _ (call (Value.ref _) _ _) _ _ _)); (fail_if_success (with_reducible show wpAny _ _ (eval (Expr.ListComp _ _ _ _) _) _ _ _)))); (first | ((with_reducible show wpAny _ _ (storeName (envOf _ _ _ _ _) _ _) _ _ _); k_here; (with_reducible show wpAny _ _ (storeName (envOf _ _ _ _ _) _ _) _ _ _); k_dflt (refine' stG ?k1 ?k2 ?k3 ?k4 ?_; (case k1 => k_asm); (case k2 => k_asm); (case k3 => exact rfl); (case k4 => exact rfl); k_whole); intro sgH sgT sgM sgE sgD sgF sgN; (try k_sweep)) | (k_here; (with_reducible show wpAny _ _ (eval (Expr.Name _ _) (compEnvC _ _ _ _)) _ _ _); (with_reducible rename Fr _ _ _ _ => kF); k_dflt (refine' cname kF ?k2 ?_ ?k3 ?k4; (case k3 => exact rfl); (case k4 => exact rfl); (case k2 => ((repeat' (first | (with_reducible assumption) | exact if_pos rfl | refine Eq.trans (if_neg (by decide)) ?_ | (refine Eq.trans (stG_at (by with_reducible assumption) (by decide)) ?_) | exact rfl)); done)); k_whole)) | (k_here; (with_reducible show wpAny _ _ (eval (Expr.Name _ _) (envOf _ _ _ _ _)) _ _ _); (with_reducible rename Fr _ _ _ _ => kF); k_dflt (refine' ld kF ?k2 ?_; (case k2 => ((repeat' (first | (with_reducible assumption) | exact if_pos rfl | refine Eq.trans (if_neg (by decide)) ?_ | (refine Eq.trans (stG_at (by with_reducible assumption) (by decide)) ?_) | exact rfl)); done)); k_whole)) | walk1)) | ((((fail_if_success (with_reducible show wpAny _ _ (exec (Stmt.While _ _ _ _) _) _ _ _)); (fail_if_success (with_reducible show wpAny _ _ (exec (Stmt.For _ _ _ _ _) _) _ _ _)); (fail_if_success (with_reducible show wpAny _ _ (call (Value.ref _) _ _) _ _ _)); (fail_if_success (with_reducible show wpAny _ _ (eval (Expr.ListComp _ _ _ _) _) _ _ _)))); dsimp only; (((fail_if_success (with_reducible show wpAny _ _ (exec (Stmt.While _ _ _ _) _) _ _ _)); (fail_if_success (with_reducible show wpAny _ _ (exec (Stmt.For _ _ _ _ _) _) _ _ _)); (fail_if_success (with_reducible show wpAny _ _ (call (Value.ref _) _ _) _ _ _)); (fail_if_success (with_reducible show wpAny _ _ (eval (Expr.ListComp _ _ _ _) _) _ _ _)))); (first | ((with_reducible show wpAny _ _ (storeName (envOf _ _ _ _ _) _ _) _ _ _); k_here; (with_reducible show wpAny _ _ (storeName (envOf _ _ _ _ _) _ _) _ _ _); k_dflt (refine' stG ?k1 ?k2 ?k3 ?k4 ?_; (case k1 => k_asm); (case k2 => k_asm); (case k3 => exact rfl); (case k4 => exact rfl); k_whole); intro sgH sgT sgM sgE sgD sgF sgN; (try k_sweep)) | (k_here; (with_reducible show wpAny _ _ (eval (Expr.Name _ _) (compEnvC _ _ _ _)) _ _ _); (with_reducible rename Fr _ _ _ _ => kF); k_dflt (refine' cname kF ?k2 ?_ ?k3 ?k4; (case k3 => exact rfl); (case k4 => exact rfl); (case k2 => ((repeat' (first | (with_reducible assumption) | exact if_pos rfl | refine Eq.trans (if_neg (by decide)) ?_ | (refine Eq.trans (stG_at (by with_reducible assumption) (by decide)) ?_) | exact rfl)); done)); k_whole)) | (k_here; (with_reducible show wpAny _ _ (eval (Expr.Name _ _) (envOf _ _ _ _ _)) _ _ _); (with_reducible rename Fr _ _ _ _ => kF); k_dflt (refine' ld kF ?k2 ?_; (case k2 => ((repeat' (first | (with_reducible assumption) | exact if_pos rfl | refine Eq.trans (if_neg (by decide)) ?_ | (refine Eq.trans (stG_at (by with_reducible assumption) (by decide)) ?_) | exact rfl)); done)); k_whole)) | walk1)) | fail "no step"))
  rename Fr _ _ _ _ => F9
  rename News _ _ _ _ => N9
  have z := N9 _ (.head _)
  exact hQ _ _ _ _ _ _ F9.keep z.2.2 z.1
end

section
open PySem PySem.W PyProof.Rows PySem.Calls PyProof.Rows.LCg
section
variable {prog : Program} {w : World} {A : Around} {E : Value → Shared → Prop} {s : Shared} {env : Env}
end
end

section
open PySem PySem.W PyProof.Rows PySem.Calls PySem.SeqAt

noncomputable def normStep (acc : List Str) (c : Str) : List Str :=
  if (c.length : Int) = 0 then acc else if (c == Str.ofString ".") = true then acc else if (c != Str.ofString "..") = true then acc ++ [c] else acc.dropLast
noncomputable def normF (cs : List Str) : List Str := cs.foldl normStep []

theorem strs_at : ∀ {vs : List Value} {xs : List Str}, StrsAre vs xs → ∀ {i : Nat} {v : Value}, vs[i]? = some v → ∃ c t, v = .str c t ∧ xs[i]? = some c
  | _, _, .nil, i, v, h => by simp at h
  | _, _, .cons y t r, 0, v, h => by simp at h; exact ⟨y, t, h.symm, rfl⟩
  | _, _, .cons y t r, i + 1, v, h => by simpa using strs_at r (by simpa using h)
theorem strs_len : ∀ {vs : List Value} {xs : List Str}, StrsAre vs xs → vs.length = xs.length
  | _, _, .nil => rfl
  | _, _, .cons _ _ r => by simp [strs_len r]
theorem strs_app : ∀ {vs us : List Value} {xs ys : List Str}, StrsAre vs xs → StrsAre us ys → StrsAre (vs ++ us) (xs ++ ys)
  | _, _, _, _, .nil, h => h
  | _, _, _, _, .cons y t r, h => .cons y t (strs_app r h)
theorem strs_split {vs : List Value} {xs : List Str} {y : Str} (h : StrsAre vs (xs ++ [y])) : ∃ us t, vs = us ++ [.str y t] ∧ StrsAre us xs := by
  induction xs generalizing vs with
  | nil => cases h with | cons _ t r => cases r; exact ⟨[], t, rfl, .nil⟩
  | cons x xs ih => cases h with | cons _ t r => obtain ⟨us, u, e, hu⟩ := ih r; exact ⟨.str x t :: us, u, by rw [e]; rfl, .cons x t hu⟩
theorem normStep_len (acc : List Str) (c : Str) : (normStep acc c).length ≤ acc.length + 1 := by
  unfold normStep; repeat' split
  all_goals simp
  all_goals omega
theorem normF_len : ∀ (cs acc : List Str), (cs.foldl normStep acc).length ≤ acc.length + cs.length
  | [], acc => by simp
  | c :: cs, acc => by
    have := normF_len cs (normStep acc c)
    have := normStep_len acc c
    simp only [List.foldl_cons, List.length_cons]; omega
theorem normStep_dd {acc : List Str} {c : Str} (h : ∀ x ∈ acc, (x != Str.ofString "..") = true) : ∀ x ∈ normStep acc c, (x != Str.ofString "..") = true := by
  unfold normStep
  split
  · exact h
  · split
    · exact h
    · split
      · rename_i hc
        intro x hx
        rcases List.mem_append.mp hx with hx | hx
        · exact h x hx
        · rw [List.mem_singleton.mp hx]; exact hc
      · exact fun x hx => h x (List.dropLast_subset _ hx)

theorem kl_last_app : ∀ (us : List Value) (y : Value), kl_last (us ++ [y]) = some (us, y)
  | [], _ => rfl
  | x :: us, y => by simp only [List.cons_append, kl_last, kl_last_app us y]

theorem normpath_c {w : World} {A : Around} {E : Value → Shared → Prop} {s : Shared} {g : Heap} {Q : Value → Shared → Prop} {p : Str} {t : Tok} (a : Amb w g) (l : Le g s.heap) (r : Room 7 A) (hp : p.length ≤ 100) (hp0 : (p.length : Int) ≠ 0) (c1 : (Txt.slice p none (some 1) != Str.ofString "/") = false) (c2 : (Txt.slice p (some 1) (some 2) != Str.ofString "/") = true)
   (hn : (Txt.split (Txt.slice p (some 1) none) (Str.ofString "/")).length ≤ 100)
   (hsum : ((normF (Txt.split (Txt.slice p (some 1) none) (Str.ofString "/"))).map (·.length)).sum + (normF (Txt.split (Txt.slice p (some 1) none) (Str.ofString "/"))).length ≤ 1000)
   (hjl : (Txt.join (Str.ofString "/") (normF (Txt.split (Txt.slice p (some 1) none) (Str.ofString "/")))).length ≤ 1000)
   (hQ : ∀ h' tk u, Le s.heap h' → Q (.str (Str.ofString "/" ++ Txt.join (Str.ofString "/") (normF (Txt.split (Txt.slice p (some 1) none) (Str.ofString "/")))) u) { s with heap := h', toks := tk }) :
   wpAny (model Challenge.rw_ny0132_01.row.prog w) A (call (.ref 150) [.str p t]) Q E s := by
  have a' := a.le l
  obtain ⟨X, mean, mg, mb, T⟩ := a.le l
  revert X; k_fill; intro X
  refine weaken r ?_
  refine enter (binds := [(Str.ofString "path", .str p t)]) X T.nolimit (Le.refl _) (Nat.le_refl _) (by k_is) (by k_is) (by show 347 < recursionLimit; decide) (BindsTo.of_eq rfl) (locs rfl) (fun h₁ F L₁ => ?_) (by decide) rfl rfl rfl
  have N : News s.heap s.heap.objs.size h₁ [] := News.nil
  show wpAny _ _ _ _ _ _
  generalize hL : s.heap.objs.size = L at *
  k_fold
  (repeat' (first | (k_unfold; (try dsimp only)) | ((((fail_if_success (with_reducible show wpAny _ _ (exec (Stmt.While _ _ _ _) _) _ _ _)); (fail_if_success (with_reducible show wpAny _ _ (exec (Stmt.For _ _ _ _ _) _) _ _ _)); (fail_if_success (with_reducible show wpAny _ _ (call (Value.ref _) _ _) _ _ _)); (fail_if_success (with_reducible show wpAny _ _ (eval (Expr.ListComp _ _ _ _) _) _ _ _)))); (first | ((with_reducible show wpAny _ _ (storeName (envOf _ _ _ _ _) _ _) _ _ _); k_here; (with_reducible show wpAny _ _ (storeName (envOf _ _ _ _ _) _ _) _ _ _); k_dflt (refine' stG ?k1 ?k2 ?k3 ?k4 ?_; (case k1 => k_asm); (case k2 => k_asm); (case k3 => exact rfl); (case k4 => exact rfl); k_whole); intro sgH sgT sgM sgE sgD sgF sgN; (try k_sweep)) | (k_here; (with_reducible show wpAny _ _ (eval (Expr.Name _ _) (compEnvC _ _ _ _)) _ _ _); (with_reducible rename Fr _ _ _ _ => kF); k_dflt (refine' cname kF ?k2 ?_ ?k3 ?k4; (case k3 => exact rfl); (case k4 => exact rfl); (case k2 => ((repeat' (first | (with_reducible assumption) | exact if_pos rfl | refine Eq.trans (if_neg (by decide)) ?_ | (refine Eq.trans (stG_at (by with_reducible assumption) (by decide)) ?_) | exact rfl)); done)); k_whole)) | (k_here; (with_reducible show wpAny _ _ (eval (Expr.Name _ _) (envOf _ _ _ _ _)) _ _ _); (with_reducible rename Fr _ _ _ _ => kF); k_dflt (refine' ld kF ?k2 ?_; (case k2 => ((repeat' (first | (with_reducible assumption) | exact if_pos rfl | refine Eq.trans (if_neg (by decide)) ?_ | (refine Eq.trans (stG_at (by with_reducible assumption) (by decide)) ?_) | exact rfl)); done)); k_whole)) | walk1)) | ((((fail_if_success (with_reducible show wpAny _ _ (exec (Stmt.While _ _ _ _) _) _ _ _)); (fail_if_success (with_reducible show wpAny _ _ (exec (Stmt.For _ _ _ _ _) _) _ _ _)); (fail_if_success (with_reducible show wpAny _ _ (call (Value.ref _) _ _) _ _ _)); (fail_if_success (with_reducible show wpAny _ _ (eval (Expr.ListComp _ _ _ _) _) _ _ _)))); dsimp only; (((fail_if_success (with_reducible show wpAny _ _ (exec (Stmt.While _ _ _ _) _) _ _ _)); (fail_if_success (with_reducible show wpAny _ _ (exec (Stmt.For _ _ _ _ _) _) _ _ _)); (fail_if_success (with_reducible show wpAny _ _ (call (Value.ref _) _ _) _ _ _)); (fail_if_success (with_reducible show wpAny _ _ (eval (Expr.ListComp _ _ _ _) _) _ _ _)))); (first | ((with_reducible show wpAny _ _ (storeName (envOf _ _ _ _ _) _ _) _ _ _); k_here; (with_reducible show wpAny _ _ (storeName (envOf _ _ _ _ _) _ _) _ _ _); k_dflt (refine' stG ?k1 ?k2 ?k3 ?k4 ?_; (case k1 => k_asm); (case k2 => k_asm); (case k3 => exact rfl); (case k4 => exact rfl); k_whole); intro sgH sgT sgM sgE sgD sgF sgN; (try k_sweep)) | (k_here; (with_reducible show wpAny _ _ (eval (Expr.Name _ _) (compEnvC _ _ _ _)) _ _ _); (with_reducible rename Fr _ _ _ _ => kF); k_dflt (refine' cname kF ?k2 ?_ ?k3 ?k4; (case k3 => exact rfl); (case k4 => exact rfl); (case k2 => ((repeat' (first | (with_reducible assumption) | exact if_pos rfl | refine Eq.trans (if_neg (by decide)) ?_ | (refine Eq.trans (stG_at (by with_reducible assumption) (by decide)) ?_) | exact rfl)); done)); k_whole)) | (k_here; (with_reducible show wpAny _ _ (eval (Expr.Name _ _) (envOf _ _ _ _ _)) _ _ _); (with_reducible rename Fr _ _ _ _ => kF); k_dflt (refine' ld kF ?k2 ?_; (case k2 => ((repeat' (first | (with_reducible assumption) | exact if_pos rfl | refine Eq.trans (if_neg (by decide)) ?_ | (refine Eq.trans (stG_at (by with_reducible assumption) (by decide)) ?_) | exact rfl)); done)); k_whole)) | walk1)) | fail "no step"))
  rename Fr _ _ _ _ => F1
  refine fspath_c a' F1.keep ((Room.deeper _).le (by omega)) (fun h2 tk2 k2 => ?_)
  have F2 := F1.kept k2
  have N2 : News s.heap L h2 [] := News.nil
  clear F1 N
  (repeat' (first | (k_unfold; (try dsimp only)) | ((((fail_if_success (with_reducible show wpAny _ _ (exec (Stmt.While _ _ _ _) _) _ _ _)); (fail_if_success (with_reducible show wpAny _ _ (exec (Stmt.For _ _ _ _ _) _) _ _ _)); (fail_if_success (with_reducible show wpAny _ _ (call (Value.ref _) _ _) _ _ _)); (fail_if_success (with_reducible show wpAny _ _ (eval (Expr.ListComp _ _ _ _) _) _ _ _)))); (first | ((with_reducible show wpAny _ _ (storeName (envOf _ _ _ _ _) _ _) _ _ _); k_here; (with_reducible show wpAny _ _ (storeName (envOf _ _ _ _ _) _ _) _ _ _); k_dflt (refine' stG ?k1 ?k2 ?k3 ?k4 ?_; (case k1 => k_asm); (case k2 => k_asm); (case k3 => exact rfl); (case k4 => exact rfl); k_whole); intro sgH sgT sgM sgE sgD sgF sgN; (try k_sweep)) | (k_here; (with_reducible show wpAny _ _ (eval (Expr.Name _ _) (compEnvC _ _ _ _)) _ _ _); (with_reducible rename Fr _ _ _ _ => kF); k_dflt (refine' cname kF ?k2 ?_ ?k3 ?k4; (case k3 => exact rfl); (case k4 => exact rfl); (case k2 => ((repeat' (first | (with_reducible assumption) | exact if_pos rfl | refine Eq.trans (if_neg (by decide)) ?_ | (refine Eq.trans (stG_at (by with_reducible assumption) (by decide)) ?_) | exact rfl)); done)); k_whole)) | (k_here; (with_reducible show wpAny _ _ (eval (Expr.Name _ _) (envOf _ _ _ _ _)) _ _ _); (with_reducible rename Fr _ _ _ _ => kF); k_dflt (refine' ld kF ?k2 ?_; (case k2 => ((repeat' (first | (with_reducible assumption) | exact if_pos rfl | refine Eq.trans (if_neg (by decide)) ?_ | (refine Eq.trans (stG_at (by with_reducible assumption) (by decide)) ?_) | exact rfl)); done)); k_whole)) | walk1)) | ((((fail_if_success (with_reducible show wpAny _ _ (exec (Stmt.While _ _ _ _) _) _ _ _)); (fail_if_success (with_reducible show wpAny _ _ (exec (Stmt.For _ _ _ _ _) _) _ _ _)); (fail_if_success (with_reducible show wpAny _ _ (call (Value.ref _) _ _) _ _ _)); (fail_if_success (with_reducible show wpAny _ _ (eval (Expr.ListComp _ _ _ _) _) _ _ _)))); dsimp only; (((fail_if_success (with_reducible show wpAny _ _ (exec (Stmt.While _ _ _ _) _) _ _ _)); (fail_if_success (with_reducible show wpAny _ _ (exec (Stmt.For _ _ _ _ _) _) _ _ _)); (fail_if_success (with_reducible show wpAny _ _ (call (Value.ref _) _ _) _ _ _)); (fail_if_success (with_reducible show wpAny _ _ (eval (Expr.ListComp _ _ _ _) _) _ _ _)))); (first | ((with_reducible show wpAny _ _ (storeName (envOf _ _ _ _ _) _ _) _ _ _); k_here; (with_reducible show wpAny _ _ (storeName (envOf _ _ _ _ _) _ _) _ _ _); k_dflt (refine' stG ?k1 ?k2 ?k3 ?k4 ?_; (case k1 => k_asm); (case k2 => k_asm); (case k3 => exact rfl); (case k4 => exact rfl); k_whole); intro sgH sgT sgM sgE sgD sgF sgN; (try k_sweep)) | (k_here; (with_reducible show wpAny _ _ (eval (Expr.Name _ _) (compEnvC _ _ _ _)) _ _ _); (with_reducible rename Fr _ _ _ _ => kF); k_dflt (refine' cname kF ?k2 ?_ ?k3 ?k4; (case k3 => exact rfl); (case k4 => exact rfl); (case k2 => ((repeat' (first | (with_reducible assumption) | exact if_pos rfl | refine Eq.trans (if_neg (by decide)) ?_ | (refine Eq.trans (stG_at (by with_reducible assumption) (by decide)) ?_) | exact rfl)); done)); k_whole)) | (k_here; (with_reducible show wpAny _ _ (eval (Expr.Name _ _) (envOf _ _ _ _ _)) _ _ _); (with_reducible rename Fr _ _ _ _ => kF); k_dflt (refine' ld kF ?k2 ?_; (case k2 => ((repeat' (first | (with_reducible assumption) | exact if_pos rfl | refine Eq.trans (if_neg (by decide)) ?_ | (refine Eq.trans (stG_at (by with_reducible assumption) (by decide)) ?_) | exact rfl)); done)); k_whole)) | walk1)) | fail "no step"))
  rotate_left
  · exact absurd (by assumption) hp0
  rename Fr _ _ _ _ => F3
  refine splitroot_c a' F3.keep (Room.deeper _) hp c1 c2 (fun h4 tk4 q u v z k4 qn eq4 => ?_)
  have F4 := F3.kept k4
  have N4 : News s.heap L h4 [(q, tup3 (.str (Str.ofString "") u) (.str (Str.ofString "/") v) (.str (Txt.slice p (some 1) none) z))] := fun x hx => by
    rw [List.mem_singleton.mp hx]
    refine ⟨eq4, fun e => ?_, none_le F3.keep qn⟩
    obtain ⟨oL, _, _, eL, _⟩ := F3.ns
    have e' : q = L := e
    rw [e'] at qn
    have qn' := qn
    rw [show _ = some oL from eL] at qn'; cases qn'
  clear F3
  (repeat' (first | (k_unfold; (try dsimp only)) | ((((fail_if_success (with_reducible show wpAny _ _ (exec (Stmt.While _ _ _ _) _) _ _ _)); (fail_if_success (with_reducible show wpAny _ _ (exec (Stmt.For _ _ _ _ _) _) _ _ _)); (fail_if_success (with_reducible show wpAny _ _ (call (Value.ref _) _ _) _ _ _)); (fail_if_success (with_reducible show wpAny _ _ (eval (Expr.ListComp _ _ _ _) _) _ _ _)))); (first | ((with_reducible show wpAny _ _ (storeName (envOf _ _ _ _ _) _ _) _ _ _); k_here; (with_reducible show wpAny _ _ (storeName (envOf _ _ _ _ _) _ _) _ _ _); k_dflt (refine' stG ?k1 ?k2 ?k3 ?k4 ?_; (case k1 => k_asm); (case k2 => k_asm); (case k3 => exact rfl); (case k4 => exact rfl); k_whole); intro sgH sgT sgM sgE sgD sgF sgN; (try k_sweep)) | (k_here; (with_reducible show wpAny _ _ (eval (Expr.Name _ _) (compEnvC _ _ _ _)) _ _ _); (with_reducible rename Fr _ _ _ _ => kF); k_dflt (refine' cname kF ?k2 ?_ ?k3 ?k4; (case k3 => exact rfl); (case k4 => exact rfl); (case k2 => ((repeat' (first | (with_reducible assumption) | exact if_pos rfl | refine Eq.trans (if_neg (by decide)) ?_ | (refine Eq.trans (stG_at (by with_reducible assumption) (by decide)) ?_) | exact rfl)); done)); k_whole)) | (k_here; (with_reducible show wpAny _ _ (eval (Expr.Name _ _) (envOf _ _ _ _ _)) _ _ _); (with_reducible rename Fr _ _ _ _ => kF); k_dflt (refine' ld kF ?k2 ?_; (case k2 => ((repeat' (first | (with_reducible assumption) | exact if_pos rfl | refine Eq.trans (if_neg (by decide)) ?_ | (refine Eq.trans (stG_at (by with_reducible assumption) (by decide)) ?_) | exact rfl)); done)); k_whole)) | walk1)) | ((((fail_if_success (with_reducible show wpAny _ _ (exec (Stmt.While _ _ _ _) _) _ _ _)); (fail_if_success (with_reducible show wpAny _ _ (exec (Stmt.For _ _ _ _ _) _) _ _ _)); (fail_if_success (with_reducible show wpAny _ _ (call (Value.ref _) _ _) _ _ _)); (fail_if_success (with_reducible show wpAny _ _ (eval (Expr.ListComp _ _ _ _) _) _ _ _)))); dsimp only; (((fail_if_success (with_reducible show wpAny _ _ (exec (Stmt.While _ _ _ _) _) _ _ _)); (fail_if_success (with_reducible show wpAny _ _ (exec (Stmt.For _ _ _ _ _) _) _ _ _)); (fail_if_success (with_reducible show wpAny _ _ (call (Value.ref _) _ _) _ _ _)); (fail_if_success (with_reducible show wpAny _ _ (eval (Expr.ListComp _ _ _ _) _) _ _ _)))); (first | ((with_reducible show wpAny _ _ (storeName (envOf _ _ _ _ _) _ _) _ _ _); k_here; (with_reducible show wpAny _ _ (storeName (envOf _ _ _ _ _) _ _) _ _ _); k_dflt (refine' stG ?k1 ?k2 ?k3 ?k4 ?_; (case k1 => k_asm); (case k2 => k_asm); (case k3 => exact rfl); (case k4 => exact rfl); k_whole); intro sgH sgT sgM sgE sgD sgF sgN; (try k_sweep)) | (k_here; (with_reducible show wpAny _ _ (eval (Expr.Name _ _) (compEnvC _ _ _ _)) _ _ _); (with_reducible rename Fr _ _ _ _ => kF); k_dflt (refine' cname kF ?k2 ?_ ?k3 ?k4; (case k3 => exact rfl); (case k4 => exact rfl); (case k2 => ((repeat' (first | (with_reducible assumption) | exact if_pos rfl | refine Eq.trans (if_neg (by decide)) ?_ | (refine Eq.trans (stG_at (by with_reducible assumption) (by decide)) ?_) | exact rfl)); done)); k_whole)) | (k_here; (with_reducible show wpAny _ _ (eval (Expr.Name _ _) (envOf _ _ _ _ _)) _ _ _); (with_reducible rename Fr _ _ _ _ => kF); k_dflt (refine' ld kF ?k2 ?_; (case k2 => ((repeat' (first | (with_reducible assumption) | exact if_pos rfl | refine Eq.trans (if_neg (by decide)) ?_ | (refine Eq.trans (stG_at (by with_reducible assumption) (by decide)) ?_) | exact rfl)); done)); k_whole)) | walk1)) | fail "no step"))
  rename Fr _ _ _ _ => F5
  rename News _ _ _ _ => N5
  rename StrsAre _ _ => hS
  rename (List.map _ _ = Txt.split _ _) => hsp
  rw [hsp] at hS
  have hall : ∀ a ∈ Txt.split (Txt.slice p (some 1) none) (Str.ofString "/"), a.length ≤ 100 := by
    have h1 := Txt.slice_le p (some 1) none
    intro c hc
    rw [← hsp] at hc
    rename (∀ _ ∈ List.map _ _, _ ≤ _) => hle
    exact Nat.le_trans (hle c hc) (Nat.le_trans h1 hp)
  rename Heap => h5
  rename Nat => tk0
  have hx : ∃ nc cs vs m u1 u2 u3, Fr s.heap L h5 m ∧ News s.heap L h5 [(nc, listOf ([] : List Value).toArray 0), (cs, listOf vs.toArray 0)] ∧ nc ≠ cs ∧ StrsAre vs (Txt.split (Txt.slice p (some 1) none) (Str.ofString "/")) ∧
      m (Str.ofString "new_comps") = some (.ref nc) ∧ m (Str.ofString "comps") = some (.ref cs) ∧ m (Str.ofString "initial_slashes") = some (.str (Str.ofString "/") v) ∧ m (Str.ofString "dot") = some (.str (Str.ofString ".") u1) ∧ m (Str.ofString "dotdot") = some (.str (Str.ofString "..") u2) ∧ m (Str.ofString "sep") = some (.str (Str.ofString "/") u3) := by
    refine ⟨_, _, _, _, _, _, _, F5, fun x hx => N5 x (by rcases List.mem_cons.mp hx with rfl | hx; exact .head _; rw [List.mem_singleton.mp hx]; exact .tail _ (.head _)), ?_, hS, by ((repeat' (first | (with_reducible assumption) | exact if_pos rfl | refine Eq.trans (if_neg (by decide)) ?_ | (refine Eq.trans (stG_at (by with_reducible assumption) (by decide)) ?_) | exact rfl)); done), by ((repeat' (first | (with_reducible assumption) | exact if_pos rfl | refine Eq.trans (if_neg (by decide)) ?_ | (refine Eq.trans (stG_at (by with_reducible assumption) (by decide)) ?_) | exact rfl)); done), by ((repeat' (first | (with_reducible assumption) | exact if_pos rfl | refine Eq.trans (if_neg (by decide)) ?_ | (refine Eq.trans (stG_at (by with_reducible assumption) (by decide)) ?_) | exact rfl)); done), by ((repeat' (first | (with_reducible assumption) | exact if_pos rfl | refine Eq.trans (if_neg (by decide)) ?_ | (refine Eq.trans (stG_at (by with_reducible assumption) (by decide)) ?_) | exact rfl)); done), by ((repeat' (first | (with_reducible assumption) | exact if_pos rfl | refine Eq.trans (if_neg (by decide)) ?_ | (refine Eq.trans (stG_at (by with_reducible assumption) (by decide)) ?_) | exact rfl)); done), by ((repeat' (first | (with_reducible assumption) | exact if_pos rfl | refine Eq.trans (if_neg (by decide)) ?_ | (refine Eq.trans (stG_at (by with_reducible assumption) (by decide)) ?_) | exact rfl)); done)⟩
    rename (_ < _ ∧ _) => hlt
    exact neN (Nat.ne_of_gt hlt.1)
  obtain ⟨nc, cs, vs, m, u1, u2, u3, F6, N6, hne, hS6, m1, m2, m3, m4, m5, m6⟩ := hx
  clear F5 N5 hS
  generalize hcl : Txt.split (Txt.slice p (some 1) none) (Str.ofString "/") = cl at *
  have hlv := strs_len hS6
  refine for_rule2 F6 N6 rfl rfl rfl rfl (fun Q' h => ld F6 (by ((repeat' (first | (with_reducible assumption) | exact if_pos rfl | refine Eq.trans (if_neg (by decide)) ?_ | (refine Eq.trans (stG_at (by with_reducible assumption) (by decide)) ?_) | exact rfl)); done)) h) (items := vs.toArray) (ax := cs)
    (fun i m news => ∃ ws n, news = [(nc, listOf ws.toArray n), (cs, listOf vs.toArray 0)] ∧ StrsAre ws (normF (cl.take i)) ∧ (∀ c ∈ normF (cl.take i), (c != Str.ofString "..") = true) ∧
      m (Str.ofString "new_comps") = some (.ref nc) ∧ m (Str.ofString "comps") = some (.ref cs) ∧ m (Str.ofString "initial_slashes") = some (.str (Str.ofString "/") v) ∧ m (Str.ofString "dot") = some (.str (Str.ofString ".") u1) ∧ m (Str.ofString "dotdot") = some (.str (Str.ofString "..") u2) ∧ m (Str.ofString "sep") = some (.str (Str.ofString "/") u3))
    ⟨[], 0, rfl, .nil, (by intro c hc; cases hc), m1, m2, m3, m4, m5, m6⟩ (fun i h m' news' F' N' hJ => ?_) (fun i v' I oI m₁ news₁ h₁ tk₁ hv hJ F7 N7 hoff hcl' => ?_) (fun h8 tk8 m8 news8 F8 N8 hJ => ?_)
  · obtain ⟨ws, n, rfl, _⟩ := hJ
    exact PySem.IsL.isList (n := 0) (N' _ (.tail _ (.head _))).1
  · obtain ⟨ws, n, rfl, hw, hdd, m1, m2, m3, m4, m5, m6⟩ := hJ
    obtain ⟨c, tc, rfl, hc⟩ := strs_at hS6 (by simpa using hv)
    have hlw := strs_len hw
    have hln := normF_len (cl.take i) []
    rw [List.length_take] at hln
    have hst : normF (cl.take (i + 1)) = normStep (normF (cl.take i)) c := by
      unfold normF
      rw [List.take_add_one, hc, List.foldl_append]; rfl
    have hcn : @Ne Nat nc I := hoff _ (.head _)
    have hcn2 : @Ne Nat cs I := hoff _ (.tail _ (.head _))
    have hne' : @Ne Nat nc cs := hne
    rw [hst]
    unfold normF at *
    generalize (cl.take i).foldl normStep [] = acc at *
    clear F6 N6
    show wpAny _ _ _ _ _ _
    k_fold
    (repeat' (first | (k_unfold; (try dsimp only)) | ((((((fail_if_success (with_reducible show wpAny _ _ (exec (Stmt.While _ _ _ _) _) _ _ _)); (fail_if_success (with_reducible show wpAny _ _ (exec (Stmt.For _ _ _ _ _) _) _ _ _)); (fail_if_success (with_reducible show wpAny _ _ (call (Value.ref _) _ _) _ _ _)); (fail_if_success (with_reducible show wpAny _ _ (eval (Expr.ListComp _ _ _ _) _) _ _ _)))); (fail_if_success (with_reducible show wpAny _ _ (truthy (Value.ref _)) _ _ _)); (fail_if_success (with_reducible show wpAny _ _ (subscriptTail _ _ _ _) _ _ _)))); (first | ((with_reducible show wpAny _ _ (storeName (envOf _ _ _ _ _) _ _) _ _ _); k_here; (with_reducible show wpAny _ _ (storeName (envOf _ _ _ _ _) _ _) _ _ _); k_dflt (refine' stG ?k1 ?k2 ?k3 ?k4 ?_; (case k1 => k_asm); (case k2 => k_asm); (case k3 => exact rfl); (case k4 => exact rfl); k_whole); intro sgH sgT sgM sgE sgD sgF sgN; (try k_sweep)) | (k_here; (with_reducible show wpAny _ _ (eval (Expr.Name _ _) (compEnvC _ _ _ _)) _ _ _); (with_reducible rename Fr _ _ _ _ => kF); k_dflt (refine' cname kF ?k2 ?_ ?k3 ?k4; (case k3 => exact rfl); (case k4 => exact rfl); (case k2 => ((repeat' (first | (with_reducible assumption) | exact if_pos rfl | refine Eq.trans (if_neg (by decide)) ?_ | (refine Eq.trans (stG_at (by with_reducible assumption) (by decide)) ?_) | exact rfl)); done)); k_whole)) | (k_here; (with_reducible show wpAny _ _ (eval (Expr.Name _ _) (envOf _ _ _ _ _)) _ _ _); (with_reducible rename Fr _ _ _ _ => kF); k_dflt (refine' ld kF ?k2 ?_; (case k2 => ((repeat' (first | (with_reducible assumption) | exact if_pos rfl | refine Eq.trans (if_neg (by decide)) ?_ | (refine Eq.trans (stG_at (by with_reducible assumption) (by decide)) ?_) | exact rfl)); done)); k_whole)) | walk1)) | ((((((fail_if_success (with_reducible show wpAny _ _ (exec (Stmt.While _ _ _ _) _) _ _ _)); (fail_if_success (with_reducible show wpAny _ _ (exec (Stmt.For _ _ _ _ _) _) _ _ _)); (fail_if_success (with_reducible show wpAny _ _ (call (Value.ref _) _ _) _ _ _)); (fail_if_success (with_reducible show wpAny _ _ (eval (Expr.ListComp _ _ _ _) _) _ _ _)))); (fail_if_success (with_reducible show wpAny _ _ (truthy (Value.ref _)) _ _ _)); (fail_if_success (with_reducible show wpAny _ _ (subscriptTail _ _ _ _) _ _ _)))); dsimp only; (((((fail_if_success (with_reducible show wpAny _ _ (exec (Stmt.While _ _ _ _) _) _ _ _)); (fail_if_success (with_reducible show wpAny _ _ (exec (Stmt.For _ _ _ _ _) _) _ _ _)); (fail_if_success (with_reducible show wpAny _ _ (call (Value.ref _) _ _) _ _ _)); (fail_if_success (with_reducible show wpAny _ _ (eval (Expr.ListComp _ _ _ _) _) _ _ _)))); (fail_if_success (with_reducible show wpAny _ _ (truthy (Value.ref _)) _ _ _)); (fail_if_success (with_reducible show wpAny _ _ (subscriptTail _ _ _ _) _ _ _)))); (first | ((with_reducible show wpAny _ _ (storeName (envOf _ _ _ _ _) _ _) _ _ _); k_here; (with_reducible show wpAny _ _ (storeName (envOf _ _ _ _ _) _ _) _ _ _); k_dflt (refine' stG ?k1 ?k2 ?k3 ?k4 ?_; (case k1 => k_asm); (case k2 => k_asm); (case k3 => exact rfl); (case k4 => exact rfl); k_whole); intro sgH sgT sgM sgE sgD sgF sgN; (try k_sweep)) | (k_here; (with_reducible show wpAny _ _ (eval (Expr.Name _ _) (compEnvC _ _ _ _)) _ _ _); (with_reducible rename Fr _ _ _ _ => kF); k_dflt (refine' cname kF ?k2 ?_ ?k3 ?k4; (case k3 => exact rfl); (case k4 => exact rfl); (case k2 => ((repeat' (first | (with_reducible assumption) | exact if_pos rfl | refine Eq.trans (if_neg (by decide)) ?_ | (refine Eq.trans (stG_at (by with_reducible assumption) (by decide)) ?_) | exact rfl)); done)); k_whole)) | (k_here; (with_reducible show wpAny _ _ (eval (Expr.Name _ _) (envOf _ _ _ _ _)) _ _ _); (with_reducible rename Fr _ _ _ _ => kF); k_dflt (refine' ld kF ?k2 ?_; (case k2 => ((repeat' (first | (with_reducible assumption) | exact if_pos rfl | refine Eq.trans (if_neg (by decide)) ?_ | (refine Eq.trans (stG_at (by with_reducible assumption) (by decide)) ?_) | exact rfl)); done)); k_whole)) | walk1)) | fail "no step"))
    rename Fr _ _ _ _ => F8
    rename News _ _ _ _ => N8
    have hcl100 : c.length ≤ 100 := hall c (List.mem_of_getElem? hc)
    refine P.truthy_str (by omega) ?_
    have fin : ∀ h' m' all tk' ws' n' acc', Fr s.heap L h' m' → News s.heap L h' all → (I, oI) ∈ all → (nc, listOf ws'.toArray n') ∈ all → (cs, listOf vs.toArray 0) ∈ all → StrsAre ws' acc' → normStep acc c = acc' →
        m' (Str.ofString "new_comps") = some (.ref nc) ∧ m' (Str.ofString "comps") = some (.ref cs) ∧ m' (Str.ofString "initial_slashes") = some (.str (Str.ofString "/") v) ∧ m' (Str.ofString "dot") = some (.str (Str.ofString ".") u1) ∧ m' (Str.ofString "dotdot") = some (.str (Str.ofString "..") u2) ∧ m' (Str.ofString "sep") = some (.str (Str.ofString "/") u3) →
        TurnQ s.heap L I oI { heap := h5, gens := s.gens, drawn := s.drawn, toks := tk0, os := s.os } (fun m news => ∃ ws n, news = [(nc, W.listOf ws.toArray n), (cs, W.listOf vs.toArray 0)] ∧ StrsAre ws (normStep acc c) ∧ (∀ c_1 ∈ normStep acc c, (c_1 != Str.ofString "..") = true) ∧
          m (Str.ofString "new_comps") = some (Value.ref nc) ∧ m (Str.ofString "comps") = some (Value.ref cs) ∧ m (Str.ofString "initial_slashes") = some (Value.str (Str.ofString "/") v) ∧ m (Str.ofString "dot") = some (Value.str (Str.ofString ".") u1) ∧ m (Str.ofString "dotdot") = some (Value.str (Str.ofString "..") u2) ∧ m (Str.ofString "sep") = some (Value.str (Str.ofString "/") u3))
          { heap := h', gens := s.gens, drawn := s.drawn, toks := tk', os := s.os } := by
      intro h' m' all tk' ws' n' acc' F' N' e1 e2 e3 hw' ha hm
      refine ⟨h', tk', m', _, rfl, F', fun p hp => N' p ?_, fun p hp => ?_, ws', n', rfl, ha ▸ hw', normStep_dd hdd, hm⟩
      · rcases List.mem_cons.mp hp with rfl | hp
        · exact e1
        · rcases List.mem_cons.mp hp with rfl | hp
          · exact e2
          · rw [List.mem_singleton.mp hp]; exact e3
      · rcases List.mem_cons.mp hp with rfl | hp
        · exact hcn
        · rw [List.mem_singleton.mp hp]; exact hcn2
    by_cases hc0 : (c.length : Int) = 0
    · rw [show ((c.length : Int) != 0) = false from by rw [hc0]; rfl]
      (repeat' (first | (k_unfold; (try dsimp only)) | ((((((fail_if_success (with_reducible show wpAny _ _ (exec (Stmt.While _ _ _ _) _) _ _ _)); (fail_if_success (with_reducible show wpAny _ _ (exec (Stmt.For _ _ _ _ _) _) _ _ _)); (fail_if_success (with_reducible show wpAny _ _ (call (Value.ref _) _ _) _ _ _)); (fail_if_success (with_reducible show wpAny _ _ (eval (Expr.ListComp _ _ _ _) _) _ _ _)))); (fail_if_success (with_reducible show wpAny _ _ (truthy (Value.ref _)) _ _ _)); (fail_if_success (with_reducible show wpAny _ _ (subscriptTail _ _ _ _) _ _ _)))); (first | ((with_reducible show wpAny _ _ (storeName (envOf _ _ _ _ _) _ _) _ _ _); k_here; (with_reducible show wpAny _ _ (storeName (envOf _ _ _ _ _) _ _) _ _ _); k_dflt (refine' stG ?k1 ?k2 ?k3 ?k4 ?_; (case k1 => k_asm); (case k2 => k_asm); (case k3 => exact rfl); (case k4 => exact rfl); k_whole); intro sgH sgT sgM sgE sgD sgF sgN; (try k_sweep)) | (k_here; (with_reducible show wpAny _ _ (eval (Expr.Name _ _) (compEnvC _ _ _ _)) _ _ _); (with_reducible rename Fr _ _ _ _ => kF); k_dflt (refine' cname kF ?k2 ?_ ?k3 ?k4; (case k3 => exact rfl); (case k4 => exact rfl); (case k2 => ((repeat' (first | (with_reducible assumption) | exact if_pos rfl | refine Eq.trans (if_neg (by decide)) ?_ | (refine Eq.trans (stG_at (by with_reducible assumption) (by decide)) ?_) | exact rfl)); done)); k_whole)) | (k_here; (with_reducible show wpAny _ _ (eval (Expr.Name _ _) (envOf _ _ _ _ _)) _ _ _); (with_reducible rename Fr _ _ _ _ => kF); k_dflt (refine' ld kF ?k2 ?_; (case k2 => ((repeat' (first | (with_reducible assumption) | exact if_pos rfl | refine Eq.trans (if_neg (by decide)) ?_ | (refine Eq.trans (stG_at (by with_reducible assumption) (by decide)) ?_) | exact rfl)); done)); k_whole)) | walk1)) | ((((((fail_if_success (with_reducible show wpAny _ _ (exec (Stmt.While _ _ _ _) _) _ _ _)); (fail_if_success (with_reducible show wpAny _ _ (exec (Stmt.For _ _ _ _ _) _) _ _ _)); (fail_if_success (with_reducible show wpAny _ _ (call (Value.ref _) _ _) _ _ _)); (fail_if_success (with_reducible show wpAny _ _ (eval (Expr.ListComp _ _ _ _) _) _ _ _)))); (fail_if_success (with_reducible show wpAny _ _ (truthy (Value.ref _)) _ _ _)); (fail_if_success (with_reducible show wpAny _ _ (subscriptTail _ _ _ _) _ _ _)))); dsimp only; (((((fail_if_success (with_reducible show wpAny _ _ (exec (Stmt.While _ _ _ _) _) _ _ _)); (fail_if_success (with_reducible show wpAny _ _ (exec (Stmt.For _ _ _ _ _) _) _ _ _)); (fail_if_success (with_reducible show wpAny _ _ (call (Value.ref _) _ _) _ _ _)); (fail_if_success (with_reducible show wpAny _ _ (eval (Expr.ListComp _ _ _ _) _) _ _ _)))); (fail_if_success (with_reducible show wpAny _ _ (truthy (Value.ref _)) _ _ _)); (fail_if_success (with_reducible show wpAny _ _ (subscriptTail _ _ _ _) _ _ _)))); (first | ((with_reducible show wpAny _ _ (storeName (envOf _ _ _ _ _) _ _) _ _ _); k_here; (with_reducible show wpAny _ _ (storeName (envOf _ _ _ _ _) _ _) _ _ _); k_dflt (refine' stG ?k1 ?k2 ?k3 ?k4 ?_; (case k1 => k_asm); (case k2 => k_asm); (case k3 => exact rfl); (case k4 => exact rfl); k_whole); intro sgH sgT sgM sgE sgD sgF sgN; (try k_sweep)) | (k_here; (with_reducible show wpAny _ _ (eval (Expr.Name _ _) (compEnvC _ _ _ _)) _ _ _); (with_reducible rename Fr _ _ _ _ => kF); k_dflt (refine' cname kF ?k2 ?_ ?k3 ?k4; (case k3 => exact rfl); (case k4 => exact rfl); (case k2 => ((repeat' (first | (with_reducible assumption) | exact if_pos rfl | refine Eq.trans (if_neg (by decide)) ?_ | (refine Eq.trans (stG_at (by with_reducible assumption) (by decide)) ?_) | exact rfl)); done)); k_whole)) | (k_here; (with_reducible show wpAny _ _ (eval (Expr.Name _ _) (envOf _ _ _ _ _)) _ _ _); (with_reducible rename Fr _ _ _ _ => kF); k_dflt (refine' ld kF ?k2 ?_; (case k2 => ((repeat' (first | (with_reducible assumption) | exact if_pos rfl | refine Eq.trans (if_neg (by decide)) ?_ | (refine Eq.trans (stG_at (by with_reducible assumption) (by decide)) ?_) | exact rfl)); done)); k_whole)) | walk1)) | fail "no step"))
      rename Fr _ _ _ _ => F8
      exact fin _ _ _ _ ws n acc F8 N8 (by k_mem) (by k_mem) (by k_mem) hw (by unfold normStep; rw [if_pos hc0]) ⟨by ((repeat' (first | (with_reducible assumption) | exact if_pos rfl | refine Eq.trans (if_neg (by decide)) ?_ | (refine Eq.trans (stG_at (by with_reducible assumption) (by decide)) ?_) | exact rfl)); done), by ((repeat' (first | (with_reducible assumption) | exact if_pos rfl | refine Eq.trans (if_neg (by decide)) ?_ | (refine Eq.trans (stG_at (by with_reducible assumption) (by decide)) ?_) | exact rfl)); done), by ((repeat' (first | (with_reducible assumption) | exact if_pos rfl | refine Eq.trans (if_neg (by decide)) ?_ | (refine Eq.trans (stG_at (by with_reducible assumption) (by decide)) ?_) | exact rfl)); done), by ((repeat' (first | (with_reducible assumption) | exact if_pos rfl | refine Eq.trans (if_neg (by decide)) ?_ | (refine Eq.trans (stG_at (by with_reducible assumption) (by decide)) ?_) | exact rfl)); done), by ((repeat' (first | (with_reducible assumption) | exact if_pos rfl | refine Eq.trans (if_neg (by decide)) ?_ | (refine Eq.trans (stG_at (by with_reducible assumption) (by decide)) ?_) | exact rfl)); done), by ((repeat' (first | (with_reducible assumption) | exact if_pos rfl | refine Eq.trans (if_neg (by decide)) ?_ | (refine Eq.trans (stG_at (by with_reducible assumption) (by decide)) ?_) | exact rfl)); done)⟩
    · rw [show ((c.length : Int) != 0) = true from by simpa using fun e => hc0 (by rw [e]; rfl)]
      (repeat' (first | (k_unfold; (try dsimp only)) | ((((((fail_if_success (with_reducible show wpAny _ _ (exec (Stmt.While _ _ _ _) _) _ _ _)); (fail_if_success (with_reducible show wpAny _ _ (exec (Stmt.For _ _ _ _ _) _) _ _ _)); (fail_if_success (with_reducible show wpAny _ _ (call (Value.ref _) _ _) _ _ _)); (fail_if_success (with_reducible show wpAny _ _ (eval (Expr.ListComp _ _ _ _) _) _ _ _)))); (fail_if_success (with_reducible show wpAny _ _ (truthy (Value.ref _)) _ _ _)); (fail_if_success (with_reducible show wpAny _ _ (subscriptTail _ _ _ _) _ _ _)))); (first | ((with_reducible show wpAny _ _ (storeName (envOf _ _ _ _ _) _ _) _ _ _); k_here; (with_reducible show wpAny _ _ (storeName (envOf _ _ _ _ _) _ _) _ _ _); k_dflt (refine' stG ?k1 ?k2 ?k3 ?k4 ?_; (case k1 => k_asm); (case k2 => k_asm); (case k3 => exact rfl); (case k4 => exact rfl); k_whole); intro sgH sgT sgM sgE sgD sgF sgN; (try k_sweep)) | (k_here; (with_reducible show wpAny _ _ (eval (Expr.Name _ _) (compEnvC _ _ _ _)) _ _ _); (with_reducible rename Fr _ _ _ _ => kF); k_dflt (refine' cname kF ?k2 ?_ ?k3 ?k4; (case k3 => exact rfl); (case k4 => exact rfl); (case k2 => ((repeat' (first | (with_reducible assumption) | exact if_pos rfl | refine Eq.trans (if_neg (by decide)) ?_ | (refine Eq.trans (stG_at (by with_reducible assumption) (by decide)) ?_) | exact rfl)); done)); k_whole)) | (k_here; (with_reducible show wpAny _ _ (eval (Expr.Name _ _) (envOf _ _ _ _ _)) _ _ _); (with_reducible rename Fr _ _ _ _ => kF); k_dflt (refine' ld kF ?k2 ?_; (case k2 => ((repeat' (first | (with_reducible assumption) | exact if_pos rfl | refine Eq.trans (if_neg (by decide)) ?_ | (refine Eq.trans (stG_at (by with_reducible assumption) (by decide)) ?_) | exact rfl)); done)); k_whole)) | walk1)) | ((((((fail_if_success (with_reducible show wpAny _ _ (exec (Stmt.While _ _ _ _) _) _ _ _)); (fail_if_success (with_reducible show wpAny _ _ (exec (Stmt.For _ _ _ _ _) _) _ _ _)); (fail_if_success (with_reducible show wpAny _ _ (call (Value.ref _) _ _) _ _ _)); (fail_if_success (with_reducible show wpAny _ _ (eval (Expr.ListComp _ _ _ _) _) _ _ _)))); (fail_if_success (with_reducible show wpAny _ _ (truthy (Value.ref _)) _ _ _)); (fail_if_success (with_reducible show wpAny _ _ (subscriptTail _ _ _ _) _ _ _)))); dsimp only; (((((fail_if_success (with_reducible show wpAny _ _ (exec (Stmt.While _ _ _ _) _) _ _ _)); (fail_if_success (with_reducible show wpAny _ _ (exec (Stmt.For _ _ _ _ _) _) _ _ _)); (fail_if_success (with_reducible show wpAny _ _ (call (Value.ref _) _ _) _ _ _)); (fail_if_success (with_reducible show wpAny _ _ (eval (Expr.ListComp _ _ _ _) _) _ _ _)))); (fail_if_success (with_reducible show wpAny _ _ (truthy (Value.ref _)) _ _ _)); (fail_if_success (with_reducible show wpAny _ _ (subscriptTail _ _ _ _) _ _ _)))); (first | ((with_reducible show wpAny _ _ (storeName (envOf _ _ _ _ _) _ _) _ _ _); k_here; (with_reducible show wpAny _ _ (storeName (envOf _ _ _ _ _) _ _) _ _ _); k_dflt (refine' stG ?k1 ?k2 ?k3 ?k4 ?_; (case k1 => k_asm); (case k2 => k_asm); (case k3 => exact rfl); (case k4 => exact rfl); k_whole); intro sgH sgT sgM sgE sgD sgF sgN; (try k_sweep)) | (k_here; (with_reducible show wpAny _ _ (eval (Expr.Name _ _) (compEnvC _ _ _ _)) _ _ _); (with_reducible rename Fr _ _ _ _ => kF); k_dflt (refine' cname kF ?k2 ?_ ?k3 ?k4; (case k3 => exact rfl); (case k4 => exact rfl); (case k2 => ((repeat' (first | (with_reducible assumption) | exact if_pos rfl | refine Eq.trans (if_neg (by decide)) ?_ | (refine Eq.trans (stG_at (by with_reducible assumption) (by decide)) ?_) | exact rfl)); done)); k_whole)) | (k_here; (with_reducible show wpAny _ _ (eval (Expr.Name _ _) (envOf _ _ _ _ _)) _ _ _); (with_reducible rename Fr _ _ _ _ => kF); k_dflt (refine' ld kF ?k2 ?_; (case k2 => ((repeat' (first | (with_reducible assumption) | exact if_pos rfl | refine Eq.trans (if_neg (by decide)) ?_ | (refine Eq.trans (stG_at (by with_reducible assumption) (by decide)) ?_) | exact rfl)); done)); k_whole)) | walk1)) | fail "no step"))
      · rename ((c == _) = true) => hd1
        rename Fr _ _ _ _ => F8
        exact fin _ _ _ _ ws n acc F8 N8 (by k_mem) (by k_mem) (by k_mem) hw (by unfold normStep; rw [if_neg hc0, if_pos hd1]) ⟨by ((repeat' (first | (with_reducible assumption) | exact if_pos rfl | refine Eq.trans (if_neg (by decide)) ?_ | (refine Eq.trans (stG_at (by with_reducible assumption) (by decide)) ?_) | exact rfl)); done), by ((repeat' (first | (with_reducible assumption) | exact if_pos rfl | refine Eq.trans (if_neg (by decide)) ?_ | (refine Eq.trans (stG_at (by with_reducible assumption) (by decide)) ?_) | exact rfl)); done), by ((repeat' (first | (with_reducible assumption) | exact if_pos rfl | refine Eq.trans (if_neg (by decide)) ?_ | (refine Eq.trans (stG_at (by with_reducible assumption) (by decide)) ?_) | exact rfl)); done), by ((repeat' (first | (with_reducible assumption) | exact if_pos rfl | refine Eq.trans (if_neg (by decide)) ?_ | (refine Eq.trans (stG_at (by with_reducible assumption) (by decide)) ?_) | exact rfl)); done), by ((repeat' (first | (with_reducible assumption) | exact if_pos rfl | refine Eq.trans (if_neg (by decide)) ?_ | (refine Eq.trans (stG_at (by with_reducible assumption) (by decide)) ?_) | exact rfl)); done), by ((repeat' (first | (with_reducible assumption) | exact if_pos rfl | refine Eq.trans (if_neg (by decide)) ?_ | (refine Eq.trans (stG_at (by with_reducible assumption) (by decide)) ?_) | exact rfl)); done)⟩
      · rename ((c == _) = false) => hd1
        rename ((c != _) = true) => hd2
        rename Fr _ _ _ _ => F9
        rename News _ _ _ _ => N9
        refine fin _ _ _ _ (ws ++ [.str c tc]) (n + 1) (acc ++ [c]) F9 N9 (by k_mem) ?_ (by k_mem) (strs_app hw (.cons _ _ .nil)) (by unfold normStep; rw [if_neg hc0, if_neg (by rw [hd1]; decide), if_pos hd2]) ⟨by ((repeat' (first | (with_reducible assumption) | exact if_pos rfl | refine Eq.trans (if_neg (by decide)) ?_ | (refine Eq.trans (stG_at (by with_reducible assumption) (by decide)) ?_) | exact rfl)); done), by ((repeat' (first | (with_reducible assumption) | exact if_pos rfl | refine Eq.trans (if_neg (by decide)) ?_ | (refine Eq.trans (stG_at (by with_reducible assumption) (by decide)) ?_) | exact rfl)); done), by ((repeat' (first | (with_reducible assumption) | exact if_pos rfl | refine Eq.trans (if_neg (by decide)) ?_ | (refine Eq.trans (stG_at (by with_reducible assumption) (by decide)) ?_) | exact rfl)); done), by ((repeat' (first | (with_reducible assumption) | exact if_pos rfl | refine Eq.trans (if_neg (by decide)) ?_ | (refine Eq.trans (stG_at (by with_reducible assumption) (by decide)) ?_) | exact rfl)); done), by ((repeat' (first | (with_reducible assumption) | exact if_pos rfl | refine Eq.trans (if_neg (by decide)) ?_ | (refine Eq.trans (stG_at (by with_reducible assumption) (by decide)) ?_) | exact rfl)); done), by ((repeat' (first | (with_reducible assumption) | exact if_pos rfl | refine Eq.trans (if_neg (by decide)) ?_ | (refine Eq.trans (stG_at (by with_reducible assumption) (by decide)) ?_) | exact rfl)); done)⟩
        rw [show (ws ++ [Value.str c tc]).toArray = ws.toArray.push (Value.str c tc) from by simp]
        k_mem
      · rename ((c == _) = false) => hd1
        rename ((c != _) = false) => hd2
        have hst' : normStep acc c = acc.dropLast := by unfold normStep; rw [if_neg hc0, if_neg (by rw [hd1]; decide), if_neg (by rw [hd2]; decide)]
        have hcc := List.eq_nil_or_concat acc
        simp only [List.concat_eq_append] at hcc
        rcases hcc with rfl | ⟨acc', y, rfl⟩
        · cases hw
          refine wpAny_truthy_list (PySem.IsL.isList (N8 (nc, _) (.tail _ (.head _))).1) (by decide) ?_
          (repeat' (first | (k_unfold; (try dsimp only)) | ((((((fail_if_success (with_reducible show wpAny _ _ (exec (Stmt.While _ _ _ _) _) _ _ _)); (fail_if_success (with_reducible show wpAny _ _ (exec (Stmt.For _ _ _ _ _) _) _ _ _)); (fail_if_success (with_reducible show wpAny _ _ (call (Value.ref _) _ _) _ _ _)); (fail_if_success (with_reducible show wpAny _ _ (eval (Expr.ListComp _ _ _ _) _) _ _ _)))); (fail_if_success (with_reducible show wpAny _ _ (truthy (Value.ref _)) _ _ _)); (fail_if_success (with_reducible show wpAny _ _ (subscriptTail _ _ _ _) _ _ _)))); (first | ((with_reducible show wpAny _ _ (storeName (envOf _ _ _ _ _) _ _) _ _ _); k_here; (with_reducible show wpAny _ _ (storeName (envOf _ _ _ _ _) _ _) _ _ _); k_dflt (refine' stG ?k1 ?k2 ?k3 ?k4 ?_; (case k1 => k_asm); (case k2 => k_asm); (case k3 => exact rfl); (case k4 => exact rfl); k_whole); intro sgH sgT sgM sgE sgD sgF sgN; (try k_sweep)) | (k_here; (with_reducible show wpAny _ _ (eval (Expr.Name _ _) (compEnvC _ _ _ _)) _ _ _); (with_reducible rename Fr _ _ _ _ => kF); k_dflt (refine' cname kF ?k2 ?_ ?k3 ?k4; (case k3 => exact rfl); (case k4 => exact rfl); (case k2 => ((repeat' (first | (with_reducible assumption) | exact if_pos rfl | refine Eq.trans (if_neg (by decide)) ?_ | (refine Eq.trans (stG_at (by with_reducible assumption) (by decide)) ?_) | exact rfl)); done)); k_whole)) | (k_here; (with_reducible show wpAny _ _ (eval (Expr.Name _ _) (envOf _ _ _ _ _)) _ _ _); (with_reducible rename Fr _ _ _ _ => kF); k_dflt (refine' ld kF ?k2 ?_; (case k2 => ((repeat' (first | (with_reducible assumption) | exact if_pos rfl | refine Eq.trans (if_neg (by decide)) ?_ | (refine Eq.trans (stG_at (by with_reducible assumption) (by decide)) ?_) | exact rfl)); done)); k_whole)) | walk1)) | ((((((fail_if_success (with_reducible show wpAny _ _ (exec (Stmt.While _ _ _ _) _) _ _ _)); (fail_if_success (with_reducible show wpAny _ _ (exec (Stmt.For _ _ _ _ _) _) _ _ _)); (fail_if_success (with_reducible show wpAny _ _ (call (Value.ref _) _ _) _ _ _)); (fail_if_success (with_reducible show wpAny _ _ (eval (Expr.ListComp _ _ _ _) _) _ _ _)))); (fail_if_success (with_reducible show wpAny _ _ (truthy (Value.ref _)) _ _ _)); (fail_if_success (with_reducible show wpAny _ _ (subscriptTail _ _ _ _) _ _ _)))); dsimp only; (((((fail_if_success (with_reducible show wpAny _ _ (exec (Stmt.While _ _ _ _) _) _ _ _)); (fail_if_success (with_reducible show wpAny _ _ (exec (Stmt.For _ _ _ _ _) _) _ _ _)); (fail_if_success (with_reducible show wpAny _ _ (call (Value.ref _) _ _) _ _ _)); (fail_if_success (with_reducible show wpAny _ _ (eval (Expr.ListComp _ _ _ _) _) _ _ _)))); (fail_if_success (with_reducible show wpAny _ _ (truthy (Value.ref _)) _ _ _)); (fail_if_success (with_reducible show wpAny _ _ (subscriptTail _ _ _ _) _ _ _)))); (first | ((with_reducible show wpAny _ _ (storeName (envOf _ _ _ _ _) _ _) _ _ _); k_here; (with_reducible show wpAny _ _ (storeName (envOf _ _ _ _ _) _ _) _ _ _); k_dflt (refine' stG ?k1 ?k2 ?k3 ?k4 ?_; (case k1 => k_asm); (case k2 => k_asm); (case k3 => exact rfl); (case k4 => exact rfl); k_whole); intro sgH sgT sgM sgE sgD sgF sgN; (try k_sweep)) | (k_here; (with_reducible show wpAny _ _ (eval (Expr.Name _ _) (compEnvC _ _ _ _)) _ _ _); (with_reducible rename Fr _ _ _ _ => kF); k_dflt (refine' cname kF ?k2 ?_ ?k3 ?k4; (case k3 => exact rfl); (case k4 => exact rfl); (case k2 => ((repeat' (first | (with_reducible assumption) | exact if_pos rfl | refine Eq.trans (if_neg (by decide)) ?_ | (refine Eq.trans (stG_at (by with_reducible assumption) (by decide)) ?_) | exact rfl)); done)); k_whole)) | (k_here; (with_reducible show wpAny _ _ (eval (Expr.Name _ _) (envOf _ _ _ _ _)) _ _ _); (with_reducible rename Fr _ _ _ _ => kF); k_dflt (refine' ld kF ?k2 ?_; (case k2 => ((repeat' (first | (with_reducible assumption) | exact if_pos rfl | refine Eq.trans (if_neg (by decide)) ?_ | (refine Eq.trans (stG_at (by with_reducible assumption) (by decide)) ?_) | exact rfl)); done)); k_whole)) | walk1)) | fail "no step"))
          refine wpAny_truthy_list (PySem.IsL.isList (N8 (nc, _) (.tail _ (.head _))).1) (by decide) ?_
          (repeat' (first | (k_unfold; (try dsimp only)) | ((((((fail_if_success (with_reducible show wpAny _ _ (exec (Stmt.While _ _ _ _) _) _ _ _)); (fail_if_success (with_reducible show wpAny _ _ (exec (Stmt.For _ _ _ _ _) _) _ _ _)); (fail_if_success (with_reducible show wpAny _ _ (call (Value.ref _) _ _) _ _ _)); (fail_if_success (with_reducible show wpAny _ _ (eval (Expr.ListComp _ _ _ _) _) _ _ _)))); (fail_if_success (with_reducible show wpAny _ _ (truthy (Value.ref _)) _ _ _)); (fail_if_success (with_reducible show wpAny _ _ (subscriptTail _ _ _ _) _ _ _)))); (first | ((with_reducible show wpAny _ _ (storeName (envOf _ _ _ _ _) _ _) _ _ _); k_here; (with_reducible show wpAny _ _ (storeName (envOf _ _ _ _ _) _ _) _ _ _); k_dflt (refine' stG ?k1 ?k2 ?k3 ?k4 ?_; (case k1 => k_asm); (case k2 => k_asm); (case k3 => exact rfl); (case k4 => exact rfl); k_whole); intro sgH sgT sgM sgE sgD sgF sgN; (try k_sweep)) | (k_here; (with_reducible show wpAny _ _ (eval (Expr.Name _ _) (compEnvC _ _ _ _)) _ _ _); (with_reducible rename Fr _ _ _ _ => kF); k_dflt (refine' cname kF ?k2 ?_ ?k3 ?k4; (case k3 => exact rfl); (case k4 => exact rfl); (case k2 => ((repeat' (first | (with_reducible assumption) | exact if_pos rfl | refine Eq.trans (if_neg (by decide)) ?_ | (refine Eq.trans (stG_at (by with_reducible assumption) (by decide)) ?_) | exact rfl)); done)); k_whole)) | (k_here; (with_reducible show wpAny _ _ (eval (Expr.Name _ _) (envOf _ _ _ _ _)) _ _ _); (with_reducible rename Fr _ _ _ _ => kF); k_dflt (refine' ld kF ?k2 ?_; (case k2 => ((repeat' (first | (with_reducible assumption) | exact if_pos rfl | refine Eq.trans (if_neg (by decide)) ?_ | (refine Eq.trans (stG_at (by with_reducible assumption) (by decide)) ?_) | exact rfl)); done)); k_whole)) | walk1)) | ((((((fail_if_success (with_reducible show wpAny _ _ (exec (Stmt.While _ _ _ _) _) _ _ _)); (fail_if_success (with_reducible show wpAny _ _ (exec (Stmt.For _ _ _ _ _) _) _ _ _)); (fail_if_success (with_reducible show wpAny _ _ (call (Value.ref _) _ _) _ _ _)); (fail_if_success (with_reducible show wpAny _ _ (eval (Expr.ListComp _ _ _ _) _) _ _ _)))); (fail_if_success (with_reducible show wpAny _ _ (truthy (Value.ref _)) _ _ _)); (fail_if_success (with_reducible show wpAny _ _ (subscriptTail _ _ _ _) _ _ _)))); dsimp only; (((((fail_if_success (with_reducible show wpAny _ _ (exec (Stmt.While _ _ _ _) _) _ _ _)); (fail_if_success (with_reducible show wpAny _ _ (exec (Stmt.For _ _ _ _ _) _) _ _ _)); (fail_if_success (with_reducible show wpAny _ _ (call (Value.ref _) _ _) _ _ _)); (fail_if_success (with_reducible show wpAny _ _ (eval (Expr.ListComp _ _ _ _) _) _ _ _)))); (fail_if_success (with_reducible show wpAny _ _ (truthy (Value.ref _)) _ _ _)); (fail_if_success (with_reducible show wpAny _ _ (subscriptTail _ _ _ _) _ _ _)))); (first | ((with_reducible show wpAny _ _ (storeName (envOf _ _ _ _ _) _ _) _ _ _); k_here; (with_reducible show wpAny _ _ (storeName (envOf _ _ _ _ _) _ _) _ _ _); k_dflt (refine' stG ?k1 ?k2 ?k3 ?k4 ?_; (case k1 => k_asm); (case k2 => k_asm); (case k3 => exact rfl); (case k4 => exact rfl); k_whole); intro sgH sgT sgM sgE sgD sgF sgN; (try k_sweep)) | (k_here; (with_reducible show wpAny _ _ (eval (Expr.Name _ _) (compEnvC _ _ _ _)) _ _ _); (with_reducible rename Fr _ _ _ _ => kF); k_dflt (refine' cname kF ?k2 ?_ ?k3 ?k4; (case k3 => exact rfl); (case k4 => exact rfl); (case k2 => ((repeat' (first | (with_reducible assumption) | exact if_pos rfl | refine Eq.trans (if_neg (by decide)) ?_ | (refine Eq.trans (stG_at (by with_reducible assumption) (by decide)) ?_) | exact rfl)); done)); k_whole)) | (k_here; (with_reducible show wpAny _ _ (eval (Expr.Name _ _) (envOf _ _ _ _ _)) _ _ _); (with_reducible rename Fr _ _ _ _ => kF); k_dflt (refine' ld kF ?k2 ?_; (case k2 => ((repeat' (first | (with_reducible assumption) | exact if_pos rfl | refine Eq.trans (if_neg (by decide)) ?_ | (refine Eq.trans (stG_at (by with_reducible assumption) (by decide)) ?_) | exact rfl)); done)); k_whole)) | walk1)) | fail "no step"))
          rename Fr _ _ _ _ => F9
          exact fin _ _ _ _ [] n [] F9 N8 (by k_mem) (by k_mem) (by k_mem) .nil hst' ⟨by ((repeat' (first | (with_reducible assumption) | exact if_pos rfl | refine Eq.trans (if_neg (by decide)) ?_ | (refine Eq.trans (stG_at (by with_reducible assumption) (by decide)) ?_) | exact rfl)); done), by ((repeat' (first | (with_reducible assumption) | exact if_pos rfl | refine Eq.trans (if_neg (by decide)) ?_ | (refine Eq.trans (stG_at (by with_reducible assumption) (by decide)) ?_) | exact rfl)); done), by ((repeat' (first | (with_reducible assumption) | exact if_pos rfl | refine Eq.trans (if_neg (by decide)) ?_ | (refine Eq.trans (stG_at (by with_reducible assumption) (by decide)) ?_) | exact rfl)); done), by ((repeat' (first | (with_reducible assumption) | exact if_pos rfl | refine Eq.trans (if_neg (by decide)) ?_ | (refine Eq.trans (stG_at (by with_reducible assumption) (by decide)) ?_) | exact rfl)); done), by ((repeat' (first | (with_reducible assumption) | exact if_pos rfl | refine Eq.trans (if_neg (by decide)) ?_ | (refine Eq.trans (stG_at (by with_reducible assumption) (by decide)) ?_) | exact rfl)); done), by ((repeat' (first | (with_reducible assumption) | exact if_pos rfl | refine Eq.trans (if_neg (by decide)) ?_ | (refine Eq.trans (stG_at (by with_reducible assumption) (by decide)) ?_) | exact rfl)); done)⟩
        · obtain ⟨us, ty, rfl, hu⟩ := strs_split hw
          have hy : (y == Str.ofString "..") = false := by
            have := hdd y (List.mem_append.mpr (.inr (.head _)))
            cases h : (y == Str.ofString "..")
            · rfl
            · rw [bne, h] at this; cases this
          have hsz : (us ++ [Value.str y ty]).length ≤ 100 := by
            simp only [List.length_nil] at hln
            omega
          have hle1 : (us ++ [Value.str y ty]).length = us.length + 1 := by simp
          have hfit : ((us ++ [Value.str y ty]).toArray.size : Int) < 2 ^ 63 := by
            rw [List.size_toArray]; omega
          refine wpAny_truthy_list (PySem.IsL.isList (N8 (nc, _) (.tail _ (.head _))).1) hfit ?_
          rw [show (!(us ++ [Value.str y ty]).toArray.isEmpty) = true from by simp]
          (repeat' (first | (k_unfold; (try dsimp only)) | ((((((fail_if_success (with_reducible show wpAny _ _ (exec (Stmt.While _ _ _ _) _) _ _ _)); (fail_if_success (with_reducible show wpAny _ _ (exec (Stmt.For _ _ _ _ _) _) _ _ _)); (fail_if_success (with_reducible show wpAny _ _ (call (Value.ref _) _ _) _ _ _)); (fail_if_success (with_reducible show wpAny _ _ (eval (Expr.ListComp _ _ _ _) _) _ _ _)))); (fail_if_success (with_reducible show wpAny _ _ (truthy (Value.ref _)) _ _ _)); (fail_if_success (with_reducible show wpAny _ _ (subscriptTail _ _ _ _) _ _ _)))); (first | ((with_reducible show wpAny _ _ (storeName (envOf _ _ _ _ _) _ _) _ _ _); k_here; (with_reducible show wpAny _ _ (storeName (envOf _ _ _ _ _) _ _) _ _ _); k_dflt (refine' stG ?k1 ?k2 ?k3 ?k4 ?_; (case k1 => k_asm); (case k2 => k_asm); (case k3 => exact rfl); (case k4 => exact rfl); k_whole); intro sgH sgT sgM sgE sgD sgF sgN; (try k_sweep)) | (k_here; (with_reducible show wpAny _ _ (eval (Expr.Name _ _) (compEnvC _ _ _ _)) _ _ _); (with_reducible rename Fr _ _ _ _ => kF); k_dflt (refine' cname kF ?k2 ?_ ?k3 ?k4; (case k3 => exact rfl); (case k4 => exact rfl); (case k2 => ((repeat' (first | (with_reducible assumption) | exact if_pos rfl | refine Eq.trans (if_neg (by decide)) ?_ | (refine Eq.trans (stG_at (by with_reducible assumption) (by decide)) ?_) | exact rfl)); done)); k_whole)) | (k_here; (with_reducible show wpAny _ _ (eval (Expr.Name _ _) (envOf _ _ _ _ _)) _ _ _); (with_reducible rename Fr _ _ _ _ => kF); k_dflt (refine' ld kF ?k2 ?_; (case k2 => ((repeat' (first | (with_reducible assumption) | exact if_pos rfl | refine Eq.trans (if_neg (by decide)) ?_ | (refine Eq.trans (stG_at (by with_reducible assumption) (by decide)) ?_) | exact rfl)); done)); k_whole)) | walk1)) | ((((((fail_if_success (with_reducible show wpAny _ _ (exec (Stmt.While _ _ _ _) _) _ _ _)); (fail_if_success (with_reducible show wpAny _ _ (exec (Stmt.For _ _ _ _ _) _) _ _ _)); (fail_if_success (with_reducible show wpAny _ _ (call (Value.ref _) _ _) _ _ _)); (fail_if_success (with_reducible show wpAny _ _ (eval (Expr.ListComp _ _ _ _) _) _ _ _)))); (fail_if_success (with_reducible show wpAny _ _ (truthy (Value.ref _)) _ _ _)); (fail_if_success (with_reducible show wpAny _ _ (subscriptTail _ _ _ _) _ _ _)))); dsimp only; (((((fail_if_success (with_reducible show wpAny _ _ (exec (Stmt.While _ _ _ _) _) _ _ _)); (fail_if_success (with_reducible show wpAny _ _ (exec (Stmt.For _ _ _ _ _) _) _ _ _)); (fail_if_success (with_reducible show wpAny _ _ (call (Value.ref _) _ _) _ _ _)); (fail_if_success (with_reducible show wpAny _ _ (eval (Expr.ListComp _ _ _ _) _) _ _ _)))); (fail_if_success (with_reducible show wpAny _ _ (truthy (Value.ref _)) _ _ _)); (fail_if_success (with_reducible show wpAny _ _ (subscriptTail _ _ _ _) _ _ _)))); (first | ((with_reducible show wpAny _ _ (storeName (envOf _ _ _ _ _) _ _) _ _ _); k_here; (with_reducible show wpAny _ _ (storeName (envOf _ _ _ _ _) _ _) _ _ _); k_dflt (refine' stG ?k1 ?k2 ?k3 ?k4 ?_; (case k1 => k_asm); (case k2 => k_asm); (case k3 => exact rfl); (case k4 => exact rfl); k_whole); intro sgH sgT sgM sgE sgD sgF sgN; (try k_sweep)) | (k_here; (with_reducible show wpAny _ _ (eval (Expr.Name _ _) (compEnvC _ _ _ _)) _ _ _); (with_reducible rename Fr _ _ _ _ => kF); k_dflt (refine' cname kF ?k2 ?_ ?k3 ?k4; (case k3 => exact rfl); (case k4 => exact rfl); (case k2 => ((repeat' (first | (with_reducible assumption) | exact if_pos rfl | refine Eq.trans (if_neg (by decide)) ?_ | (refine Eq.trans (stG_at (by with_reducible assumption) (by decide)) ?_) | exact rfl)); done)); k_whole)) | (k_here; (with_reducible show wpAny _ _ (eval (Expr.Name _ _) (envOf _ _ _ _ _)) _ _ _); (with_reducible rename Fr _ _ _ _ => kF); k_dflt (refine' ld kF ?k2 ?_; (case k2 => ((repeat' (first | (with_reducible assumption) | exact if_pos rfl | refine Eq.trans (if_neg (by decide)) ?_ | (refine Eq.trans (stG_at (by with_reducible assumption) (by decide)) ?_) | exact rfl)); done)); k_whole)) | walk1)) | fail "no step"))
          refine kim_back (k := -1) (l := us ++ [Value.str y ty]) (x := .str y ty) (n := n) N8 (.tail _ (.head _)) rfl rfl (by decide) (by rw [hle1]; omega) (by decide) (by rw [show (-1 + ((us ++ [Value.str y ty]).length : Int)).toNat = us.length from by rw [hle1]; omega]; simp) ?_
          (repeat' (first | (k_unfold; (try dsimp only)) | ((((((fail_if_success (with_reducible show wpAny _ _ (exec (Stmt.While _ _ _ _) _) _ _ _)); (fail_if_success (with_reducible show wpAny _ _ (exec (Stmt.For _ _ _ _ _) _) _ _ _)); (fail_if_success (with_reducible show wpAny _ _ (call (Value.ref _) _ _) _ _ _)); (fail_if_success (with_reducible show wpAny _ _ (eval (Expr.ListComp _ _ _ _) _) _ _ _)))); (fail_if_success (with_reducible show wpAny _ _ (truthy (Value.ref _)) _ _ _)); (fail_if_success (with_reducible show wpAny _ _ (subscriptTail _ _ _ _) _ _ _)))); (first | ((with_reducible show wpAny _ _ (storeName (envOf _ _ _ _ _) _ _) _ _ _); k_here; (with_reducible show wpAny _ _ (storeName (envOf _ _ _ _ _) _ _) _ _ _); k_dflt (refine' stG ?k1 ?k2 ?k3 ?k4 ?_; (case k1 => k_asm); (case k2 => k_asm); (case k3 => exact rfl); (case k4 => exact rfl); k_whole); intro sgH sgT sgM sgE sgD sgF sgN; (try k_sweep)) | (k_here; (with_reducible show wpAny _ _ (eval (Expr.Name _ _) (compEnvC _ _ _ _)) _ _ _); (with_reducible rename Fr _ _ _ _ => kF); k_dflt (refine' cname kF ?k2 ?_ ?k3 ?k4; (case k3 => exact rfl); (case k4 => exact rfl); (case k2 => ((repeat' (first | (with_reducible assumption) | exact if_pos rfl | refine Eq.trans (if_neg (by decide)) ?_ | (refine Eq.trans (stG_at (by with_reducible assumption) (by decide)) ?_) | exact rfl)); done)); k_whole)) | (k_here; (with_reducible show wpAny _ _ (eval (Expr.Name _ _) (envOf _ _ _ _ _)) _ _ _); (with_reducible rename Fr _ _ _ _ => kF); k_dflt (refine' ld kF ?k2 ?_; (case k2 => ((repeat' (first | (with_reducible assumption) | exact if_pos rfl | refine Eq.trans (if_neg (by decide)) ?_ | (refine Eq.trans (stG_at (by with_reducible assumption) (by decide)) ?_) | exact rfl)); done)); k_whole)) | walk1)) | ((((((fail_if_success (with_reducible show wpAny _ _ (exec (Stmt.While _ _ _ _) _) _ _ _)); (fail_if_success (with_reducible show wpAny _ _ (exec (Stmt.For _ _ _ _ _) _) _ _ _)); (fail_if_success (with_reducible show wpAny _ _ (call (Value.ref _) _ _) _ _ _)); (fail_if_success (with_reducible show wpAny _ _ (eval (Expr.ListComp _ _ _ _) _) _ _ _)))); (fail_if_success (with_reducible show wpAny _ _ (truthy (Value.ref _)) _ _ _)); (fail_if_success (with_reducible show wpAny _ _ (subscriptTail _ _ _ _) _ _ _)))); dsimp only; (((((fail_if_success (with_reducible show wpAny _ _ (exec (Stmt.While _ _ _ _) _) _ _ _)); (fail_if_success (with_reducible show wpAny _ _ (exec (Stmt.For _ _ _ _ _) _) _ _ _)); (fail_if_success (with_reducible show wpAny _ _ (call (Value.ref _) _ _) _ _ _)); (fail_if_success (with_reducible show wpAny _ _ (eval (Expr.ListComp _ _ _ _) _) _ _ _)))); (fail_if_success (with_reducible show wpAny _ _ (truthy (Value.ref _)) _ _ _)); (fail_if_success (with_reducible show wpAny _ _ (subscriptTail _ _ _ _) _ _ _)))); (first | ((with_reducible show wpAny _ _ (storeName (envOf _ _ _ _ _) _ _) _ _ _); k_here; (with_reducible show wpAny _ _ (storeName (envOf _ _ _ _ _) _ _) _ _ _); k_dflt (refine' stG ?k1 ?k2 ?k3 ?k4 ?_; (case k1 => k_asm); (case k2 => k_asm); (case k3 => exact rfl); (case k4 => exact rfl); k_whole); intro sgH sgT sgM sgE sgD sgF sgN; (try k_sweep)) | (k_here; (with_reducible show wpAny _ _ (eval (Expr.Name _ _) (compEnvC _ _ _ _)) _ _ _); (with_reducible rename Fr _ _ _ _ => kF); k_dflt (refine' cname kF ?k2 ?_ ?k3 ?k4; (case k3 => exact rfl); (case k4 => exact rfl); (case k2 => ((repeat' (first | (with_reducible assumption) | exact if_pos rfl | refine Eq.trans (if_neg (by decide)) ?_ | (refine Eq.trans (stG_at (by with_reducible assumption) (by decide)) ?_) | exact rfl)); done)); k_whole)) | (k_here; (with_reducible show wpAny _ _ (eval (Expr.Name _ _) (envOf _ _ _ _ _)) _ _ _); (with_reducible rename Fr _ _ _ _ => kF); k_dflt (refine' ld kF ?k2 ?_; (case k2 => ((repeat' (first | (with_reducible assumption) | exact if_pos rfl | refine Eq.trans (if_neg (by decide)) ?_ | (refine Eq.trans (stG_at (by with_reducible assumption) (by decide)) ?_) | exact rfl)); done)); k_whole)) | walk1)) | fail "no step"))
          refine wpAny_truthy_list (PySem.IsL.isList (N8 (nc, _) (.tail _ (.head _))).1) hfit ?_
          rw [show (!(us ++ [Value.str y ty]).toArray.isEmpty) = true from by simp]
          (repeat' (first | (k_unfold; (try dsimp only)) | ((((((fail_if_success (with_reducible show wpAny _ _ (exec (Stmt.While _ _ _ _) _) _ _ _)); (fail_if_success (with_reducible show wpAny _ _ (exec (Stmt.For _ _ _ _ _) _) _ _ _)); (fail_if_success (with_reducible show wpAny _ _ (call (Value.ref _) _ _) _ _ _)); (fail_if_success (with_reducible show wpAny _ _ (eval (Expr.ListComp _ _ _ _) _) _ _ _)))); (fail_if_success (with_reducible show wpAny _ _ (truthy (Value.ref _)) _ _ _)); (fail_if_success (with_reducible show wpAny _ _ (subscriptTail _ _ _ _) _ _ _)))); (first | ((with_reducible show wpAny _ _ (storeName (envOf _ _ _ _ _) _ _) _ _ _); k_here; (with_reducible show wpAny _ _ (storeName (envOf _ _ _ _ _) _ _) _ _ _); k_dflt (refine' stG ?k1 ?k2 ?k3 ?k4 ?_; (case k1 => k_asm); (case k2 => k_asm); (case k3 => exact rfl); (case k4 => exact rfl); k_whole); intro sgH sgT sgM sgE sgD sgF sgN; (try k_sweep)) | (k_here; (with_reducible show wpAny _ _ (eval (Expr.Name _ _) (compEnvC _ _ _ _)) _ _ _); (with_reducible rename Fr _ _ _ _ => kF); k_dflt (refine' cname kF ?k2 ?_ ?k3 ?k4; (case k3 => exact rfl); (case k4 => exact rfl); (case k2 => ((repeat' (first | (with_reducible assumption) | exact if_pos rfl | refine Eq.trans (if_neg (by decide)) ?_ | (refine Eq.trans (stG_at (by with_reducible assumption) (by decide)) ?_) | exact rfl)); done)); k_whole)) | (k_here; (with_reducible show wpAny _ _ (eval (Expr.Name _ _) (envOf _ _ _ _ _)) _ _ _); (with_reducible rename Fr _ _ _ _ => kF); k_dflt (refine' ld kF ?k2 ?_; (case k2 => ((repeat' (first | (with_reducible assumption) | exact if_pos rfl | refine Eq.trans (if_neg (by decide)) ?_ | (refine Eq.trans (stG_at (by with_reducible assumption) (by decide)) ?_) | exact rfl)); done)); k_whole)) | walk1)) | ((((((fail_if_success (with_reducible show wpAny _ _ (exec (Stmt.While _ _ _ _) _) _ _ _)); (fail_if_success (with_reducible show wpAny _ _ (exec (Stmt.For _ _ _ _ _) _) _ _ _)); (fail_if_success (with_reducible show wpAny _ _ (call (Value.ref _) _ _) _ _ _)); (fail_if_success (with_reducible show wpAny _ _ (eval (Expr.ListComp _ _ _ _) _) _ _ _)))); (fail_if_success (with_reducible show wpAny _ _ (truthy (Value.ref _)) _ _ _)); (fail_if_success (with_reducible show wpAny _ _ (subscriptTail _ _ _ _) _ _ _)))); dsimp only; (((((fail_if_success (with_reducible show wpAny _ _ (exec (Stmt.While _ _ _ _) _) _ _ _)); (fail_if_success (with_reducible show wpAny _ _ (exec (Stmt.For _ _ _ _ _) _) _ _ _)); (fail_if_success (with_reducible show wpAny _ _ (call (Value.ref _) _ _) _ _ _)); (fail_if_success (with_reducible show wpAny _ _ (eval (Expr.ListComp _ _ _ _) _) _ _ _)))); (fail_if_success (with_reducible show wpAny _ _ (truthy (Value.ref _)) _ _ _)); (fail_if_success (with_reducible show wpAny _ _ (subscriptTail _ _ _ _) _ _ _)))); (first | ((with_reducible show wpAny _ _ (storeName (envOf _ _ _ _ _) _ _) _ _ _); k_here; (with_reducible show wpAny _ _ (storeName (envOf _ _ _ _ _) _ _) _ _ _); k_dflt (refine' stG ?k1 ?k2 ?k3 ?k4 ?_; (case k1 => k_asm); (case k2 => k_asm); (case k3 => exact rfl); (case k4 => exact rfl); k_whole); intro sgH sgT sgM sgE sgD sgF sgN; (try k_sweep)) | (k_here; (with_reducible show wpAny _ _ (eval (Expr.Name _ _) (compEnvC _ _ _ _)) _ _ _); (with_reducible rename Fr _ _ _ _ => kF); k_dflt (refine' cname kF ?k2 ?_ ?k3 ?k4; (case k3 => exact rfl); (case k4 => exact rfl); (case k2 => ((repeat' (first | (with_reducible assumption) | exact if_pos rfl | refine Eq.trans (if_neg (by decide)) ?_ | (refine Eq.trans (stG_at (by with_reducible assumption) (by decide)) ?_) | exact rfl)); done)); k_whole)) | (k_here; (with_reducible show wpAny _ _ (eval (Expr.Name _ _) (envOf _ _ _ _ _)) _ _ _); (with_reducible rename Fr _ _ _ _ => kF); k_dflt (refine' ld kF ?k2 ?_; (case k2 => ((repeat' (first | (with_reducible assumption) | exact if_pos rfl | refine Eq.trans (if_neg (by decide)) ?_ | (refine Eq.trans (stG_at (by with_reducible assumption) (by decide)) ?_) | exact rfl)); done)); k_whole)) | walk1)) | fail "no step"))
          rename Fr _ _ _ _ => F9
          refine kl_pop (p := us) (y := .str y ty) F9 N8 (kl_last_app us _) (.tail (Ne.symm hcn) (.head (by simpa using Ne.symm hne'))) (by have := sizeLine_eq; simp only [List.toList_toArray]; omega) (fun h10 F10 N10 => ?_)
          (repeat' (first | (k_unfold; (try dsimp only)) | ((((((fail_if_success (with_reducible show wpAny _ _ (exec (Stmt.While _ _ _ _) _) _ _ _)); (fail_if_success (with_reducible show wpAny _ _ (exec (Stmt.For _ _ _ _ _) _) _ _ _)); (fail_if_success (with_reducible show wpAny _ _ (call (Value.ref _) _ _) _ _ _)); (fail_if_success (with_reducible show wpAny _ _ (eval (Expr.ListComp _ _ _ _) _) _ _ _)))); (fail_if_success (with_reducible show wpAny _ _ (truthy (Value.ref _)) _ _ _)); (fail_if_success (with_reducible show wpAny _ _ (subscriptTail _ _ _ _) _ _ _)))); (first | ((with_reducible show wpAny _ _ (storeName (envOf _ _ _ _ _) _ _) _ _ _); k_here; (with_reducible show wpAny _ _ (storeName (envOf _ _ _ _ _) _ _) _ _ _); k_dflt (refine' stG ?k1 ?k2 ?k3 ?k4 ?_; (case k1 => k_asm); (case k2 => k_asm); (case k3 => exact rfl); (case k4 => exact rfl); k_whole); intro sgH sgT sgM sgE sgD sgF sgN; (try k_sweep)) | (k_here; (with_reducible show wpAny _ _ (eval (Expr.Name _ _) (compEnvC _ _ _ _)) _ _ _); (with_reducible rename Fr _ _ _ _ => kF); k_dflt (refine' cname kF ?k2 ?_ ?k3 ?k4; (case k3 => exact rfl); (case k4 => exact rfl); (case k2 => ((repeat' (first | (with_reducible assumption) | exact if_pos rfl | refine Eq.trans (if_neg (by decide)) ?_ | (refine Eq.trans (stG_at (by with_reducible assumption) (by decide)) ?_) | exact rfl)); done)); k_whole)) | (k_here; (with_reducible show wpAny _ _ (eval (Expr.Name _ _) (envOf _ _ _ _ _)) _ _ _); (with_reducible rename Fr _ _ _ _ => kF); k_dflt (refine' ld kF ?k2 ?_; (case k2 => ((repeat' (first | (with_reducible assumption) | exact if_pos rfl | refine Eq.trans (if_neg (by decide)) ?_ | (refine Eq.trans (stG_at (by with_reducible assumption) (by decide)) ?_) | exact rfl)); done)); k_whole)) | walk1)) | ((((((fail_if_success (with_reducible show wpAny _ _ (exec (Stmt.While _ _ _ _) _) _ _ _)); (fail_if_success (with_reducible show wpAny _ _ (exec (Stmt.For _ _ _ _ _) _) _ _ _)); (fail_if_success (with_reducible show wpAny _ _ (call (Value.ref _) _ _) _ _ _)); (fail_if_success (with_reducible show wpAny _ _ (eval (Expr.ListComp _ _ _ _) _) _ _ _)))); (fail_if_success (with_reducible show wpAny _ _ (truthy (Value.ref _)) _ _ _)); (fail_if_success (with_reducible show wpAny _ _ (subscriptTail _ _ _ _) _ _ _)))); dsimp only; (((((fail_if_success (with_reducible show wpAny _ _ (exec (Stmt.While _ _ _ _) _) _ _ _)); (fail_if_success (with_reducible show wpAny _ _ (exec (Stmt.For _ _ _ _ _) _) _ _ _)); (fail_if_success (with_reducible show wpAny _ _ (call (Value.ref _) _ _) _ _ _)); (fail_if_success (with_reducible show wpAny _ _ (eval (Expr.ListComp _ _ _ _) _) _ _ _)))); (fail_if_success (with_reducible show wpAny _ _ (truthy (Value.ref _)) _ _ _)); (fail_if_success (with_reducible show wpAny _ _ (subscriptTail _ _ _ _) _ _ _)))); (first | ((with_reducible show wpAny _ _ (storeName (envOf _ _ _ _ _) _ _) _ _ _); k_here; (with_reducible show wpAny _ _ (storeName (envOf _ _ _ _ _) _ _) _ _ _); k_dflt (refine' stG ?k1 ?k2 ?k3 ?k4 ?_; (case k1 => k_asm); (case k2 => k_asm); (case k3 => exact rfl); (case k4 => exact rfl); k_whole); intro sgH sgT sgM sgE sgD sgF sgN; (try k_sweep)) | (k_here; (with_reducible show wpAny _ _ (eval (Expr.Name _ _) (compEnvC _ _ _ _)) _ _ _); (with_reducible rename Fr _ _ _ _ => kF); k_dflt (refine' cname kF ?k2 ?_ ?k3 ?k4; (case k3 => exact rfl); (case k4 => exact rfl); (case k2 => ((repeat' (first | (with_reducible assumption) | exact if_pos rfl | refine Eq.trans (if_neg (by decide)) ?_ | (refine Eq.trans (stG_at (by with_reducible assumption) (by decide)) ?_) | exact rfl)); done)); k_whole)) | (k_here; (with_reducible show wpAny _ _ (eval (Expr.Name _ _) (envOf _ _ _ _ _)) _ _ _); (with_reducible rename Fr _ _ _ _ => kF); k_dflt (refine' ld kF ?k2 ?_; (case k2 => ((repeat' (first | (with_reducible assumption) | exact if_pos rfl | refine Eq.trans (if_neg (by decide)) ?_ | (refine Eq.trans (stG_at (by with_reducible assumption) (by decide)) ?_) | exact rfl)); done)); k_whole)) | walk1)) | fail "no step"))
          rename Fr _ _ _ _ => F11
          exact fin _ _ _ _ us (n + 1) acc' F11 N10 (by k_mem) (by k_mem) (by k_mem) hu (by rw [hst']; simp) ⟨by ((repeat' (first | (with_reducible assumption) | exact if_pos rfl | refine Eq.trans (if_neg (by decide)) ?_ | (refine Eq.trans (stG_at (by with_reducible assumption) (by decide)) ?_) | exact rfl)); done), by ((repeat' (first | (with_reducible assumption) | exact if_pos rfl | refine Eq.trans (if_neg (by decide)) ?_ | (refine Eq.trans (stG_at (by with_reducible assumption) (by decide)) ?_) | exact rfl)); done), by ((repeat' (first | (with_reducible assumption) | exact if_pos rfl | refine Eq.trans (if_neg (by decide)) ?_ | (refine Eq.trans (stG_at (by with_reducible assumption) (by decide)) ?_) | exact rfl)); done), by ((repeat' (first | (with_reducible assumption) | exact if_pos rfl | refine Eq.trans (if_neg (by decide)) ?_ | (refine Eq.trans (stG_at (by with_reducible assumption) (by decide)) ?_) | exact rfl)); done), by ((repeat' (first | (with_reducible assumption) | exact if_pos rfl | refine Eq.trans (if_neg (by decide)) ?_ | (refine Eq.trans (stG_at (by with_reducible assumption) (by decide)) ?_) | exact rfl)); done), by ((repeat' (first | (with_reducible assumption) | exact if_pos rfl | refine Eq.trans (if_neg (by decide)) ?_ | (refine Eq.trans (stG_at (by with_reducible assumption) (by decide)) ?_) | exact rfl)); done)⟩
  · obtain ⟨ws, n, rfl, hw, _, m1, m2, m3, m4, m5, m6⟩ := hJ
    rw [List.size_toArray, hlv, List.take_length] at hw
    have hlw := strs_len hw
    have hln := normF_len cl []
    clear F6 N6
    (repeat' (first | (k_unfold; (try dsimp only)) | ((((fail_if_success (with_reducible show wpAny _ _ (exec (Stmt.While _ _ _ _) _) _ _ _)); (fail_if_success (with_reducible show wpAny _ _ (exec (Stmt.For _ _ _ _ _) _) _ _ _)); (fail_if_success (with_reducible show wpAny _ _ (call (Value.ref _) _ _) _ _ _)); (fail_if_success (with_reducible show wpAny _ _ (eval (Expr.ListComp _ _ _ _) _) _ _ _)))); (first | ((with_reducible show wpAny _ _ (storeName (envOf _ _ _ _ _) _ _) _ _ _); k_here; (with_reducible show wpAny _ _ (storeName (envOf _ _ _ _ _) _ _) _ _ _); k_dflt (refine' stG ?k1 ?k2 ?k3 ?k4 ?_; (case k1 => k_asm); (case k2 => k_asm); (case k3 => exact rfl); (case k4 => exact rfl); k_whole); intro sgH sgT sgM sgE sgD sgF sgN; (try k_sweep)) | (k_here; (with_reducible show wpAny _ _ (eval (Expr.Name _ _) (compEnvC _ _ _ _)) _ _ _); (with_reducible rename Fr _ _ _ _ => kF); k_dflt (refine' cname kF ?k2 ?_ ?k3 ?k4; (case k3 => exact rfl); (case k4 => exact rfl); (case k2 => ((repeat' (first | (with_reducible assumption) | exact if_pos rfl | refine Eq.trans (if_neg (by decide)) ?_ | (refine Eq.trans (stG_at (by with_reducible assumption) (by decide)) ?_) | exact rfl)); done)); k_whole)) | (k_here; (with_reducible show wpAny _ _ (eval (Expr.Name _ _) (envOf _ _ _ _ _)) _ _ _); (with_reducible rename Fr _ _ _ _ => kF); k_dflt (refine' ld kF ?k2 ?_; (case k2 => ((repeat' (first | (with_reducible assumption) | exact if_pos rfl | refine Eq.trans (if_neg (by decide)) ?_ | (refine Eq.trans (stG_at (by with_reducible assumption) (by decide)) ?_) | exact rfl)); done)); k_whole)) | walk1)) | ((((fail_if_success (with_reducible show wpAny _ _ (exec (Stmt.While _ _ _ _) _) _ _ _)); (fail_if_success (with_reducible show wpAny _ _ (exec (Stmt.For _ _ _ _ _) _) _ _ _)); (fail_if_success (with_reducible show wpAny _ _ (call (Value.ref _) _ _) _ _ _)); (fail_if_success (with_reducible show wpAny _ _ (eval (Expr.ListComp _ _ _ _) _) _ _ _)))); dsimp only; (((fail_if_success (with_reducible show wpAny _ _ (exec (Stmt.While _ _ _ _) _) _ _ _)); (fail_if_success (with_reducible show wpAny _ _ (exec (Stmt.For _ _ _ _ _) _) _ _ _)); (fail_if_success (with_reducible show wpAny _ _ (call (Value.ref _) _ _) _ _ _)); (fail_if_success (with_reducible show wpAny _ _ (eval (Expr.ListComp _ _ _ _) _) _ _ _)))); (first | ((with_reducible show wpAny _ _ (storeName (envOf _ _ _ _ _) _ _) _ _ _); k_here; (with_reducible show wpAny _ _ (storeName (envOf _ _ _ _ _) _ _) _ _ _); k_dflt (refine' stG ?k1 ?k2 ?k3 ?k4 ?_; (case k1 => k_asm); (case k2 => k_asm); (case k3 => exact rfl); (case k4 => exact rfl); k_whole); intro sgH sgT sgM sgE sgD sgF sgN; (try k_sweep)) | (k_here; (with_reducible show wpAny _ _ (eval (Expr.Name _ _) (compEnvC _ _ _ _)) _ _ _); (with_reducible rename Fr _ _ _ _ => kF); k_dflt (refine' cname kF ?k2 ?_ ?k3 ?k4; (case k3 => exact rfl); (case k4 => exact rfl); (case k2 => ((repeat' (first | (with_reducible assumption) | exact if_pos rfl | refine Eq.trans (if_neg (by decide)) ?_ | (refine Eq.trans (stG_at (by with_reducible assumption) (by decide)) ?_) | exact rfl)); done)); k_whole)) | (k_here; (with_reducible show wpAny _ _ (eval (Expr.Name _ _) (envOf _ _ _ _ _)) _ _ _); (with_reducible rename Fr _ _ _ _ => kF); k_dflt (refine' ld kF ?k2 ?_; (case k2 => ((repeat' (first | (with_reducible assumption) | exact if_pos rfl | refine Eq.trans (if_neg (by decide)) ?_ | (refine Eq.trans (stG_at (by with_reducible assumption) (by decide)) ?_) | exact rfl)); done)); k_whole)) | walk1)) | fail "no step"))
    rename Fr _ _ _ _ => F9
    rename News _ _ _ _ => N9
    refine join_listW (ys := normF cl) (PySem.IsL.isList (n := n) (N9 _ (.head _)).1) (by rw [List.toList_toArray]; exact hw) (by decide +kernel) (Nat.le_trans hsum (by decide)) ?_
    intro t' k'
    have e1 : (Str.ofString "/").length = 1 := by decide +kernel
    refine SB.add (fun t' k => ?_) (by rw [e1, sizeLine_eq]; omega)
    (repeat' (first | (k_unfold; (try dsimp only)) | ((((fail_if_success (with_reducible show wpAny _ _ (exec (Stmt.While _ _ _ _) _) _ _ _)); (fail_if_success (with_reducible show wpAny _ _ (exec (Stmt.For _ _ _ _ _) _) _ _ _)); (fail_if_success (with_reducible show wpAny _ _ (call (Value.ref _) _ _) _ _ _)); (fail_if_success (with_reducible show wpAny _ _ (eval (Expr.ListComp _ _ _ _) _) _ _ _)))); (first | ((with_reducible show wpAny _ _ (storeName (envOf _ _ _ _ _) _ _) _ _ _); k_here; (with_reducible show wpAny _ _ (storeName (envOf _ _ _ _ _) _ _) _ _ _); k_dflt (refine' stG ?k1 ?k2 ?k3 ?k4 ?_; (case k1 => k_asm); (case k2 => k_asm); (case k3 => exact rfl); (case k4 => exact rfl); k_whole); intro sgH sgT sgM sgE sgD sgF sgN; (try k_sweep)) | (k_here; (with_reducible show wpAny _ _ (eval (Expr.Name _ _) (compEnvC _ _ _ _)) _ _ _); (with_reducible rename Fr _ _ _ _ => kF); k_dflt (refine' cname kF ?k2 ?_ ?k3 ?k4; (case k3 => exact rfl); (case k4 => exact rfl); (case k2 => ((repeat' (first | (with_reducible assumption) | exact if_pos rfl | refine Eq.trans (if_neg (by decide)) ?_ | (refine Eq.trans (stG_at (by with_reducible assumption) (by decide)) ?_) | exact rfl)); done)); k_whole)) | (k_here; (with_reducible show wpAny _ _ (eval (Expr.Name _ _) (envOf _ _ _ _ _)) _ _ _); (with_reducible rename Fr _ _ _ _ => kF); k_dflt (refine' ld kF ?k2 ?_; (case k2 => ((repeat' (first | (with_reducible assumption) | exact if_pos rfl | refine Eq.trans (if_neg (by decide)) ?_ | (refine Eq.trans (stG_at (by with_reducible assumption) (by decide)) ?_) | exact rfl)); done)); k_whole)) | walk1)) | ((((fail_if_success (with_reducible show wpAny _ _ (exec (Stmt.While _ _ _ _) _) _ _ _)); (fail_if_success (with_reducible show wpAny _ _ (exec (Stmt.For _ _ _ _ _) _) _ _ _)); (fail_if_success (with_reducible show wpAny _ _ (call (Value.ref _) _ _) _ _ _)); (fail_if_success (with_reducible show wpAny _ _ (eval (Expr.ListComp _ _ _ _) _) _ _ _)))); dsimp only; (((fail_if_success (with_reducible show wpAny _ _ (exec (Stmt.While _ _ _ _) _) _ _ _)); (fail_if_success (with_reducible show wpAny _ _ (exec (Stmt.For _ _ _ _ _) _) _ _ _)); (fail_if_success (with_reducible show wpAny _ _ (call (Value.ref _) _ _) _ _ _)); (fail_if_success (with_reducible show wpAny _ _ (eval (Expr.ListComp _ _ _ _) _) _ _ _)))); (first | ((with_reducible show wpAny _ _ (storeName (envOf _ _ _ _ _) _ _) _ _ _); k_here; (with_reducible show wpAny _ _ (storeName (envOf _ _ _ _ _) _ _) _ _ _); k_dflt (refine' stG ?k1 ?k2 ?k3 ?k4 ?_; (case k1 => k_asm); (case k2 => k_asm); (case k3 => exact rfl); (case k4 => exact rfl); k_whole); intro sgH sgT sgM sgE sgD sgF sgN; (try k_sweep)) | (k_here; (with_reducible show wpAny _ _ (eval (Expr.Name _ _) (compEnvC _ _ _ _)) _ _ _); (with_reducible rename Fr _ _ _ _ => kF); k_dflt (refine' cname kF ?k2 ?_ ?k3 ?k4; (case k3 => exact rfl); (case k4 => exact rfl); (case k2 => ((repeat' (first | (with_reducible assumption) | exact if_pos rfl | refine Eq.trans (if_neg (by decide)) ?_ | (refine Eq.trans (stG_at (by with_reducible assumption) (by decide)) ?_) | exact rfl)); done)); k_whole)) | (k_here; (with_reducible show wpAny _ _ (eval (Expr.Name _ _) (envOf _ _ _ _ _)) _ _ _); (with_reducible rename Fr _ _ _ _ => kF); k_dflt (refine' ld kF ?k2 ?_; (case k2 => ((repeat' (first | (with_reducible assumption) | exact if_pos rfl | refine Eq.trans (if_neg (by decide)) ?_ | (refine Eq.trans (stG_at (by with_reducible assumption) (by decide)) ?_) | exact rfl)); done)); k_whole)) | walk1)) | fail "no step"))
    rename Fr _ _ _ _ => F10
    exact hQ _ _ _ F10.keep
end

section
open PySem PySem.W PyProof.Rows PySem.Calls PySem.SeqAt

noncomputable def namesF : Nat → Str → List Str → List Str
  | 0, _, acc => acc
  | k + 1, p, acc => if (p != Str.ofString "/") = true then namesF k (splitH p) (splitT p :: acc) else acc
noncomputable def ends : Nat → Str → Bool
  | 0, p => !(p != Str.ofString "/")
  | k + 1, p => if (p != Str.ofString "/") = true then decide (p.length ≤ 100) && ends k (splitH p) else true

theorem names_c {w : World} {A : Around} {E : Value → Shared → Prop} {s : Shared} {g : Heap} {Q : Value → Shared → Prop} {p : Str} {t : Tok} {K : Nat} (a : Amb w g) (l : Le g s.heap) (r : Room 7 A) (hK : K ≤ 100) (he : ends K p = true)
   (hQ : ∀ h' tk q vs n, Le s.heap h' → s.heap.get? q = none → h'.get? q = some (listOf vs.toArray n) → StrsAre vs (namesF K p []) → Q (.ref q) { s with heap := h', toks := tk }) :
   wpAny (model Challenge.rw_ny0132_01.row.prog w) A (call (.ref 176) [.str p t]) Q E s := by
  have a' := a.le l
  obtain ⟨X, mean, mg, mb, T⟩ := a.le l
  revert X; k_fill; intro X
  refine weaken r ?_
  refine enter (binds := [(Str.ofString "path", .str p t)]) X T.nolimit (Le.refl _) (Nat.le_refl _) (by k_is) (by k_is) (by show 347 < recursionLimit; decide) (BindsTo.of_eq rfl) (locs rfl) (fun h₁ F L₁ => ?_) (by decide) rfl rfl rfl
  have N : News s.heap s.heap.objs.size h₁ [] := News.nil
  show wpAny _ _ _ _ _ _
  generalize hL : s.heap.objs.size = L at *
  k_fold
  (repeat' (first | (k_unfold; (try dsimp only)) | ((((fail_if_success (with_reducible show wpAny _ _ (exec (Stmt.While _ _ _ _) _) _ _ _)); (fail_if_success (with_reducible show wpAny _ _ (exec (Stmt.For _ _ _ _ _) _) _ _ _)); (fail_if_success (with_reducible show wpAny _ _ (call (Value.ref _) _ _) _ _ _)); (fail_if_success (with_reducible show wpAny _ _ (eval (Expr.ListComp _ _ _ _) _) _ _ _)))); (first | ((with_reducible show wpAny _ _ (storeName (envOf _ _ _ _ _) _ _) _ _ _); k_here; (with_reducible show wpAny _ _ (storeName (envOf _ _ _ _ _) _ _) _ _ _); k_dflt (refine' stG ?k1 ?k2 ?k3 ?k4 ?_; (case k1 => k_asm); (case k2 => k_asm); (case k3 => exact rfl); (case k4 => exact rfl); k_whole); intro sgH sgT sgM sgE sgD sgF sgN; (try k_sweep)) | (k_here; (with_reducible show wpAny _ _ (eval (Expr.Name _ _) (compEnvC _ _ _ _)) _ _ _); (with_reducible rename Fr _ _ _ _ => kF); k_dflt (refine' cname kF ?k2 ?_ ?k3 ?k4; (case k3 => exact rfl); (case k4 => exact rfl); (case k2 => ((repeat' (first | (with_reducible assumption) | exact if_pos rfl | refine Eq.trans (if_neg (by decide)) ?_ | (refine Eq.trans (stG_at (by with_reducible assumption) (by decide)) ?_) | exact rfl)); done)); k_whole)) | (k_here; (with_reducible show wpAny _ _ (eval (Expr.Name _ _) (envOf _ _ _ _ _)) _ _ _); (with_reducible rename Fr _ _ _ _ => kF); k_dflt (refine' ld kF ?k2 ?_; (case k2 => ((repeat' (first | (with_reducible assumption) | exact if_pos rfl | refine Eq.trans (if_neg (by decide)) ?_ | (refine Eq.trans (stG_at (by with_reducible assumption) (by decide)) ?_) | exact rfl)); done)); k_whole)) | ((with_reducible show wpAny _ _ (binaryOp Operator.Add (Value.ref _) (Value.ref _)) _ _ _); k_here; k_dflt (refine' add_L ?k1 ?k2 ?k3 ?k4 ?z ?_; (case k1 => k_asm); (case k2 => k_asm); (case k3 => is_list); (case k4 => is_list); (case z => first | size_fits | ((try simp only [List.length_map, List.length_cons, List.length_nil, List.length_append]); rw [sizeLine_eq]; omega)); k_whole); intro l' h' F' N' l1; (try k_lt l1); (try k_sweep)) | walk1)) | ((((fail_if_success (with_reducible show wpAny _ _ (exec (Stmt.While _ _ _ _) _) _ _ _)); (fail_if_success (with_reducible show wpAny _ _ (exec (Stmt.For _ _ _ _ _) _) _ _ _)); (fail_if_success (with_reducible show wpAny _ _ (call (Value.ref _) _ _) _ _ _)); (fail_if_success (with_reducible show wpAny _ _ (eval (Expr.ListComp _ _ _ _) _) _ _ _)))); dsimp only; (((fail_if_success (with_reducible show wpAny _ _ (exec (Stmt.While _ _ _ _) _) _ _ _)); (fail_if_success (with_reducible show wpAny _ _ (exec (Stmt.For _ _ _ _ _) _) _ _ _)); (fail_if_success (with_reducible show wpAny _ _ (call (Value.ref _) _ _) _ _ _)); (fail_if_success (with_reducible show wpAny _ _ (eval (Expr.ListComp _ _ _ _) _) _ _ _)))); (first | ((with_reducible show wpAny _ _ (storeName (envOf _ _ _ _ _) _ _) _ _ _); k_here; (with_reducible show wpAny _ _ (storeName (envOf _ _ _ _ _) _ _) _ _ _); k_dflt (refine' stG ?k1 ?k2 ?k3 ?k4 ?_; (case k1 => k_asm); (case k2 => k_asm); (case k3 => exact rfl); (case k4 => exact rfl); k_whole); intro sgH sgT sgM sgE sgD sgF sgN; (try k_sweep)) | (k_here; (with_reducible show wpAny _ _ (eval (Expr.Name _ _) (compEnvC _ _ _ _)) _ _ _); (with_reducible rename Fr _ _ _ _ => kF); k_dflt (refine' cname kF ?k2 ?_ ?k3 ?k4; (case k3 => exact rfl); (case k4 => exact rfl); (case k2 => ((repeat' (first | (with_reducible assumption) | exact if_pos rfl | refine Eq.trans (if_neg (by decide)) ?_ | (refine Eq.trans (stG_at (by with_reducible assumption) (by decide)) ?_) | exact rfl)); done)); k_whole)) | (k_here; (with_reducible show wpAny _ _ (eval (Expr.Name _ _) (envOf _ _ _ _ _)) _ _ _); (with_reducible rename Fr _ _ _ _ => kF); k_dflt (refine' ld kF ?k2 ?_; (case k2 => ((repeat' (first | (with_reducible assumption) | exact if_pos rfl | refine Eq.trans (if_neg (by decide)) ?_ | (refine Eq.trans (stG_at (by with_reducible assumption) (by decide)) ?_) | exact rfl)); done)); k_whole)) | ((with_reducible show wpAny _ _ (binaryOp Operator.Add (Value.ref _) (Value.ref _)) _ _ _); k_here; k_dflt (refine' add_L ?k1 ?k2 ?k3 ?k4 ?z ?_; (case k1 => k_asm); (case k2 => k_asm); (case k3 => is_list); (case k4 => is_list); (case z => first | size_fits | ((try simp only [List.length_map, List.length_cons, List.length_nil, List.length_append]); rw [sizeLine_eq]; omega)); k_whole); intro l' h' F' N' l1; (try k_lt l1); (try k_sweep)) | walk1)) | fail "no step"))
  rename Fr _ _ _ _ => F1
  rename News _ _ _ _ => N1
  obtain ⟨I, iI⟩ : ∃ I : Nat → Shared → Prop, ∀ k s', I k s' ↔ (∃ p' t' acc vs n nm h tk m, s' = { s with heap := h, toks := tk } ∧ Fr s.heap L h m ∧ News s.heap L h [(nm, listOf vs.toArray n)] ∧ m (Str.ofString "path") = some (.str p' t') ∧ m (Str.ofString "names") = some (.ref nm) ∧
     StrsAre vs acc ∧ ends k p' = true ∧ namesF k p' acc = namesF K p [] ∧ acc.length + k ≤ 100) := ⟨_, fun _ _ => Iff.rfl⟩
  refine while_rule I (fun k s' hI => ?_) K ((iI _ _).mpr ⟨p, t, [], [], 0, _, _, _, _, rfl, F1, N1, by ((repeat' (first | (with_reducible assumption) | exact if_pos rfl | refine Eq.trans (if_neg (by decide)) ?_ | (refine Eq.trans (stG_at (by with_reducible assumption) (by decide)) ?_) | exact rfl)); done), by ((repeat' (first | (with_reducible assumption) | exact if_pos rfl | refine Eq.trans (if_neg (by decide)) ?_ | (refine Eq.trans (stG_at (by with_reducible assumption) (by decide)) ?_) | exact rfl)); done), .nil, he, rfl, by simpa using hK⟩)
  obtain ⟨p', t', acc, vs, n, nm, h, tk, m, rfl, F2, N2, m1, m2, hS, hen, hnm, hlk⟩ := (iI _ _).mp hI
  have hlv := strs_len hS
  clear F1 N1
  show wpAny _ _ _ _ _ _
  (repeat' (first | (k_unfold; (try dsimp only)) | ((((fail_if_success (with_reducible show wpAny _ _ (exec (Stmt.While _ _ _ _) _) _ _ _)); (fail_if_success (with_reducible show wpAny _ _ (exec (Stmt.For _ _ _ _ _) _) _ _ _)); (fail_if_success (with_reducible show wpAny _ _ (call (Value.ref _) _ _) _ _ _)); (fail_if_success (with_reducible show wpAny _ _ (eval (Expr.ListComp _ _ _ _) _) _ _ _)))); (first | ((with_reducible show wpAny _ _ (storeName (envOf _ _ _ _ _) _ _) _ _ _); k_here; (with_reducible show wpAny _ _ (storeName (envOf _ _ _ _ _) _ _) _ _ _); k_dflt (refine' stG ?k1 ?k2 ?k3 ?k4 ?_; (case k1 => k_asm); (case k2 => k_asm); (case k3 => exact rfl); (case k4 => exact rfl); k_whole); intro sgH sgT sgM sgE sgD sgF sgN; (try k_sweep)) | (k_here; (with_reducible show wpAny _ _ (eval (Expr.Name _ _) (compEnvC _ _ _ _)) _ _ _); (with_reducible rename Fr _ _ _ _ => kF); k_dflt (refine' cname kF ?k2 ?_ ?k3 ?k4; (case k3 => exact rfl); (case k4 => exact rfl); (case k2 => ((repeat' (first | (with_reducible assumption) | exact if_pos rfl | refine Eq.trans (if_neg (by decide)) ?_ | (refine Eq.trans (stG_at (by with_reducible assumption) (by decide)) ?_) | exact rfl)); done)); k_whole)) | (k_here; (with_reducible show wpAny _ _ (eval (Expr.Name _ _) (envOf _ _ _ _ _)) _ _ _); (with_reducible rename Fr _ _ _ _ => kF); k_dflt (refine' ld kF ?k2 ?_; (case k2 => ((repeat' (first | (with_reducible assumption) | exact if_pos rfl | refine Eq.trans (if_neg (by decide)) ?_ | (refine Eq.trans (stG_at (by with_reducible assumption) (by decide)) ?_) | exact rfl)); done)); k_whole)) | ((with_reducible show wpAny _ _ (binaryOp Operator.Add (Value.ref _) (Value.ref _)) _ _ _); k_here; k_dflt (refine' add_L ?k1 ?k2 ?k3 ?k4 ?z ?_; (case k1 => k_asm); (case k2 => k_asm); (case k3 => is_list); (case k4 => is_list); (case z => first | size_fits | ((try simp only [List.length_map, List.length_cons, List.length_nil, List.length_append]); rw [sizeLine_eq]; omega)); k_whole); intro l' h' F' N' l1; (try k_lt l1); (try k_sweep)) | walk1)) | ((((fail_if_success (with_reducible show wpAny _ _ (exec (Stmt.While _ _ _ _) _) _ _ _)); (fail_if_success (with_reducible show wpAny _ _ (exec (Stmt.For _ _ _ _ _) _) _ _ _)); (fail_if_success (with_reducible show wpAny _ _ (call (Value.ref _) _ _) _ _ _)); (fail_if_success (with_reducible show wpAny _ _ (eval (Expr.ListComp _ _ _ _) _) _ _ _)))); dsimp only; (((fail_if_success (with_reducible show wpAny _ _ (exec (Stmt.While _ _ _ _) _) _ _ _)); (fail_if_success (with_reducible show wpAny _ _ (exec (Stmt.For _ _ _ _ _) _) _ _ _)); (fail_if_success (with_reducible show wpAny _ _ (call (Value.ref _) _ _) _ _ _)); (fail_if_success (with_reducible show wpAny _ _ (eval (Expr.ListComp _ _ _ _) _) _ _ _)))); (first | ((with_reducible show wpAny _ _ (storeName (envOf _ _ _ _ _) _ _) _ _ _); k_here; (with_reducible show wpAny _ _ (storeName (envOf _ _ _ _ _) _ _) _ _ _); k_dflt (refine' stG ?k1 ?k2 ?k3 ?k4 ?_; (case k1 => k_asm); (case k2 => k_asm); (case k3 => exact rfl); (case k4 => exact rfl); k_whole); intro sgH sgT sgM sgE sgD sgF sgN; (try k_sweep)) | (k_here; (with_reducible show wpAny _ _ (eval (Expr.Name _ _) (compEnvC _ _ _ _)) _ _ _); (with_reducible rename Fr _ _ _ _ => kF); k_dflt (refine' cname kF ?k2 ?_ ?k3 ?k4; (case k3 => exact rfl); (case k4 => exact rfl); (case k2 => ((repeat' (first | (with_reducible assumption) | exact if_pos rfl | refine Eq.trans (if_neg (by decide)) ?_ | (refine Eq.trans (stG_at (by with_reducible assumption) (by decide)) ?_) | exact rfl)); done)); k_whole)) | (k_here; (with_reducible show wpAny _ _ (eval (Expr.Name _ _) (envOf _ _ _ _ _)) _ _ _); (with_reducible rename Fr _ _ _ _ => kF); k_dflt (refine' ld kF ?k2 ?_; (case k2 => ((repeat' (first | (with_reducible assumption) | exact if_pos rfl | refine Eq.trans (if_neg (by decide)) ?_ | (refine Eq.trans (stG_at (by with_reducible assumption) (by decide)) ?_) | exact rfl)); done)); k_whole)) | ((with_reducible show wpAny _ _ (binaryOp Operator.Add (Value.ref _) (Value.ref _)) _ _ _); k_here; k_dflt (refine' add_L ?k1 ?k2 ?k3 ?k4 ?z ?_; (case k1 => k_asm); (case k2 => k_asm); (case k3 => is_list); (case k4 => is_list); (case z => first | size_fits | ((try simp only [List.length_map, List.length_cons, List.length_nil, List.length_append]); rw [sizeLine_eq]; omega)); k_whole); intro l' h' F' N' l1; (try k_lt l1); (try k_sweep)) | walk1)) | fail "no step"))
  · rename ((p' != _) = true) => hne
    rename Fr _ _ _ _ => F3
    cases k with
    | zero => unfold ends at hen; rw [hne] at hen; cases hen
    | succ k =>
      unfold ends at hen
      rw [if_pos hne, Bool.and_eq_true] at hen
      have hst : namesF (k + 1) p' acc = namesF k (splitH p') (splitT p' :: acc) := by rw [namesF, if_pos hne]
      rw [hst] at hnm
      refine split_c a' F3.keep (Room.deeper _) (of_decide_eq_true hen.1) (fun h4 tk4 q u v k4 qn eq4 => ?_)
      have F4 := F3.kept k4
      have N4 : News s.heap L h4 [(q, tup2 (.str (splitH p') u) (.str (splitT p') v)), (nm, listOf vs.toArray n)] := fun x hx => by
        rcases List.mem_cons.mp hx with rfl | hx
        · refine ⟨eq4, fun e => ?_, none_le F3.keep qn⟩
          obtain ⟨oL, _, _, eL, _⟩ := F3.ns
          have e' : q = L := e
          rw [e'] at qn
          have qn' := qn
          rw [show _ = some oL from eL] at qn'; cases qn'
        · exact ⟨k4 _ _ (N2 x hx).1, (N2 x hx).2⟩
      clear F3 N2
      (repeat' (first | (k_unfold; (try dsimp only)) | ((((fail_if_success (with_reducible show wpAny _ _ (exec (Stmt.While _ _ _ _) _) _ _ _)); (fail_if_success (with_reducible show wpAny _ _ (exec (Stmt.For _ _ _ _ _) _) _ _ _)); (fail_if_success (with_reducible show wpAny _ _ (call (Value.ref _) _ _) _ _ _)); (fail_if_success (with_reducible show wpAny _ _ (eval (Expr.ListComp _ _ _ _) _) _ _ _)))); (first | ((with_reducible show wpAny _ _ (storeName (envOf _ _ _ _ _) _ _) _ _ _); k_here; (with_reducible show wpAny _ _ (storeName (envOf _ _ _ _ _) _ _) _ _ _); k_dflt (refine' stG ?k1 ?k2 ?k3 ?k4 ?_; (case k1 => k_asm); (case k2 => k_asm); (case k3 => exact rfl); (case k4 => exact rfl); k_whole); intro sgH sgT sgM sgE sgD sgF sgN; (try k_sweep)) | (k_here; (with_reducible show wpAny _ _ (eval (Expr.Name _ _) (compEnvC _ _ _ _)) _ _ _); (with_reducible rename Fr _ _ _ _ => kF); k_dflt (refine' cname kF ?k2 ?_ ?k3 ?k4; (case k3 => exact rfl); (case k4 => exact rfl); (case k2 => ((repeat' (first | (with_reducible assumption) | exact if_pos rfl | refine Eq.trans (if_neg (by decide)) ?_ | (refine Eq.trans (stG_at (by with_reducible assumption) (by decide)) ?_) | exact rfl)); done)); k_whole)) | (k_here; (with_reducible show wpAny _ _ (eval (Expr.Name _ _) (envOf _ _ _ _ _)) _ _ _); (with_reducible rename Fr _ _ _ _ => kF); k_dflt (refine' ld kF ?k2 ?_; (case k2 => ((repeat' (first | (with_reducible assumption) | exact if_pos rfl | refine Eq.trans (if_neg (by decide)) ?_ | (refine Eq.trans (stG_at (by with_reducible assumption) (by decide)) ?_) | exact rfl)); done)); k_whole)) | ((with_reducible show wpAny _ _ (binaryOp Operator.Add (Value.ref _) (Value.ref _)) _ _ _); k_here; k_dflt (refine' add_L ?k1 ?k2 ?k3 ?k4 ?z ?_; (case k1 => k_asm); (case k2 => k_asm); (case k3 => is_list); (case k4 => is_list); (case z => first | size_fits | ((try simp only [List.length_map, List.length_cons, List.length_nil, List.length_append]); rw [sizeLine_eq]; omega)); k_whole); intro l' h' F' N' l1; (try k_lt l1); (try k_sweep)) | walk1)) | ((((fail_if_success (with_reducible show wpAny _ _ (exec (Stmt.While _ _ _ _) _) _ _ _)); (fail_if_success (with_reducible show wpAny _ _ (exec (Stmt.For _ _ _ _ _) _) _ _ _)); (fail_if_success (with_reducible show wpAny _ _ (call (Value.ref _) _ _) _ _ _)); (fail_if_success (with_reducible show wpAny _ _ (eval (Expr.ListComp _ _ _ _) _) _ _ _)))); dsimp only; (((fail_if_success (with_reducible show wpAny _ _ (exec (Stmt.While _ _ _ _) _) _ _ _)); (fail_if_success (with_reducible show wpAny _ _ (exec (Stmt.For _ _ _ _ _) _) _ _ _)); (fail_if_success (with_reducible show wpAny _ _ (call (Value.ref _) _ _) _ _ _)); (fail_if_success (with_reducible show wpAny _ _ (eval (Expr.ListComp _ _ _ _) _) _ _ _)))); (first | ((with_reducible show wpAny _ _ (storeName (envOf _ _ _ _ _) _ _) _ _ _); k_here; (with_reducible show wpAny _ _ (storeName (envOf _ _ _ _ _) _ _) _ _ _); k_dflt (refine' stG ?k1 ?k2 ?k3 ?k4 ?_; (case k1 => k_asm); (case k2 => k_asm); (case k3 => exact rfl); (case k4 => exact rfl); k_whole); intro sgH sgT sgM sgE sgD sgF sgN; (try k_sweep)) | (k_here; (with_reducible show wpAny _ _ (eval (Expr.Name _ _) (compEnvC _ _ _ _)) _ _ _); (with_reducible rename Fr _ _ _ _ => kF); k_dflt (refine' cname kF ?k2 ?_ ?k3 ?k4; (case k3 => exact rfl); (case k4 => exact rfl); (case k2 => ((repeat' (first | (with_reducible assumption) | exact if_pos rfl | refine Eq.trans (if_neg (by decide)) ?_ | (refine Eq.trans (stG_at (by with_reducible assumption) (by decide)) ?_) | exact rfl)); done)); k_whole)) | (k_here; (with_reducible show wpAny _ _ (eval (Expr.Name _ _) (envOf _ _ _ _ _)) _ _ _); (with_reducible rename Fr _ _ _ _ => kF); k_dflt (refine' ld kF ?k2 ?_; (case k2 => ((repeat' (first | (with_reducible assumption) | exact if_pos rfl | refine Eq.trans (if_neg (by decide)) ?_ | (refine Eq.trans (stG_at (by with_reducible assumption) (by decide)) ?_) | exact rfl)); done)); k_whole)) | ((with_reducible show wpAny _ _ (binaryOp Operator.Add (Value.ref _) (Value.ref _)) _ _ _); k_here; k_dflt (refine' add_L ?k1 ?k2 ?k3 ?k4 ?z ?_; (case k1 => k_asm); (case k2 => k_asm); (case k3 => is_list); (case k4 => is_list); (case z => first | size_fits | ((try simp only [List.length_map, List.length_cons, List.length_nil, List.length_append]); rw [sizeLine_eq]; omega)); k_whole); intro l' h' F' N' l1; (try k_lt l1); (try k_sweep)) | walk1)) | fail "no step"))
      rename Fr _ _ _ _ => F5
      rename News _ _ _ _ => N5
      refine ⟨k, Nat.lt_succ_self _, (iI _ _).mpr ⟨splitH p', _, splitT p' :: acc, .str (splitT p') v :: vs, 0, _, _, _, _, rfl, F5, fun x hx => N5 x ?_, by ((repeat' (first | (with_reducible assumption) | exact if_pos rfl | refine Eq.trans (if_neg (by decide)) ?_ | (refine Eq.trans (stG_at (by with_reducible assumption) (by decide)) ?_) | exact rfl)); done), by ((repeat' (first | (with_reducible assumption) | exact if_pos rfl | refine Eq.trans (if_neg (by decide)) ?_ | (refine Eq.trans (stG_at (by with_reducible assumption) (by decide)) ?_) | exact rfl)); done), .cons _ _ hS, hen.2, hnm, by simp only [List.length_cons]; omega⟩⟩
      rw [List.mem_singleton.mp hx]
      k_mem
  · rename ((p' != _) = false) => hne
    rename Fr _ _ _ _ => F3
    have e : acc = namesF K p [] := by
      rw [← hnm]
      cases k with
      | zero => rfl
      | succ k => unfold namesF; rw [if_neg (by rw [hne]; decide)]
    exact hQ _ _ _ _ _ F3.keep (N2 _ (.head _)).2.2 (N2 _ (.head _)).1 (e ▸ hS)
end

section
open PySem PySem.W PyProof.Rows PySem.Calls PySem.SeqAt

noncomputable def pathN (a b c : Int) : Str := Str.ofString "/" ++ Txt.join (Str.ofString "/") (normF (Txt.split (Txt.slice (pathS a b c) (some 1) none) (Str.ofString "/")))
noncomputable def okD (a b c : Int) : Bool :=
  decide ((pathS a b c).length ≤ 100) && decide (((pathS a b c).length : Int) ≠ 0) && !(Txt.slice (pathS a b c) none (some 1) != Str.ofString "/") && (Txt.slice (pathS a b c) (some 1) (some 2) != Str.ofString "/")
  && decide ((Txt.split (Txt.slice (pathS a b c) (some 1) none) (Str.ofString "/")).length ≤ 100)
  && decide (((normF (Txt.split (Txt.slice (pathS a b c) (some 1) none) (Str.ofString "/"))).map (·.length)).sum + (normF (Txt.split (Txt.slice (pathS a b c) (some 1) none) (Str.ofString "/"))).length ≤ 1000)
  && decide ((Txt.join (Str.ofString "/") (normF (Txt.split (Txt.slice (pathS a b c) (some 1) none) (Str.ofString "/")))).length ≤ 1000)
  && ends 3 (pathN a b c) && decide (namesF 3 (pathN a b c) [] = (wayStep (wayStep (wayStep [] a) b) c).map tx)
theorem okD_0 : ∀ b ∈ [(0:Int),1,2,3,4], ∀ c ∈ [(0:Int),1,2,3,4], okD 0 b c = true := by decide +kernel
theorem okD_1 : ∀ b ∈ [(0:Int),1,2,3,4], ∀ c ∈ [(0:Int),1,2,3,4], okD 1 b c = true := by decide +kernel
theorem okD_2 : ∀ b ∈ [(0:Int),1,2,3,4], ∀ c ∈ [(0:Int),1,2,3,4], okD 2 b c = true := by decide +kernel
theorem okD_3 : ∀ b ∈ [(0:Int),1,2,3,4], ∀ c ∈ [(0:Int),1,2,3,4], okD 3 b c = true := by decide +kernel
theorem okD_4 : ∀ b ∈ [(0:Int),1,2,3,4], ∀ c ∈ [(0:Int),1,2,3,4], okD 4 b c = true := by decide +kernel
theorem okD_all (a : Int) (ha : a ∈ [(0:Int),1,2,3,4]) : ∀ b ∈ [(0:Int),1,2,3,4], ∀ c ∈ [(0:Int),1,2,3,4], okD a b c = true := by
  rcases (by simpa using ha : a = 0 ∨ a = 1 ∨ a = 2 ∨ a = 3 ∨ a = 4) with rfl | rfl | rfl | rfl | rfl
  · exact okD_0
  · exact okD_1
  · exact okD_2
  · exact okD_3
  · exact okD_4

theorem TX_strs : ∀ {vs : List Value} {w : List Bool}, StrsAre vs (w.map tx) → TX vs w
  | [], [], _ => trivial
  | [], _ :: _, h => nomatch h
  | _ :: _, [], h => nomatch h
  | _ :: _, b :: w, .cons _ t r => ⟨⟨t, rfl⟩, TX_strs r⟩
theorem okD_at (x : Int) : okD (digit x 0) (digit x 1) (digit x 2) = true := by
  have g : ∀ i, digit x i ∈ [(0:Int),1,2,3,4] := fun i => by
    obtain ⟨d0, d5⟩ := digit_range x i
    have : digit x i = 0 ∨ digit x i = 1 ∨ digit x i = 2 ∨ digit x i = 3 ∨ digit x i = 4 := by omega
    simpa using this
  exact okD_all _ (g 0) _ (g 1) _ (g 2)
end

section
open PySem PySem.W PyProof.Rows PySem.Calls PySem.SeqAt

section
variable {α β : Type}
noncomputable def runB (f : Nat → Nat → Bool) : KasT α → α
  | .ret a => a
  | .ask i j k => runB f (k (f i j))
noncomputable def AskOk (n : Nat) (P : α → Prop) : KasT α → Prop
  | .ret a => P a
  | .ask i j k => i < n ∧ j < n ∧ ∀ b, AskOk n P (k b)
theorem AskOk.bind {n : Nat} {P : α → Prop} {P' : β → Prop} {f : α → KasT β} : ∀ (t : KasT α), AskOk n P t → (∀ a, P a → AskOk n P' (f a)) → AskOk n P' (t.bind f)
  | .ret a, h, k => k a h
  | .ask _ _ g, h, k => ⟨h.1, h.2.1, fun b => AskOk.bind (g b) (h.2.2 b) k⟩
theorem AskOk.run {n : Nat} {P : α → Prop} {f : Nat → Nat → Bool} : ∀ (t : KasT α), AskOk n P t → P (runB f t)
  | .ret _, h => h
  | .ask i j g, h => AskOk.run (g (f i j)) (h.2.2 _)
theorem AskOk.wp {n : Nat} {P : α → Prop} {f : Nat → Nat → Bool} {cmp : Nat → Nat → (Bool → Shared → Prop) → Shared → Prop} {Q : α → Shared → Prop} {s : Shared} (hc : ∀ i j C, i < n → j < n → C (f i j) s → cmp i j C s) :
    ∀ (t : KasT α), AskOk n P t → Q (runB f t) s → t.kasWp cmp Q s
  | .ret _, _, q => q
  | .ask i j g, h, q => hc i j _ h.1 h.2.1 (AskOk.wp hc (g (f i j)) (h.2.2 _) q)
end

noncomputable def InN (n : Nat) (p : Array Nat) : Prop := 0 < n ∧ p.Perm (List.range n).toArray
theorem InN.lt {n : Nat} {p : Array Nat} (h : InN n p) (k : Nat) : p.getD k 0 < n := by
  rw [Array.getD_eq_getD_getElem?]
  cases e : p[k]? with
  | none => exact h.1
  | some v =>
    have hm : v ∈ p := Array.mem_of_getElem? e
    have := h.2.mem_iff.mp hm
    simpa using this
theorem InN.rev {n : Nat} {p : Array Nat} (h : InN n p) (i j : Nat) : InN n (kas_rev p i j) := ⟨h.1, (foldl_swaps_perm _ _ _ _).trans h.2⟩
theorem InN.bub {n : Nat} {p : Array Nat} (h : InN n p) (i j : Nat) : InN n (bubble p i j) := ⟨h.1, (bubble_perm _ _ _).trans h.2⟩
theorem ok_asc {n : Nat} {p : Array Nat} (h : InN n p) : ∀ f k, AskOk n (fun _ => True) (kas_asc p f k)
  | 0, _ => trivial
  | f + 1, k => ⟨h.lt _, h.lt _, fun b => by cases b; exact ok_asc h f (k + 1); trivial⟩
theorem ok_desc {n : Nat} : ∀ f {p : Array Nat} k q, InN n p → AskOk n (fun r : Array Nat × Nat × Nat => InN n r.1) (kas_desc f p k q)
  | 0, _, _, _, h => h
  | f + 1, p, k, q, h => ⟨h.lt _, h.lt _, fun b => by
    cases b
    · exact ⟨h.lt _, h.lt _, fun d => by cases d; exact ok_desc f _ _ h; exact h⟩
    · show AskOk n _ (if q > 0 then _ else _)
      split
      · exact ok_desc f _ _ (h.rev _ _)
      · exact ok_desc f _ _ h⟩
theorem ok_tail3 {n a b : Nat} {p : Array Nat} (h : InN n p) : AskOk n (fun r : Nat × Array Nat => InN n r.2) (kas_tail3 a b p) :=
  AskOk.bind _ (ok_asc (h.rev _ _) _ _) fun _ _ => h.rev _ _
theorem ok_descPart {n a b : Nat} {p : Array Nat} (h : InN n p) : AskOk n (fun r : Nat × Array Nat => InN n r.2) (kas_descPart a b p) :=
  AskOk.bind _ (ok_desc _ _ _ h) fun r hr => by
    split
    · exact ok_tail3 (hr.rev _ _)
    · exact ok_tail3 hr
theorem ok_count {n b : Nat} {p : Array Nat} (h : InN n p) : AskOk n (fun r : Nat × Array Nat => InN n r.2) (kas_count b p) :=
  AskOk.bind _ (ok_asc h _ _) fun r _ => by
    split
    · exact h
    · split
      · refine ⟨h.lt _, h.lt _, fun b => ?_⟩
        cases b
        · exact ok_descPart (h.rev _ _)
        · exact h
      · exact ok_descPart h
theorem ok_place {n : Nat} {p : Array Nat} (h : InN n p) (k : Nat) : ∀ f l r, AskOk n (fun _ => True) (kas_place p k f l r)
  | 0, _, _ => trivial
  | f + 1, l, r => by
    unfold kas_place
    split
    · trivial
    · refine ⟨h.lt _, h.lt _, fun b => ?_⟩
      cases b
      · exact ok_place h k f _ _
      · exact ok_place h k f _ _
theorem ok_bin {n : Nat} : ∀ f {p : Array Nat} k, InN n p → AskOk n (fun r : Array Nat => InN n r) (kas_bin f p k)
  | 0, _, _, h => h
  | f + 1, _, k, h => AskOk.bind _ (ok_place h k _ _ _) fun _ _ => ok_bin f _ (h.bub _ _)
theorem ok_sort {n : Nat} (hn : 0 < n) : AskOk n (fun r : Array Nat => InN n r) (kas_sort n) :=
  AskOk.bind _ (ok_count ⟨hn, .refl _⟩) fun r hr => by
    split
    · exact ok_bin _ _ hr
    · exact hr

noncomputable def sortI (ws : List (List Bool)) : List Nat := (runB (fun i j => ltW (ws.getD i []) (ws.getD j [])) (kas_sort ws.length)).toList
noncomputable def sortP (ps : List PP) : List PP := (sortI (ps.map (·.2))).map fun i => ps.getD i (.none, [])
noncomputable def sortW (ws : List (List Bool)) : List (List Bool) := (sortI ws).map fun i => ws.getD i []
theorem sortP_2 (ps : List PP) : (sortP ps).map (·.2) = sortW (ps.map (·.2)) := by
  unfold sortP sortW
  rw [List.map_map]
  refine List.map_congr_left fun i _ => ?_
  simp [List.getD_eq_getElem?_getD]
  cases ps[i]? <;> rfl
theorem sortI_perm {ws : List (List Bool)} (h : 0 < ws.length) : (sortI ws).Perm (List.range ws.length) := by
  have := (AskOk.run (f := fun i j => ltW (ws.getD i []) (ws.getD j [])) _ (ok_sort h)).2
  simpa [sortI] using this.toList
theorem map_range_getD {α : Type} (d : α) : ∀ (l : List α), (List.range l.length).map (fun i => l.getD i d) = l := by
  intro l
  apply List.ext_getElem
  · simp
  · intro i h1 h2
    simp at h1
    simp [List.getD_eq_getElem?_getD, h1]
theorem sortP_perm {ps : List PP} (h : 0 < ps.length) : (sortP ps).Perm ps := by
  have := (sortI_perm (ws := ps.map (·.2)) (by simpa using h)).map fun i => ps.getD i (.none, [])
  rw [List.length_map, map_range_getD] at this
  exact this

section
variable {prog : Program} {w : World} {A : Around} {E : Value → Shared → Prop} {s : Shared} {a b : Value} {x y : List Bool}
theorem askLt_W {Q : Bool → Shared → Prop} (ra : Rd s.heap a (dW x)) (rb : Rd s.heap b (dW y)) (hu : A.units < cLine) (h : Q (ltW x y) s) : wpAny (model prog w) A (keyLt' oneType' a b) Q E s := by
  obtain ⟨as, ra⟩ := ra
  obtain ⟨bs, rb⟩ := rb
  cases ra with
  | list ho hc hd hr =>
    cases rb with
    | list ho2 hc2 hd2 hr2 =>
      rename_i o vs n as _ o2 vs2 n2 bs
      obtain ⟨cls, dd, data, sl⟩ := o
      obtain ⟨cls2, dd2, data2, sl2⟩ := o2
      simp only at hc hd hc2 hd2
      subst hc hd hc2 hd2
      have hx : TxA vs x := by simpa using txA_of hr
      have hy : TxA vs2 y := by simpa using txA_of hr2
      rw [keyLt'_oneType, oneLt'_eq]
      simp only [if_true]
      refine wpAny_bind (wpAny_cRoomFor hu ?_)
      refine wpAny_bind (wpAny_callSpecialIfBound?_slot ⟨_, ho, rfl⟩ F.slot_list_lt ?_)
      refine call_meets F.slot_list_lt ⟨_, ho, rfl⟩ F.entry_list_lt (F.args_list_lt_2 _ _) (list_ltW _ _ vs vs2 n n2 dd dd2 sl sl2 x y hx hy) ⟨ho, ho2, ?_⟩
      show wpAny _ _ _ _ _ _
      exact wpAny_truthy_bool h
theorem sorted_W {h₀ : Heap} {L : Addr} {m : Str → Option Value} {news : List (Addr × Obj)} {l : Addr} {ps : List PP} {Q : Value → Shared → Prop} (F : Fr h₀ L s.heap m) (N : News h₀ L s.heap news) (hl : s.heap.IsList l (ps.map (·.1)).toArray) (h2 : 2 ≤ ps.length) (h64 : ps.length < 64)
    (hr : ∀ q ∈ ps, Rd h₀ q.1 (dW q.2)) (hu : A.units + 2 < cLine)
    (h : ∀ D h' c, Fr h₀ L h' m → News h₀ L h' ((D, listOf ((sortP ps).map (·.1)).toArray c) :: news) → Q (.ref D) { s with heap := h' }) :
    wpAny (model prog w) A (call (.builtin "sorted") [.ref l]) Q E s := by
  refine kas_sorted (T := .type "list") F N hl (by simpa using h2) (by simpa using h64) (fun h' F' N' v hv => ?_) (by decide) (fun D e1 h' F' N' hlt => ?_)
  · obtain ⟨q, hq, rfl⟩ := List.mem_map.mp hv
    obtain ⟨as, rq⟩ := (hr q hq).le F'.keep
    generalize q.1 = qv at rq ⊢
    cases rq with
    | list ho hc hd hr => exact fun A Q E s k q => wpAny_typeOf_ref (k _ _ ho) (hc ▸ q)
  · rw [List.length_map]
    refine AskOk.wp (n := ps.length) (f := fun i j => ltW ((ps.map (·.2)).getD i []) ((ps.map (·.2)).getD j [])) (fun i j C hi hj hC => ?_) _ (ok_sort (by omega)) ?_
    · unfold kas_ask
      have g : ∀ i, i < ps.length → Rd h' ((ps.map (·.1)).getD i .none) (dW ((ps.map (·.2)).getD i [])) := fun i hi => by
        have := (hr ps[i] (List.getElem_mem hi)).le F'.keep
        simpa [List.getD_eq_getElem?_getD, hi] using this
      exact askLt_W (g i hi) (g j hj) hu hC
    · refine KasFin.intro F' N' (.head fun p hp => Nat.ne_of_lt (hlt p hp)) fun h'' c F'' N'' => h D h'' c F'' ?_
      have e : (sortP ps).map (·.1) = (runB (fun i j => ltW ((ps.map (·.2)).getD i []) ((ps.map (·.2)).getD j [])) (kas_sort ps.length)).toList.map fun i => (ps.map (·.1)).getD i Value.none := by
        unfold sortP sortI
        rw [List.map_map, List.length_map]
        refine List.map_congr_left fun i _ => ?_
        simp [List.getD_eq_getElem?_getD]
        cases ps[i]? <;> rfl
      rw [e]; exact N''
end

theorem test_sort : sortW [[true], [false], [true, false], [], [true], [false, false], [true], [true, true]] = [[], [false], [false, false], [true], [true], [true], [true, false], [true, true]] := by decide +kernel
end

section
open PySem PySem.W PyProof.Rows PySem.Calls PySem.SeqAt

open PySem.MeetsSeq (plain_remove_loop entry_remove_loop size_erased)
open PySem.AutoSeq1 (wpAny_loadPart')

theorem remove_loopW (l : Addr) (ps : List PP) (n : Nat) (x : Value) (xw : List Bool) (j : Nat) (hj : j < ps.length) (hit : ps[j].2 = xw) (k : Nat) (hs1 : ps.length ≤ sizeLine) :
    ∀ i : Nat, j - i = k → i ≤ j → (∀ m (hm : m < ps.length), i ≤ m → m < j → ps[m].2 ≠ xw) → Meets (Builtin.«list.remove.loop» ⟨[.ref l, x, rawInt i], []⟩)
      (fun A R s => (s.heap.get? l = some { cls := .type "list", dict := none, data := .seq (ps.map (·.1)).toArray n, slots := #[] } ∧ (∀ q ∈ ps, Rd s.heap q.1 (dW q.2)) ∧ Rd s.heap x (dW xw) ∧ A.units + 6 < cLine) ∧
        R (.ok (.ret .none)) { s with heap := s.heap.update l (Obj.mapSeq fun xs => xs.eraseIdxIfInBounds j) }) := by
  have hs1' : (ps.map (·.1)).toArray.size ≤ sizeLine := by simpa using hs1
  induction k with
  | zero =>
    intro i hk hij hno prog w A R s h
    obtain ⟨hp, g, d, tk, os⟩ := s; obtain ⟨⟨hl, hr, hx, hu⟩, h⟩ := h
    have hij' : i = j := by omega
    subst hij'
    wp_walk using wpAny_loadPart' hl
    have hi : (ps.map (·.1)).toArray[((i : Nat) : Int).toNat]? = some ps[i].1 := by simp [hj]
    rw [hi]
    refine wpAny_bind (eqAt_W (hr _ (List.getElem_mem hj)) hx (by show A.units + 1 + 4 < cLine; omega) prog w _ _ ?_)
    rw [hit, show (xw == xw) = true from by simp]
    have hz' : ((ps.map (·.1)).toArray.eraseIdxIfInBounds i).size ≤ sizeLine + 1 := Nat.le_trans (size_erased _ _) (Nat.le_succ_of_le hs1')
    wp_walk using (wpAny_updateSeq hl rfl (hz := hs1') (_hz' := hz')), wpAny_loadPart' hl
    simpa using h
  | succ k ih =>
    intro i hk hij hno prog w A R s h
    obtain ⟨hp, g, d, tk, os⟩ := s; obtain ⟨⟨hl, hr, hx, hu⟩, h⟩ := h
    have hlt : i < ps.length := by omega
    wp_walk using wpAny_loadPart' hl
    have hi : (ps.map (·.1)).toArray[((i : Nat) : Int).toNat]? = some ps[i].1 := by simp [hlt]
    have hc : ((i : Int) + 1) = ((i + 1 : Nat) : Int) := by push_cast; rfl
    rw [hi]
    refine wpAny_bind (eqAt_W (hr _ (List.getElem_mem hlt)) hx (by show A.units + 1 + 4 < cLine; omega) prog w _ _ ?_)
    rw [show (ps[i].2 == xw) = false from by simpa using hno i hlt (Nat.le_refl _) (by omega)]
    wp_walk
    rw [hc]
    exact ⟨plainId_quiet plain_remove_loop _, codeAny_builtin entry_remove_loop (by
      rw [Around.under_plainId plain_remove_loop _]
      exact ih (i + 1) (by omega) (by omega) (fun m hm h1 h2 => hno m hm (by omega) h2) prog w A R _ ⟨⟨hl, hr, hx, hu⟩, h⟩)⟩
theorem remove_loopN (l : Addr) (ps : List PP) (n : Nat) (x : Value) (xw : List Bool) (hno : ∀ q ∈ ps, q.2 ≠ xw) (k : Nat) :
    ∀ i : Nat, ps.length - i = k → Meets (Builtin.«list.remove.loop» ⟨[.ref l, x, rawInt i], []⟩)
      (fun A R s => (s.heap.get? l = some { cls := .type "list", dict := none, data := .seq (ps.map (·.1)).toArray n, slots := #[] } ∧ (∀ q ∈ ps, Rd s.heap q.1 (dW q.2)) ∧ Rd s.heap x (dW xw) ∧ A.units + 6 < cLine) ∧ raisesNew "ValueError" A R s) := by
  induction k with
  | zero =>
    intro i hk prog w A R s h
    obtain ⟨hp, g, d, tk, os⟩ := s; obtain ⟨⟨hl, hr, hx, hu⟩, h⟩ := h
    wp_walk using wpAny_loadPart' hl
    have hi : (ps.map (·.1)).toArray[((i : Nat) : Int).toNat]? = none := by simp; omega
    rw [hi]
    wp_walk
    exact_raiseError plainExc_ValueError h.1 h.2
  | succ k ih =>
    intro i hk prog w A R s h
    obtain ⟨hp, g, d, tk, os⟩ := s; obtain ⟨⟨hl, hr, hx, hu⟩, h⟩ := h
    have hlt : i < ps.length := by omega
    wp_walk using wpAny_loadPart' hl
    have hi : (ps.map (·.1)).toArray[((i : Nat) : Int).toNat]? = some ps[i].1 := by simp [hlt]
    have hc : ((i : Int) + 1) = ((i + 1 : Nat) : Int) := by push_cast; rfl
    rw [hi]
    refine wpAny_bind (eqAt_W (hr _ (List.getElem_mem hlt)) hx (by show A.units + 1 + 4 < cLine; omega) prog w _ _ ?_)
    rw [show (ps[i].2 == xw) = false from by simpa using hno _ (List.getElem_mem hlt)]
    wp_walk
    rw [hc]
    exact ⟨plainId_quiet plain_remove_loop _, codeAny_builtin entry_remove_loop (by
      rw [Around.under_plainId plain_remove_loop _]
      exact ih (i + 1) (by omega) prog w A R _ ⟨⟨hl, hr, hx, hu⟩, h⟩)⟩

section
variable {prog : Program} {w : World} {A : Around} {E : Value → Shared → Prop} {s : Shared}
theorem remove_hit {Q : Value → Shared → Prop} {l : Addr} {ps : List PP} {n : Nat} {x : Value} {xw : List Bool} {j : Nat} (hl : s.heap.get? l = some (listOf (ps.map (·.1)).toArray n)) (hr : ∀ q ∈ ps, Rd s.heap q.1 (dW q.2)) (hx : Rd s.heap x (dW xw)) (hu : A.units + 6 < cLine)
    (hj : j < ps.length) (hit : ps[j].2 = xw) (hno : ∀ m (hm : m < ps.length), m < j → ps[m].2 ≠ xw) (hs : ps.length ≤ sizeLine)
    (h : Q .none { s with heap := s.heap.update l (Obj.mapSeq fun xs => xs.eraseIdxIfInBounds j) }) : wpAny (model prog w) A (call (.builtin "list.remove") [.ref l, x]) Q E s := by
  refine call_meets F.slot_list_remove ⟨_, hl, rfl⟩ F.entry_list_remove (F.args_list_remove_2 _ _) (S := fun A R s => (s.heap.get? l = some { cls := .type "list", dict := none, data := .seq (ps.map (·.1)).toArray n, slots := #[] } ∧ (∀ q ∈ ps, Rd s.heap q.1 (dW q.2)) ∧ Rd s.heap x (dW xw) ∧ A.units + 6 < cLine) ∧
        R (.ok (.ret .none)) { s with heap := s.heap.update l (Obj.mapSeq fun xs => xs.eraseIdxIfInBounds j) }) ?_ ⟨⟨hl, hr, hx, hu⟩, h⟩
  intro prog w A R s h
  obtain ⟨hp, g, d, tk, os⟩ := s; obtain ⟨⟨hl, hr, hx, hu⟩, h⟩ := h
  wp_walk using wpAny_loadPart' hl
  exact ⟨plainId_quiet plain_remove_loop _, codeAny_builtin entry_remove_loop (by
    rw [Around.under_plainId plain_remove_loop _]
    exact remove_loopW l ps n x xw j hj hit _ hs 0 rfl (Nat.zero_le _) (fun m hm _ h2 => hno m hm h2) prog w A R _ ⟨⟨hl, hr, hx, hu⟩, h⟩)⟩
theorem remove_miss {Q : Value → Shared → Prop} {l : Addr} {ps : List PP} {n : Nat} {x : Value} {xw : List Bool} (hl : s.heap.get? l = some (listOf (ps.map (·.1)).toArray n)) (hr : ∀ q ∈ ps, Rd s.heap q.1 (dW q.2)) (hx : Rd s.heap x (dW xw)) (hu : A.units + 6 < cLine)
    (hno : ∀ q ∈ ps, q.2 ≠ xw) (hh : A.handled = none)
    (h : ∀ h' tk e, Heap.NewExc s.heap h' e "ValueError" → E (.ref e) { s with heap := h', toks := tk }) : wpAny (model prog w) A (call (.builtin "list.remove") [.ref l, x]) Q E s := by
  refine call_meets F.slot_list_remove ⟨_, hl, rfl⟩ F.entry_list_remove (F.args_list_remove_2 _ _) (S := fun A R s => (s.heap.get? l = some { cls := .type "list", dict := none, data := .seq (ps.map (·.1)).toArray n, slots := #[] } ∧ (∀ q ∈ ps, Rd s.heap q.1 (dW q.2)) ∧ Rd s.heap x (dW xw) ∧ A.units + 6 < cLine) ∧
        raisesNew "ValueError" A R s) ?_ ⟨⟨hl, hr, hx, hu⟩, hh, h⟩
  intro prog w A R s h
  obtain ⟨hp, g, d, tk, os⟩ := s; obtain ⟨⟨hl, hr, hx, hu⟩, h⟩ := h
  wp_walk using wpAny_loadPart' hl
  exact ⟨plainId_quiet plain_remove_loop _, codeAny_builtin entry_remove_loop (by
    rw [Around.under_plainId plain_remove_loop _]
    exact remove_loopN l ps n x xw hno _ 0 rfl prog w A R _ ⟨⟨hl, hr, hx, hu⟩, h⟩)⟩
end
end

section
open PySem PySem.W PyProof.Rows PySem.Calls PySem.SeqAt

noncomputable abbrev WW := List (List Bool)
noncomputable def sdGoW : Nat → List Bool → Nat → WW → Nat × WW
  | 0, _, p, ps => (p, ps)
  | f + 1, it, p, ps => if p = 0 then (p, ps) else
    match ps[(p - 1) / 2]? with
    | some par => if ltW it par = true then sdGoW f it ((p - 1) / 2) (ps.set p par) else (p, ps)
    | none => (p, ps)
noncomputable def m2 (ps : List PP) : WW := ps.map (·.2)
theorem m2_get (ps : List PP) (i : Nat) : (m2 ps)[i]? = (ps[i]?).map (·.2) := by simp [m2]
theorem m2_set (ps : List PP) (i : Nat) (q : PP) : m2 (ps.set i q) = (m2 ps).set i q.2 := by simp [m2, List.map_set]
theorem sdGoW_eq (it : PP) : ∀ (f p : Nat) (ps : List PP), p ≤ f → sdGoW f it.2 p (m2 ps) = ((sdGo it p ps).1, m2 (sdGo it p ps).2)
  | 0, p, ps, h => by
    obtain rfl : p = 0 := by omega
    rw [sdGo_def, dif_pos rfl]; rfl
  | f + 1, p, ps, h => by
    rw [sdGo_def, sdGoW]
    by_cases hp : p = 0
    · rw [if_pos hp, dif_pos hp]
    · rw [if_neg hp, dif_neg hp, m2_get]
      cases hq : ps[(p - 1) / 2]? with
      | none => rfl
      | some par =>
        show (if ltW it.2 par.2 = true then sdGoW f it.2 ((p - 1) / 2) ((m2 ps).set p par.2) else (p, m2 ps)) = _
        by_cases hl : ltW it.2 par.2 = true
        · simp only [if_pos hl]
          rw [← m2_set, sdGoW_eq it f _ _ (by omega)]
        · simp only [if_neg hl]
noncomputable def sdW (p : Nat) (ps : WW) : WW := match ps[p]? with
  | some it => (sdGoW p it p ps).2.set (sdGoW p it p ps).1 it
  | none => ps
theorem sdW_eq (p : Nat) (ps : List PP) : sdW p (m2 ps) = m2 (sd p ps) := by
  unfold sdW sd
  rw [m2_get]
  cases hq : ps[p]? with
  | none => rfl
  | some it =>
    show (sdGoW p it.2 p (m2 ps)).2.set (sdGoW p it.2 p (m2 ps)).1 it.2 = _
    rw [sdGoW_eq it p p ps (Nat.le_refl _), m2_set]

noncomputable def suChildW (p : Nat) (ps : WW) : Nat := match ps[2 * p + 1]?, ps[2 * p + 2]? with
  | some l, some r => if ltW l r = true then 2 * p + 1 else 2 * p + 2
  | _, _ => 2 * p + 1
theorem suChildW_eq (p : Nat) (ps : List PP) : suChildW p (m2 ps) = suChild p ps := by
  unfold suChildW suChild
  rw [m2_get, m2_get]
  cases ps[2 * p + 1]? <;> cases ps[2 * p + 2]? <;> rfl
noncomputable def suGoW : Nat → Nat → WW → Nat × WW
  | 0, p, ps => (p, ps)
  | f + 1, p, ps => if 2 * p + 1 < ps.length then
      match ps[suChildW p ps]? with
      | some q => suGoW f (suChildW p ps) (ps.set p q)
      | none => (p, ps)
    else (p, ps)
theorem suGoW_eq : ∀ (f p : Nat) (ps : List PP), ps.length - p ≤ f → suGoW f p (m2 ps) = ((suGo p ps).1, m2 (suGo p ps).2)
  | 0, p, ps, h => by
    rw [suGo_def, dif_neg (by omega)]; rfl
  | f + 1, p, ps, h => by
    rw [suGo_def, suGoW]
    have hl : (m2 ps).length = ps.length := by simp [m2]
    rw [hl, suChildW_eq, m2_get]
    by_cases hp : 2 * p + 1 < ps.length
    · rw [if_pos hp, dif_pos hp]
      cases hq : ps[suChild p ps]? with
      | none => rfl
      | some q =>
        show suGoW f (suChild p ps) ((m2 ps).set p q.2) = _
        have := suChild_gt p ps
        rw [← m2_set, suGoW_eq f _ _ (by simp only [List.length_set]; omega)]
    · rw [if_neg hp, dif_neg hp]
noncomputable def suW (ps : WW) : WW := match ps[0]? with
  | some it => sdW (suGoW ps.length 0 ps).1 ((suGoW ps.length 0 ps).2.set (suGoW ps.length 0 ps).1 it)
  | none => ps
theorem suW_eq (ps : List PP) : suW (m2 ps) = m2 (su ps) := by
  unfold suW su
  rw [m2_get]
  cases hq : ps[0]? with
  | none => rfl
  | some it =>
    show sdW (suGoW (m2 ps).length 0 (m2 ps)).1 ((suGoW (m2 ps).length 0 (m2 ps)).2.set (suGoW (m2 ps).length 0 (m2 ps)).1 it.2) = _
    rw [suGoW_eq _ 0 ps (by simp [m2]), ← m2_set, sdW_eq]

noncomputable def popW (qs : WW) (z : List Bool) : List Bool × WW := match qs[0]? with
  | some q => (q, suW (qs.set 0 z))
  | none => (z, [])
theorem popW_eq (qs : List PP) (z : PP) : popW (m2 qs) z.2 = ((popP qs z).1.2, m2 (popP qs z).2) := by
  unfold popW popP
  rw [m2_get]
  cases hq : qs[0]? with
  | none => rfl
  | some q =>
    show (q.2, suW ((m2 qs).set 0 z.2)) = _
    rw [← m2_set, suW_eq]
noncomputable def popAllW : Nat → WW → WW
  | 0, _ => []
  | k + 1, hs => match hs.getLast? with
    | some z => (popW hs.dropLast z).1 :: popAllW k (popW hs.dropLast z).2
    | none => []
theorem popAllW_eq : ∀ (k : Nat) (hs : List PP), popAllW k (m2 hs) = m2 (popAll k hs)
  | 0, _ => rfl
  | k + 1, hs => by
    have hd : (m2 hs).dropLast = m2 hs.dropLast := by simp [m2]
    have hg : (m2 hs).getLast? = hs.getLast?.map (·.2) := by simp [m2]
    rw [popAllW, popAll, hg, hd]
    cases hs.getLast? with
    | none => rfl
    | some z =>
      show (popW (m2 hs.dropLast) z.2).1 :: popAllW k (popW (m2 hs.dropLast) z.2).2 = _
      rw [popW_eq, popAllW_eq]; rfl
noncomputable def pushW (hs : WW) (it : List Bool) : WW := sdW hs.length (hs ++ [it])
theorem pushW_eq (hs : List PP) (it : PP) : pushW (m2 hs) it.2 = m2 (pushP hs it) := by
  unfold pushW pushP
  rw [← sdW_eq]; simp [m2]
noncomputable def offW (ws : WW) : WW := popAllW ws.length (ws.foldl pushW [])
theorem foldl_m2 {f : List PP → PP → List PP} {g : WW → List Bool → WW} (h : ∀ a q, g (m2 a) q.2 = m2 (f a q)) : ∀ (ps acc : List PP), (m2 ps).foldl g (m2 acc) = m2 (ps.foldl f acc)
  | [], _ => rfl
  | p :: ps, acc => by
    show (m2 ps).foldl g (g (m2 acc) p.2) = _
    rw [h, foldl_m2 h ps]; rfl
theorem offW_eq (ps : List PP) : offW (m2 ps) = m2 (offP ps) := by
  unfold offW offP
  rw [show (m2 ps).foldl pushW [] = m2 (ps.foldl pushP []) from foldl_m2 pushW_eq ps [], popAllW_eq]; simp [m2]
noncomputable def dedStepW (acc : WW) (q : List Bool) : WW := if (acc.any fun p => p == q) = true then acc else acc ++ [q]
noncomputable def dedW (ws : WW) : WW := ws.foldl dedStepW []
theorem dedStepW_eq (acc : List PP) (q : PP) : dedStepW (m2 acc) q.2 = m2 (dedStep acc q) := by
  unfold dedStepW dedStep
  have : ((m2 acc).any fun p => p == q.2) = acc.any fun p => p.2 == q.2 := by simp [m2, List.any_map, Function.comp_def]
  rw [this]
  split
  · rfl
  · simp [m2]
theorem dedW_eq (ps : List PP) : dedW (m2 ps) = m2 (dedP ps) := foldl_m2 dedStepW_eq ps []
end

section
open PySem PySem.W PyProof.Rows PySem.Calls PyProof.Rows.LCg
section
variable {prog : Program} {w : World} {A₀ : Around} {E : Value → Shared → Prop} {s' : Shared} {h₀ h : Heap} {L a e : Addr} {m : Str → Option Value} {name : Str} {scope : Scope} {cd : Value} {news : List (Addr × Obj)} {X : String}
  {l : List Env} {frs new : List (Addr × Obj)} {b₀ : Stmt} {suite : List Stmt} {pos np : Pos} {rest : List ExceptHandler} {Q : Flow → Shared → Prop} {x : Str} {p : Program} {loose : List Str} {mean : ExcName → Option Value} {mg mb : Str → Option Value}

theorem held_back {M : Model} {A : Around} {env : Env} {Et : Value → Shared → Prop} (hf : env.frame = some L) (H : TT.HeldN h₀ L s'.heap m e X news) (k : ∀ h', TT.HeldN h₀ L h' m e X news → Et (.ref e) { s' with heap := h' }) :
    cameBackBy M A env Et (.ref e) s' := by
  obtain ⟨⟨F, ⟨ob, vs, tb, otb, tvs, he, hcls, hd, h1, htb, htd, h3, htbL, htbe, htb0⟩, hfr⟩, N, hap⟩ := H
  have hsz : 3 < tvs.size := (Array.getElem?_eq_some_iff.mp h3).1
  have happ := hap ob vs tb he hd h1
  obtain ⟨oL, esL, epL, hL, hLd, hLk, hLf⟩ := F.ns
  have he' := (Heap.get?_update_ne s'.heap _ _ (Obj.mapFields (·.setIfInBounds 3 (rawInt L))) htbe.symm).trans he
  have F' : Fr h₀ L (s'.heap.update tb (Obj.mapFields (·.setIfInBounds 3 (rawInt L)))) m :=
    ⟨⟨oL, esL, epL, (Heap.get?_update_ne _ _ _ _ htbL.symm).trans hL, hLd, hLk, hLf⟩,
     fun b o hb => (Heap.get?_update_ne _ _ _ _ (fun q => by rw [q, htb0] at hb; cases hb)).trans (F.keep b o hb), F.above⟩
  unfold cameBackBy
  refine wpAny_bind (wpAny_field he hd h1 ?_)
  rw [if_neg (by simp)]
  unfold setFlight
  refine wpAny_bind (wpAny_field he hd h1 ?_)
  rw [if_pos (show (Value.ref tb != Value.none) = true from by simp), hf]
  refine wpAny_setField htb htd hsz ?_
  refine k _ ⟨⟨F', ⟨ob, vs, tb, _, _, he', hcls, hd, h1,
    Heap.get?_update_self _ htb (Obj.isFreed_of_fields (Obj.data_mapFields htd _)), Obj.data_mapFields htd _, by simp [Array.getElem?_setIfInBounds, hsz], htbL, htbe, htb0⟩, hfr⟩,
    fun p hp => ⟨(Heap.get?_update_ne _ _ _ _ (happ p hp)).trans (N p hp).1, (N p hp).2⟩, ?_⟩
  intro ob' vs' tb' e1 e2 e3 p hp
  have e1' := he'.symm.trans e1
  obtain rfl := Option.some.inj e1'
  exact hap ob vs' tb' he e2 e3 p hp

theorem held_again {M : Model} {A : Around} {env : Env} {Q : Unit → Shared → Prop} (hf : env.frame = some L) (H : TT.HeldN h₀ L s'.heap m e X news) (k : Q () s') : wpAny M A (noteFrame (.ref e) env) Q E s' := by
  obtain ⟨⟨F, ⟨ob, vs, tb, otb, tvs, he, hcls, hd, h1, htb, htd, h3, htbL, htbe, htb0⟩, hfr⟩, N, hap⟩ := H
  exact wpAny_noteFrame_inFlight hf he hd h1 htb htd h3 k

theorem caught_T (hfr : A₀.frames = some l) (Fs : TI.Frs l frs) (hx : Heap.NewExc h s'.heap e "ValueError") (F : Fr h₀ L h m) (N : News h₀ L h (new ++ frs)) (hnd : new.all TI.notDict = true) (T : Top p loose mean mg mb h₀)
    (t1 : Str.ofString "ValueError" ∉ startupNames) (t2 : Str.ofString "ValueError" ∉ loose) (t3 : Str.ofString "ValueError" ∉ (recsOf p).map (·.name)) (t4 : Str.ofString "ValueError" ∉ (litsOf p).map (·.1)) (t5 : Str.ofString "ValueError" ∉ (clssOf p loose).map (·.name))
    (k : ∀ h' frs', TI.SameUp frs frs' → Fr h₀ L h' m → News h₀ L h' (new ++ frs') → wpAny (model prog w) ((A₀.deeper (envOf name scope L a cd)).mark (some (.ref e))) (execs (b₀ :: suite) (envOf name scope L a cd)) Q (fun _ _ => False) { s' with heap := h' })
    (hk : scope.kind = .function) (hxk : (envOf name scope L a cd).kindOf (Str.ofString "ValueError") = some .globalImplicit) :
    notedBy (model prog w) (A₀.deeper (envOf name scope L a cd)) (envOf name scope L a cd) (cameBackBy (model prog w) (A₀.deeper (envOf name scope L a cd)) (envOf name scope L a cd)
      (fun e s₁ => wpAny (model prog w) (A₀.deeper (envOf name scope L a cd)) (noteFrame e (envOf name scope L a cd)) (fun _ s₂ => wpAny (model prog w) (A₀.deeper (envOf name scope L a cd)) (setFlight e none) (fun _ s₃ => wpAny (model prog w) (A₀.deeper (envOf name scope L a cd))
        (handleBy e (envOf name scope L a cd) (.ExceptHandler (some (.Name (Str.ofString "ValueError") np)) none (b₀ :: suite) pos :: rest)) Q (fun _ _ => False) s₃) (fun _ _ => False) s₂) (fun _ _ => False) s₁)) (.ref e) s' := by
  refine TI.noted_newT hfr Fs hx F N hnd (fun h1 frs1 su Fs1 H1 => ?_) hk
  refine held_back (s' := { s' with heap := h1 }) rfl H1 fun h2 H2 => ?_
  refine held_again (s' := { s' with heap := h2 }) rfl H2 ?_
  refine TT.HeldNA.land (s' := { s' with heap := h2 }) H2 fun h3 H3 => ?_
  have hv : bootBuiltins (Str.ofString "ValueError") = some (.type (Str.ofString "ValueError").toString) := by boot_by_name
  exact TT.clause_hitTN (s' := { s' with heap := h3 }) H3 T t1 t2 t3 t4 t5 (fun h' F' N' => k h' frs1 su F' N') (hv := hv) (hk := hk) (hxk := hxk) (hE := PassesOwnAt.never)
end
end

section
open PySem PySem.W PyProof.Rows PySem.Calls PySem.SeqAt

theorem News.keptBy {h₀ h h' : Heap} {L : Addr} {news : List (Addr × Obj)} (N : News h₀ L h news) (k : Le h h') : News h₀ L h' news := fun p hp => ⟨k _ _ (N p hp).1, (N p hp).2⟩
theorem News.addNew {h₀ h h' : Heap} {L q : Addr} {o : Obj} {m : Str → Option Value} {news : List (Addr × Obj)} (F : Fr h₀ L h m) (N : News h₀ L h news) (k : Le h h') (qn : h.get? q = none) (eq : h'.get? q = some o) : News h₀ L h' ((q, o) :: news) := fun x hx => by
  rcases List.mem_cons.mp hx with rfl | hx
  · refine ⟨eq, fun e => ?_, none_le F.keep qn⟩
    obtain ⟨oL, _, _, eL, _⟩ := F.ns
    have e' : q = L := e
    rw [e'] at qn
    rw [show _ = some oL from eL] at qn; cases qn
  · exact ⟨k _ _ (N x hx).1, (N x hx).2⟩

noncomputable def ixP (ts : List PP) (x : List Bool) : Nat := ts.findIdx fun q => q.2 == x
noncomputable def rmP (ts : List PP) (q : PP) : Option (List PP) := if ixP ts q.2 < ts.length then some (ts.eraseIdx (ixP ts q.2)) else none
noncomputable def cmpP (a b : List PP) : Bool := match (dedP a).foldlM rmP (dedP b) with
  | none => false
  | some t => t.isEmpty

theorem ixP_hit {ts : List PP} {x : List Bool} (h : ixP ts x < ts.length) : ts[ixP ts x].2 = x := by
  have := List.findIdx_getElem (p := fun q : PP => q.2 == x) (w := h)
  exact eq_of_beq this
theorem ixP_before {ts : List PP} {x : List Bool} (m : Nat) (hm : m < ts.length) (h : m < ixP ts x) : ts[m].2 ≠ x := by
  have := List.not_of_lt_findIdx (p := fun q : PP => q.2 == x) h
  simpa using this
theorem ixP_miss {ts : List PP} {x : List Bool} (h : ¬ ixP ts x < ts.length) : ∀ q ∈ ts, q.2 ≠ x := by
  intro q hq e
  exact h (List.findIdx_lt_length_of_exists ⟨q, hq, by simp [e]⟩)
theorem rmP_len {ts ts' : List PP} {q : PP} (h : rmP ts q = some ts') : ts'.length ≤ ts.length ∧ ∀ x ∈ ts', x ∈ ts := by
  unfold rmP at h
  split at h
  · cases h
    exact ⟨List.length_eraseIdx_le .., fun x hx => List.mem_of_mem_eraseIdx hx⟩
  · cases h

theorem map_eraseIdx' (f : PP → Value) : ∀ (ts : List PP) (j : Nat), (ts.eraseIdx j).map f = (ts.map f).eraseIdx j
  | [], _ => rfl
  | _ :: _, 0 => rfl
  | x :: ts, j + 1 => by simp [List.eraseIdx_cons_succ, map_eraseIdx' f ts j]
theorem dedP_pre' (ps : List PP) : ∀ q ∈ dedP ps, q ∈ ps := by
  have := dedP_pre ps ps.length
  rw [List.take_length] at this
  exact this
theorem foldlM_snoc {α β : Type} (f : β → α → Option β) (l : List α) (x : α) (b : β) : (l ++ [x]).foldlM f b = (l.foldlM f b).bind fun c => f c x := by
  rw [List.foldlM_append]
  cases l.foldlM f b with
  | none => rfl
  | some c => show (List.foldlM f c [x]) = _; rw [List.foldlM_cons]; show (f c x).bind _ = f c x; cases f c x <;> rfl
theorem foldlM_take_none {α β : Type} (f : β → α → Option β) (l : List α) (i : Nat) (b : β) (h : (l.take i).foldlM f b = none) : l.foldlM f b = none := by
  rw [← List.take_append_drop i l, List.foldlM_append, h]; rfl


theorem compare_c {w : World} {A : Around} {E : Value → Shared → Prop} {s : Shared} {g : Heap} {Q : Value → Shared → Prop} {l1 l2 Lf : Addr} {p1 p2 : List PP} {oL : Obj} {el : Env} (a : Amb w g) (lg : Le g s.heap) (r : Room 5 A)
    (hfr : A.frames = some [el]) (hek : el.scope.kind ≠ .module) (hef : el.frame = some Lf) (hLf : s.heap.get? Lf = some oL) (hdict : ∃ es ep, oL.data = .dict es ep) (hout : g.get? Lf = none)
    (hl1 : g.IsList l1 (p1.map (·.1)).toArray) (hr1 : ∀ q ∈ p1, Rd g q.1 (dW q.2)) (hlen1 : p1.length ≤ 800)
    (hl2 : g.IsList l2 (p2.map (·.1)).toArray) (hr2 : ∀ q ∈ p2, Rd g q.1 (dW q.2)) (hlen2 : p2.length ≤ 800)
    (hQ : ∀ h' tk sl, (∀ b o, b ≠ Lf → s.heap.get? b = some o → h'.get? b = some o) → h'.get? Lf = some { oL with slots := sl } → Q (.bool (cmpP p1 p2)) { s with heap := h', toks := tk }) :
    wpAny (model Challenge.rw_ny0132_01.row.prog w) A (call (.ref 164) [.ref l1, .ref l2]) Q E s := by
  have l' : Le g (s.heap.hide Lf) := fun b o e => (Heap.hide_ne s.heap (fun q : b = Lf => by rw [q, hout] at e; cases e)).trans (lg b o e)
  have lh : ∀ b o, b ≠ Lf → s.heap.get? b = some o → (s.heap.hide Lf).get? b = some o := fun b o q e => (Heap.hide_ne s.heap q).trans e
  have a' := a.le l'
  obtain ⟨X, mean, mg, mb, T⟩ := a.le l'
  revert X; k_fill; intro X
  have hself := Heap.hide_self s.heap Lf
  refine weaken r ?_
  rw [hfr]
  refine enter (binds := [(Str.ofString "first_args", .ref l1), (Str.ofString "second_args", .ref l2)]) X T.nolimit (fun b o e => Heap.of_hide e) (Nat.le_of_eq (Heap.hide_size _ _)) (by k_is) (by k_is) (by show 345 < recursionLimit; decide) (BindsTo.of_eq rfl) (locs rfl) (fun h₁ F L₁ => ?_) (by decide) rfl rfl rfl
  have N : News (s.heap.hide Lf) s.heap.objs.size h₁ [(Lf, oL)] := fun q hq => by
    rw [List.mem_singleton.mp hq]
    exact ⟨L₁ _ _ hLf, Nat.ne_of_lt (Heap.lt_size hLf), Heap.hide_self _ _⟩
  show wpAny _ _ _ _ _ _
  generalize hg' : s.heap.hide Lf = g' at *
  k_fold
  (repeat' (first | (k_unfold; (try dsimp only)) | ((((((fail_if_success (with_reducible show wpAny _ _ (exec (Stmt.While _ _ _ _) _) _ _ _)); (fail_if_success (with_reducible show wpAny _ _ (exec (Stmt.For _ _ _ _ _) _) _ _ _)); (fail_if_success (with_reducible show wpAny _ _ (call (Value.ref _) _ _) _ _ _)); (fail_if_success (with_reducible show wpAny _ _ (eval (Expr.ListComp _ _ _ _) _) _ _ _)))); (fail_if_success (with_reducible show wpAny _ _ (exec (Stmt.Try _ _ _ _ _) _) _ _ _)); (fail_if_success (with_reducible show wpAny _ _ (call (Value.builtin "list.remove") _ _) _ _ _)))); (first | ((with_reducible show wpAny _ _ (storeName (envOf _ _ _ _ _) _ _) _ _ _); k_here; (with_reducible show wpAny _ _ (storeName (envOf _ _ _ _ _) _ _) _ _ _); k_dflt (refine' stG ?k1 ?k2 ?k3 ?k4 ?_; (case k1 => k_asm); (case k2 => k_asm); (case k3 => exact rfl); (case k4 => exact rfl); k_whole); intro sgH sgT sgM sgE sgD sgF sgN; (try k_sweep)) | (k_here; (with_reducible show wpAny _ _ (eval (Expr.Name _ _) (compEnvC _ _ _ _)) _ _ _); (with_reducible rename Fr _ _ _ _ => kF); k_dflt (refine' cname kF ?k2 ?_ ?k3 ?k4; (case k3 => exact rfl); (case k4 => exact rfl); (case k2 => ((repeat' (first | (with_reducible assumption) | exact if_pos rfl | refine Eq.trans (if_neg (by decide)) ?_ | (refine Eq.trans (stG_at (by with_reducible assumption) (by decide)) ?_) | exact rfl)); done)); k_whole)) | (k_here; (with_reducible show wpAny _ _ (eval (Expr.Name _ _) (envOf _ _ _ _ _)) _ _ _); (with_reducible rename Fr _ _ _ _ => kF); k_dflt (refine' ld kF ?k2 ?_; (case k2 => ((repeat' (first | (with_reducible assumption) | exact if_pos rfl | refine Eq.trans (if_neg (by decide)) ?_ | (refine Eq.trans (stG_at (by with_reducible assumption) (by decide)) ?_) | exact rfl)); done)); k_whole)) | walk1)) | ((((((fail_if_success (with_reducible show wpAny _ _ (exec (Stmt.While _ _ _ _) _) _ _ _)); (fail_if_success (with_reducible show wpAny _ _ (exec (Stmt.For _ _ _ _ _) _) _ _ _)); (fail_if_success (with_reducible show wpAny _ _ (call (Value.ref _) _ _) _ _ _)); (fail_if_success (with_reducible show wpAny _ _ (eval (Expr.ListComp _ _ _ _) _) _ _ _)))); (fail_if_success (with_reducible show wpAny _ _ (exec (Stmt.Try _ _ _ _ _) _) _ _ _)); (fail_if_success (with_reducible show wpAny _ _ (call (Value.builtin "list.remove") _ _) _ _ _)))); dsimp only; (((((fail_if_success (with_reducible show wpAny _ _ (exec (Stmt.While _ _ _ _) _) _ _ _)); (fail_if_success (with_reducible show wpAny _ _ (exec (Stmt.For _ _ _ _ _) _) _ _ _)); (fail_if_success (with_reducible show wpAny _ _ (call (Value.ref _) _ _) _ _ _)); (fail_if_success (with_reducible show wpAny _ _ (eval (Expr.ListComp _ _ _ _) _) _ _ _)))); (fail_if_success (with_reducible show wpAny _ _ (exec (Stmt.Try _ _ _ _ _) _) _ _ _)); (fail_if_success (with_reducible show wpAny _ _ (call (Value.builtin "list.remove") _ _) _ _ _)))); (first | ((with_reducible show wpAny _ _ (storeName (envOf _ _ _ _ _) _ _) _ _ _); k_here; (with_reducible show wpAny _ _ (storeName (envOf _ _ _ _ _) _ _) _ _ _); k_dflt (refine' stG ?k1 ?k2 ?k3 ?k4 ?_; (case k1 => k_asm); (case k2 => k_asm); (case k3 => exact rfl); (case k4 => exact rfl); k_whole); intro sgH sgT sgM sgE sgD sgF sgN; (try k_sweep)) | (k_here; (with_reducible show wpAny _ _ (eval (Expr.Name _ _) (compEnvC _ _ _ _)) _ _ _); (with_reducible rename Fr _ _ _ _ => kF); k_dflt (refine' cname kF ?k2 ?_ ?k3 ?k4; (case k3 => exact rfl); (case k4 => exact rfl); (case k2 => ((repeat' (first | (with_reducible assumption) | exact if_pos rfl | refine Eq.trans (if_neg (by decide)) ?_ | (refine Eq.trans (stG_at (by with_reducible assumption) (by decide)) ?_) | exact rfl)); done)); k_whole)) | (k_here; (with_reducible show wpAny _ _ (eval (Expr.Name _ _) (envOf _ _ _ _ _)) _ _ _); (with_reducible rename Fr _ _ _ _ => kF); k_dflt (refine' ld kF ?k2 ?_; (case k2 => ((repeat' (first | (with_reducible assumption) | exact if_pos rfl | refine Eq.trans (if_neg (by decide)) ?_ | (refine Eq.trans (stG_at (by with_reducible assumption) (by decide)) ?_) | exact rfl)); done)); k_whole)) | walk1)) | fail "no step"))
  rename Fr _ _ _ _ => F1
  rename News _ _ _ _ => N1
  refine dedup_c a' F1.keep (Room.deeper _) (hl1.at fun o e => l' _ o e) (fun q hq => (hr1 q hq).le l') hlen1 (fun h2 tk2 fa n2 k2 q2 e2 => ?_)
  have F2 := F1.kept k2
  have N2 := News.addNew F1 N1 k2 q2 e2
  clear F1 N1
  (repeat' (first | (k_unfold; (try dsimp only)) | ((((((fail_if_success (with_reducible show wpAny _ _ (exec (Stmt.While _ _ _ _) _) _ _ _)); (fail_if_success (with_reducible show wpAny _ _ (exec (Stmt.For _ _ _ _ _) _) _ _ _)); (fail_if_success (with_reducible show wpAny _ _ (call (Value.ref _) _ _) _ _ _)); (fail_if_success (with_reducible show wpAny _ _ (eval (Expr.ListComp _ _ _ _) _) _ _ _)))); (fail_if_success (with_reducible show wpAny _ _ (exec (Stmt.Try _ _ _ _ _) _) _ _ _)); (fail_if_success (with_reducible show wpAny _ _ (call (Value.builtin "list.remove") _ _) _ _ _)))); (first | ((with_reducible show wpAny _ _ (storeName (envOf _ _ _ _ _) _ _) _ _ _); k_here; (with_reducible show wpAny _ _ (storeName (envOf _ _ _ _ _) _ _) _ _ _); k_dflt (refine' stG ?k1 ?k2 ?k3 ?k4 ?_; (case k1 => k_asm); (case k2 => k_asm); (case k3 => exact rfl); (case k4 => exact rfl); k_whole); intro sgH sgT sgM sgE sgD sgF sgN; (try k_sweep)) | (k_here; (with_reducible show wpAny _ _ (eval (Expr.Name _ _) (compEnvC _ _ _ _)) _ _ _); (with_reducible rename Fr _ _ _ _ => kF); k_dflt (refine' cname kF ?k2 ?_ ?k3 ?k4; (case k3 => exact rfl); (case k4 => exact rfl); (case k2 => ((repeat' (first | (with_reducible assumption) | exact if_pos rfl | refine Eq.trans (if_neg (by decide)) ?_ | (refine Eq.trans (stG_at (by with_reducible assumption) (by decide)) ?_) | exact rfl)); done)); k_whole)) | (k_here; (with_reducible show wpAny _ _ (eval (Expr.Name _ _) (envOf _ _ _ _ _)) _ _ _); (with_reducible rename Fr _ _ _ _ => kF); k_dflt (refine' ld kF ?k2 ?_; (case k2 => ((repeat' (first | (with_reducible assumption) | exact if_pos rfl | refine Eq.trans (if_neg (by decide)) ?_ | (refine Eq.trans (stG_at (by with_reducible assumption) (by decide)) ?_) | exact rfl)); done)); k_whole)) | walk1)) | ((((((fail_if_success (with_reducible show wpAny _ _ (exec (Stmt.While _ _ _ _) _) _ _ _)); (fail_if_success (with_reducible show wpAny _ _ (exec (Stmt.For _ _ _ _ _) _) _ _ _)); (fail_if_success (with_reducible show wpAny _ _ (call (Value.ref _) _ _) _ _ _)); (fail_if_success (with_reducible show wpAny _ _ (eval (Expr.ListComp _ _ _ _) _) _ _ _)))); (fail_if_success (with_reducible show wpAny _ _ (exec (Stmt.Try _ _ _ _ _) _) _ _ _)); (fail_if_success (with_reducible show wpAny _ _ (call (Value.builtin "list.remove") _ _) _ _ _)))); dsimp only; (((((fail_if_success (with_reducible show wpAny _ _ (exec (Stmt.While _ _ _ _) _) _ _ _)); (fail_if_success (with_reducible show wpAny _ _ (exec (Stmt.For _ _ _ _ _) _) _ _ _)); (fail_if_success (with_reducible show wpAny _ _ (call (Value.ref _) _ _) _ _ _)); (fail_if_success (with_reducible show wpAny _ _ (eval (Expr.ListComp _ _ _ _) _) _ _ _)))); (fail_if_success (with_reducible show wpAny _ _ (exec (Stmt.Try _ _ _ _ _) _) _ _ _)); (fail_if_success (with_reducible show wpAny _ _ (call (Value.builtin "list.remove") _ _) _ _ _)))); (first | ((with_reducible show wpAny _ _ (storeName (envOf _ _ _ _ _) _ _) _ _ _); k_here; (with_reducible show wpAny _ _ (storeName (envOf _ _ _ _ _) _ _) _ _ _); k_dflt (refine' stG ?k1 ?k2 ?k3 ?k4 ?_; (case k1 => k_asm); (case k2 => k_asm); (case k3 => exact rfl); (case k4 => exact rfl); k_whole); intro sgH sgT sgM sgE sgD sgF sgN; (try k_sweep)) | (k_here; (with_reducible show wpAny _ _ (eval (Expr.Name _ _) (compEnvC _ _ _ _)) _ _ _); (with_reducible rename Fr _ _ _ _ => kF); k_dflt (refine' cname kF ?k2 ?_ ?k3 ?k4; (case k3 => exact rfl); (case k4 => exact rfl); (case k2 => ((repeat' (first | (with_reducible assumption) | exact if_pos rfl | refine Eq.trans (if_neg (by decide)) ?_ | (refine Eq.trans (stG_at (by with_reducible assumption) (by decide)) ?_) | exact rfl)); done)); k_whole)) | (k_here; (with_reducible show wpAny _ _ (eval (Expr.Name _ _) (envOf _ _ _ _ _)) _ _ _); (with_reducible rename Fr _ _ _ _ => kF); k_dflt (refine' ld kF ?k2 ?_; (case k2 => ((repeat' (first | (with_reducible assumption) | exact if_pos rfl | refine Eq.trans (if_neg (by decide)) ?_ | (refine Eq.trans (stG_at (by with_reducible assumption) (by decide)) ?_) | exact rfl)); done)); k_whole)) | walk1)) | fail "no step"))
  rename Fr _ _ _ _ => F3
  rename News _ _ _ _ => N3
  refine dedup_c a' F3.keep (Room.deeper _) (hl2.at fun o e => l' _ o e) (fun q hq => (hr2 q hq).le l') hlen2 (fun h4 tk4 sa n4 k4 q4 e4 => ?_)
  have F4 := F3.kept k4
  have N4 := News.addNew F3 N3 k4 q4 e4
  have hd1 := dedP_len p1 []
  have hd2 := dedP_len p2 []
  clear F3 N3
  (repeat' (first | (k_unfold; (try dsimp only)) | ((((((fail_if_success (with_reducible show wpAny _ _ (exec (Stmt.While _ _ _ _) _) _ _ _)); (fail_if_success (with_reducible show wpAny _ _ (exec (Stmt.For _ _ _ _ _) _) _ _ _)); (fail_if_success (with_reducible show wpAny _ _ (call (Value.ref _) _ _) _ _ _)); (fail_if_success (with_reducible show wpAny _ _ (eval (Expr.ListComp _ _ _ _) _) _ _ _)))); (fail_if_success (with_reducible show wpAny _ _ (exec (Stmt.Try _ _ _ _ _) _) _ _ _)); (fail_if_success (with_reducible show wpAny _ _ (call (Value.builtin "list.remove") _ _) _ _ _)))); (first | ((with_reducible show wpAny _ _ (storeName (envOf _ _ _ _ _) _ _) _ _ _); k_here; (with_reducible show wpAny _ _ (storeName (envOf _ _ _ _ _) _ _) _ _ _); k_dflt (refine' stG ?k1 ?k2 ?k3 ?k4 ?_; (case k1 => k_asm); (case k2 => k_asm); (case k3 => exact rfl); (case k4 => exact rfl); k_whole); intro sgH sgT sgM sgE sgD sgF sgN; (try k_sweep)) | (k_here; (with_reducible show wpAny _ _ (eval (Expr.Name _ _) (compEnvC _ _ _ _)) _ _ _); (with_reducible rename Fr _ _ _ _ => kF); k_dflt (refine' cname kF ?k2 ?_ ?k3 ?k4; (case k3 => exact rfl); (case k4 => exact rfl); (case k2 => ((repeat' (first | (with_reducible assumption) | exact if_pos rfl | refine Eq.trans (if_neg (by decide)) ?_ | (refine Eq.trans (stG_at (by with_reducible assumption) (by decide)) ?_) | exact rfl)); done)); k_whole)) | (k_here; (with_reducible show wpAny _ _ (eval (Expr.Name _ _) (envOf _ _ _ _ _)) _ _ _); (with_reducible rename Fr _ _ _ _ => kF); k_dflt (refine' ld kF ?k2 ?_; (case k2 => ((repeat' (first | (with_reducible assumption) | exact if_pos rfl | refine Eq.trans (if_neg (by decide)) ?_ | (refine Eq.trans (stG_at (by with_reducible assumption) (by decide)) ?_) | exact rfl)); done)); k_whole)) | walk1)) | ((((((fail_if_success (with_reducible show wpAny _ _ (exec (Stmt.While _ _ _ _) _) _ _ _)); (fail_if_success (with_reducible show wpAny _ _ (exec (Stmt.For _ _ _ _ _) _) _ _ _)); (fail_if_success (with_reducible show wpAny _ _ (call (Value.ref _) _ _) _ _ _)); (fail_if_success (with_reducible show wpAny _ _ (eval (Expr.ListComp _ _ _ _) _) _ _ _)))); (fail_if_success (with_reducible show wpAny _ _ (exec (Stmt.Try _ _ _ _ _) _) _ _ _)); (fail_if_success (with_reducible show wpAny _ _ (call (Value.builtin "list.remove") _ _) _ _ _)))); dsimp only; (((((fail_if_success (with_reducible show wpAny _ _ (exec (Stmt.While _ _ _ _) _) _ _ _)); (fail_if_success (with_reducible show wpAny _ _ (exec (Stmt.For _ _ _ _ _) _) _ _ _)); (fail_if_success (with_reducible show wpAny _ _ (call (Value.ref _) _ _) _ _ _)); (fail_if_success (with_reducible show wpAny _ _ (eval (Expr.ListComp _ _ _ _) _) _ _ _)))); (fail_if_success (with_reducible show wpAny _ _ (exec (Stmt.Try _ _ _ _ _) _) _ _ _)); (fail_if_success (with_reducible show wpAny _ _ (call (Value.builtin "list.remove") _ _) _ _ _)))); (first | ((with_reducible show wpAny _ _ (storeName (envOf _ _ _ _ _) _ _) _ _ _); k_here; (with_reducible show wpAny _ _ (storeName (envOf _ _ _ _ _) _ _) _ _ _); k_dflt (refine' stG ?k1 ?k2 ?k3 ?k4 ?_; (case k1 => k_asm); (case k2 => k_asm); (case k3 => exact rfl); (case k4 => exact rfl); k_whole); intro sgH sgT sgM sgE sgD sgF sgN; (try k_sweep)) | (k_here; (with_reducible show wpAny _ _ (eval (Expr.Name _ _) (compEnvC _ _ _ _)) _ _ _); (with_reducible rename Fr _ _ _ _ => kF); k_dflt (refine' cname kF ?k2 ?_ ?k3 ?k4; (case k3 => exact rfl); (case k4 => exact rfl); (case k2 => ((repeat' (first | (with_reducible assumption) | exact if_pos rfl | refine Eq.trans (if_neg (by decide)) ?_ | (refine Eq.trans (stG_at (by with_reducible assumption) (by decide)) ?_) | exact rfl)); done)); k_whole)) | (k_here; (with_reducible show wpAny _ _ (eval (Expr.Name _ _) (envOf _ _ _ _ _)) _ _ _); (with_reducible rename Fr _ _ _ _ => kF); k_dflt (refine' ld kF ?k2 ?_; (case k2 => ((repeat' (first | (with_reducible assumption) | exact if_pos rfl | refine Eq.trans (if_neg (by decide)) ?_ | (refine Eq.trans (stG_at (by with_reducible assumption) (by decide)) ?_) | exact rfl)); done)); k_whole)) | walk1)) | fail "no step"))
  rename Fr _ _ _ _ => F5
  rename News _ _ _ _ => N5
  refine list_copyK F5 N5 (PySem.IsL.isList (n := n4) (N5 _ (.head _)).1) (fun ta c5 h6 F6 N6 lt6 => ?_) (by rw [sizeLine_eq]; show (List.map _ (List.foldl dedStep [] p2)).toArray.size ≤ _; simp at hd2 ⊢; omega)
  have hfa : @Ne Nat fa ta := Nat.ne_of_lt (lt6 _ (.tail _ (.head _)))
  have hLa : @Ne Nat Lf ta := Nat.ne_of_lt (lt6 _ (.tail _ (.tail _ (.head _))))
  clear F5 N5
  (repeat' (first | (k_unfold; (try dsimp only)) | ((((((fail_if_success (with_reducible show wpAny _ _ (exec (Stmt.While _ _ _ _) _) _ _ _)); (fail_if_success (with_reducible show wpAny _ _ (exec (Stmt.For _ _ _ _ _) _) _ _ _)); (fail_if_success (with_reducible show wpAny _ _ (call (Value.ref _) _ _) _ _ _)); (fail_if_success (with_reducible show wpAny _ _ (eval (Expr.ListComp _ _ _ _) _) _ _ _)))); (fail_if_success (with_reducible show wpAny _ _ (exec (Stmt.Try _ _ _ _ _) _) _ _ _)); (fail_if_success (with_reducible show wpAny _ _ (call (Value.builtin "list.remove") _ _) _ _ _)))); (first | ((with_reducible show wpAny _ _ (storeName (envOf _ _ _ _ _) _ _) _ _ _); k_here; (with_reducible show wpAny _ _ (storeName (envOf _ _ _ _ _) _ _) _ _ _); k_dflt (refine' stG ?k1 ?k2 ?k3 ?k4 ?_; (case k1 => k_asm); (case k2 => k_asm); (case k3 => exact rfl); (case k4 => exact rfl); k_whole); intro sgH sgT sgM sgE sgD sgF sgN; (try k_sweep)) | (k_here; (with_reducible show wpAny _ _ (eval (Expr.Name _ _) (compEnvC _ _ _ _)) _ _ _); (with_reducible rename Fr _ _ _ _ => kF); k_dflt (refine' cname kF ?k2 ?_ ?k3 ?k4; (case k3 => exact rfl); (case k4 => exact rfl); (case k2 => ((repeat' (first | (with_reducible assumption) | exact if_pos rfl | refine Eq.trans (if_neg (by decide)) ?_ | (refine Eq.trans (stG_at (by with_reducible assumption) (by decide)) ?_) | exact rfl)); done)); k_whole)) | (k_here; (with_reducible show wpAny _ _ (eval (Expr.Name _ _) (envOf _ _ _ _ _)) _ _ _); (with_reducible rename Fr _ _ _ _ => kF); k_dflt (refine' ld kF ?k2 ?_; (case k2 => ((repeat' (first | (with_reducible assumption) | exact if_pos rfl | refine Eq.trans (if_neg (by decide)) ?_ | (refine Eq.trans (stG_at (by with_reducible assumption) (by decide)) ?_) | exact rfl)); done)); k_whole)) | walk1)) | ((((((fail_if_success (with_reducible show wpAny _ _ (exec (Stmt.While _ _ _ _) _) _ _ _)); (fail_if_success (with_reducible show wpAny _ _ (exec (Stmt.For _ _ _ _ _) _) _ _ _)); (fail_if_success (with_reducible show wpAny _ _ (call (Value.ref _) _ _) _ _ _)); (fail_if_success (with_reducible show wpAny _ _ (eval (Expr.ListComp _ _ _ _) _) _ _ _)))); (fail_if_success (with_reducible show wpAny _ _ (exec (Stmt.Try _ _ _ _ _) _) _ _ _)); (fail_if_success (with_reducible show wpAny _ _ (call (Value.builtin "list.remove") _ _) _ _ _)))); dsimp only; (((((fail_if_success (with_reducible show wpAny _ _ (exec (Stmt.While _ _ _ _) _) _ _ _)); (fail_if_success (with_reducible show wpAny _ _ (exec (Stmt.For _ _ _ _ _) _) _ _ _)); (fail_if_success (with_reducible show wpAny _ _ (call (Value.ref _) _ _) _ _ _)); (fail_if_success (with_reducible show wpAny _ _ (eval (Expr.ListComp _ _ _ _) _) _ _ _)))); (fail_if_success (with_reducible show wpAny _ _ (exec (Stmt.Try _ _ _ _ _) _) _ _ _)); (fail_if_success (with_reducible show wpAny _ _ (call (Value.builtin "list.remove") _ _) _ _ _)))); (first | ((with_reducible show wpAny _ _ (storeName (envOf _ _ _ _ _) _ _) _ _ _); k_here; (with_reducible show wpAny _ _ (storeName (envOf _ _ _ _ _) _ _) _ _ _); k_dflt (refine' stG ?k1 ?k2 ?k3 ?k4 ?_; (case k1 => k_asm); (case k2 => k_asm); (case k3 => exact rfl); (case k4 => exact rfl); k_whole); intro sgH sgT sgM sgE sgD sgF sgN; (try k_sweep)) | (k_here; (with_reducible show wpAny _ _ (eval (Expr.Name _ _) (compEnvC _ _ _ _)) _ _ _); (with_reducible rename Fr _ _ _ _ => kF); k_dflt (refine' cname kF ?k2 ?_ ?k3 ?k4; (case k3 => exact rfl); (case k4 => exact rfl); (case k2 => ((repeat' (first | (with_reducible assumption) | exact if_pos rfl | refine Eq.trans (if_neg (by decide)) ?_ | (refine Eq.trans (stG_at (by with_reducible assumption) (by decide)) ?_) | exact rfl)); done)); k_whole)) | (k_here; (with_reducible show wpAny _ _ (eval (Expr.Name _ _) (envOf _ _ _ _ _)) _ _ _); (with_reducible rename Fr _ _ _ _ => kF); k_dflt (refine' ld kF ?k2 ?_; (case k2 => ((repeat' (first | (with_reducible assumption) | exact if_pos rfl | refine Eq.trans (if_neg (by decide)) ?_ | (refine Eq.trans (stG_at (by with_reducible assumption) (by decide)) ?_) | exact rfl)); done)); k_whole)) | walk1)) | fail "no step"))
  rename Fr _ _ _ _ => F7
  rename News _ _ _ _ => N7
  refine wpAny_Try_except ?_
  (repeat' (first | (k_unfold; (try dsimp only)) | ((((((fail_if_success (with_reducible show wpAny _ _ (exec (Stmt.While _ _ _ _) _) _ _ _)); (fail_if_success (with_reducible show wpAny _ _ (exec (Stmt.For _ _ _ _ _) _) _ _ _)); (fail_if_success (with_reducible show wpAny _ _ (call (Value.ref _) _ _) _ _ _)); (fail_if_success (with_reducible show wpAny _ _ (eval (Expr.ListComp _ _ _ _) _) _ _ _)))); (fail_if_success (with_reducible show wpAny _ _ (exec (Stmt.Try _ _ _ _ _) _) _ _ _)); (fail_if_success (with_reducible show wpAny _ _ (call (Value.builtin "list.remove") _ _) _ _ _)))); (first | ((with_reducible show wpAny _ _ (storeName (envOf _ _ _ _ _) _ _) _ _ _); k_here; (with_reducible show wpAny _ _ (storeName (envOf _ _ _ _ _) _ _) _ _ _); k_dflt (refine' stG ?k1 ?k2 ?k3 ?k4 ?_; (case k1 => k_asm); (case k2 => k_asm); (case k3 => exact rfl); (case k4 => exact rfl); k_whole); intro sgH sgT sgM sgE sgD sgF sgN; (try k_sweep)) | (k_here; (with_reducible show wpAny _ _ (eval (Expr.Name _ _) (compEnvC _ _ _ _)) _ _ _); (with_reducible rename Fr _ _ _ _ => kF); k_dflt (refine' cname kF ?k2 ?_ ?k3 ?k4; (case k3 => exact rfl); (case k4 => exact rfl); (case k2 => ((repeat' (first | (with_reducible assumption) | exact if_pos rfl | refine Eq.trans (if_neg (by decide)) ?_ | (refine Eq.trans (stG_at (by with_reducible assumption) (by decide)) ?_) | exact rfl)); done)); k_whole)) | (k_here; (with_reducible show wpAny _ _ (eval (Expr.Name _ _) (envOf _ _ _ _ _)) _ _ _); (with_reducible rename Fr _ _ _ _ => kF); k_dflt (refine' ld kF ?k2 ?_; (case k2 => ((repeat' (first | (with_reducible assumption) | exact if_pos rfl | refine Eq.trans (if_neg (by decide)) ?_ | (refine Eq.trans (stG_at (by with_reducible assumption) (by decide)) ?_) | exact rfl)); done)); k_whole)) | walk1)) | ((((((fail_if_success (with_reducible show wpAny _ _ (exec (Stmt.While _ _ _ _) _) _ _ _)); (fail_if_success (with_reducible show wpAny _ _ (exec (Stmt.For _ _ _ _ _) _) _ _ _)); (fail_if_success (with_reducible show wpAny _ _ (call (Value.ref _) _ _) _ _ _)); (fail_if_success (with_reducible show wpAny _ _ (eval (Expr.ListComp _ _ _ _) _) _ _ _)))); (fail_if_success (with_reducible show wpAny _ _ (exec (Stmt.Try _ _ _ _ _) _) _ _ _)); (fail_if_success (with_reducible show wpAny _ _ (call (Value.builtin "list.remove") _ _) _ _ _)))); dsimp only; (((((fail_if_success (with_reducible show wpAny _ _ (exec (Stmt.While _ _ _ _) _) _ _ _)); (fail_if_success (with_reducible show wpAny _ _ (exec (Stmt.For _ _ _ _ _) _) _ _ _)); (fail_if_success (with_reducible show wpAny _ _ (call (Value.ref _) _ _) _ _ _)); (fail_if_success (with_reducible show wpAny _ _ (eval (Expr.ListComp _ _ _ _) _) _ _ _)))); (fail_if_success (with_reducible show wpAny _ _ (exec (Stmt.Try _ _ _ _ _) _) _ _ _)); (fail_if_success (with_reducible show wpAny _ _ (call (Value.builtin "list.remove") _ _) _ _ _)))); (first | ((with_reducible show wpAny _ _ (storeName (envOf _ _ _ _ _) _ _) _ _ _); k_here; (with_reducible show wpAny _ _ (storeName (envOf _ _ _ _ _) _ _) _ _ _); k_dflt (refine' stG ?k1 ?k2 ?k3 ?k4 ?_; (case k1 => k_asm); (case k2 => k_asm); (case k3 => exact rfl); (case k4 => exact rfl); k_whole); intro sgH sgT sgM sgE sgD sgF sgN; (try k_sweep)) | (k_here; (with_reducible show wpAny _ _ (eval (Expr.Name _ _) (compEnvC _ _ _ _)) _ _ _); (with_reducible rename Fr _ _ _ _ => kF); k_dflt (refine' cname kF ?k2 ?_ ?k3 ?k4; (case k3 => exact rfl); (case k4 => exact rfl); (case k2 => ((repeat' (first | (with_reducible assumption) | exact if_pos rfl | refine Eq.trans (if_neg (by decide)) ?_ | (refine Eq.trans (stG_at (by with_reducible assumption) (by decide)) ?_) | exact rfl)); done)); k_whole)) | (k_here; (with_reducible show wpAny _ _ (eval (Expr.Name _ _) (envOf _ _ _ _ _)) _ _ _); (with_reducible rename Fr _ _ _ _ => kF); k_dflt (refine' ld kF ?k2 ?_; (case k2 => ((repeat' (first | (with_reducible assumption) | exact if_pos rfl | refine Eq.trans (if_neg (by decide)) ?_ | (refine Eq.trans (stG_at (by with_reducible assumption) (by decide)) ?_) | exact rfl)); done)); k_whole)) | walk1)) | fail "no step"))
  have Fs : TI.Frs [el] [(Lf, oL)] := ⟨hek, hef, hdict, trivial⟩
  have rr1 : ∀ q ∈ dedP p1, Rd g' q.1 (dW q.2) := fun q hq => (hr1 q (dedP_pre' p1 q hq)).le l'
  have rr2 : ∀ q ∈ dedP p2, Rd g' q.1 (dW q.2) := fun q hq => (hr2 q (dedP_pre' p2 q hq)).le l'
  have N7' : News g' s.heap.objs.size _ [(ta, listOf ((dedP p2).map (·.1)).toArray c5), (fa, listOf ((dedP p1).map (·.1)).toArray n2), (Lf, oL)] := fun x hx => N7 x (by
    rcases List.mem_cons.mp hx with rfl | hx
    · exact .head _
    · exact .tail _ (.tail _ hx))
  refine for_rule3 (items := ((dedP p1).map (·.1)).toArray) F7 N7' rfl rfl rfl rfl (fun Q' h => ld F7 (by ((repeat' (first | (with_reducible assumption) | exact if_pos rfl | refine Eq.trans (if_neg (by decide)) ?_ | (refine Eq.trans (stG_at (by with_reducible assumption) (by decide)) ?_) | exact rfl)); done)) h)
    (fun i m news => ∃ ts n, m (Str.ofString "t") = some (.ref ta) ∧ ((dedP p1).take i).foldlM rmP (dedP p2) = some ts ∧ ts.length ≤ 800 ∧ (∀ q ∈ ts, q ∈ dedP p2) ∧ news = [(ta, listOf (ts.map (·.1)).toArray n), (fa, listOf ((dedP p1).map (·.1)).toArray n2), (Lf, oL)])
    ⟨dedP p2, c5, by ((repeat' (first | (with_reducible assumption) | exact if_pos rfl | refine Eq.trans (if_neg (by decide)) ?_ | (refine Eq.trans (stG_at (by with_reducible assumption) (by decide)) ?_) | exact rfl)); done), rfl, Nat.le_trans hd2 (by simpa using hlen2), fun _ q => q, rfl⟩ (fun i h m news F8 N8 hJ => ?_) (fun i v I oI m₁ news₁ h₁ tk₁ hv hJ F8 N8 hoff hfs => ?_) (fun h8 tk8 m8 news8 F8 N8 hJ => ?_)
  · obtain ⟨ts, n, _, _, _, _, rfl⟩ := hJ
    exact PySem.IsL.isList (n := n2) (N8 _ (.tail _ (.head _))).1
  · obtain ⟨ts, n, m1, hfold, hlt, hsub, rfl⟩ := hJ
    have hi : i < (dedP p1).length := by
      rcases Nat.lt_or_ge i (dedP p1).length with q | q
      · exact q
      · rw [Array.getElem?_eq_none (by simpa using q)] at hv; cases hv
    obtain rfl : v = ((dedP p1)[i]).1 := by simpa [hi] using hv.symm
    have hI : @Ne Nat ta I := hoff _ (.head _)
    have hst : ((dedP p1).take (i + 1)).foldlM rmP (dedP p2) = rmP ts (dedP p1)[i] := by
      rw [List.take_succ_eq_append_getElem hi, foldlM_snoc, hfold]; rfl
    clear F7 N7 N7'
    (repeat' (first | (k_unfold; (try dsimp only)) | ((((((fail_if_success (with_reducible show wpAny _ _ (exec (Stmt.While _ _ _ _) _) _ _ _)); (fail_if_success (with_reducible show wpAny _ _ (exec (Stmt.For _ _ _ _ _) _) _ _ _)); (fail_if_success (with_reducible show wpAny _ _ (call (Value.ref _) _ _) _ _ _)); (fail_if_success (with_reducible show wpAny _ _ (eval (Expr.ListComp _ _ _ _) _) _ _ _)))); (fail_if_success (with_reducible show wpAny _ _ (exec (Stmt.Try _ _ _ _ _) _) _ _ _)); (fail_if_success (with_reducible show wpAny _ _ (call (Value.builtin "list.remove") _ _) _ _ _)))); (first | ((with_reducible show wpAny _ _ (storeName (envOf _ _ _ _ _) _ _) _ _ _); k_here; (with_reducible show wpAny _ _ (storeName (envOf _ _ _ _ _) _ _) _ _ _); k_dflt (refine' stG ?k1 ?k2 ?k3 ?k4 ?_; (case k1 => k_asm); (case k2 => k_asm); (case k3 => exact rfl); (case k4 => exact rfl); k_whole); intro sgH sgT sgM sgE sgD sgF sgN; (try k_sweep)) | (k_here; (with_reducible show wpAny _ _ (eval (Expr.Name _ _) (compEnvC _ _ _ _)) _ _ _); (with_reducible rename Fr _ _ _ _ => kF); k_dflt (refine' cname kF ?k2 ?_ ?k3 ?k4; (case k3 => exact rfl); (case k4 => exact rfl); (case k2 => ((repeat' (first | (with_reducible assumption) | exact if_pos rfl | refine Eq.trans (if_neg (by decide)) ?_ | (refine Eq.trans (stG_at (by with_reducible assumption) (by decide)) ?_) | exact rfl)); done)); k_whole)) | (k_here; (with_reducible show wpAny _ _ (eval (Expr.Name _ _) (envOf _ _ _ _ _)) _ _ _); (with_reducible rename Fr _ _ _ _ => kF); k_dflt (refine' ld kF ?k2 ?_; (case k2 => ((repeat' (first | (with_reducible assumption) | exact if_pos rfl | refine Eq.trans (if_neg (by decide)) ?_ | (refine Eq.trans (stG_at (by with_reducible assumption) (by decide)) ?_) | exact rfl)); done)); k_whole)) | walk1)) | ((((((fail_if_success (with_reducible show wpAny _ _ (exec (Stmt.While _ _ _ _) _) _ _ _)); (fail_if_success (with_reducible show wpAny _ _ (exec (Stmt.For _ _ _ _ _) _) _ _ _)); (fail_if_success (with_reducible show wpAny _ _ (call (Value.ref _) _ _) _ _ _)); (fail_if_success (with_reducible show wpAny _ _ (eval (Expr.ListComp _ _ _ _) _) _ _ _)))); (fail_if_success (with_reducible show wpAny _ _ (exec (Stmt.Try _ _ _ _ _) _) _ _ _)); (fail_if_success (with_reducible show wpAny _ _ (call (Value.builtin "list.remove") _ _) _ _ _)))); dsimp only; (((((fail_if_success (with_reducible show wpAny _ _ (exec (Stmt.While _ _ _ _) _) _ _ _)); (fail_if_success (with_reducible show wpAny _ _ (exec (Stmt.For _ _ _ _ _) _) _ _ _)); (fail_if_success (with_reducible show wpAny _ _ (call (Value.ref _) _ _) _ _ _)); (fail_if_success (with_reducible show wpAny _ _ (eval (Expr.ListComp _ _ _ _) _) _ _ _)))); (fail_if_success (with_reducible show wpAny _ _ (exec (Stmt.Try _ _ _ _ _) _) _ _ _)); (fail_if_success (with_reducible show wpAny _ _ (call (Value.builtin "list.remove") _ _) _ _ _)))); (first | ((with_reducible show wpAny _ _ (storeName (envOf _ _ _ _ _) _ _) _ _ _); k_here; (with_reducible show wpAny _ _ (storeName (envOf _ _ _ _ _) _ _) _ _ _); k_dflt (refine' stG ?k1 ?k2 ?k3 ?k4 ?_; (case k1 => k_asm); (case k2 => k_asm); (case k3 => exact rfl); (case k4 => exact rfl); k_whole); intro sgH sgT sgM sgE sgD sgF sgN; (try k_sweep)) | (k_here; (with_reducible show wpAny _ _ (eval (Expr.Name _ _) (compEnvC _ _ _ _)) _ _ _); (with_reducible rename Fr _ _ _ _ => kF); k_dflt (refine' cname kF ?k2 ?_ ?k3 ?k4; (case k3 => exact rfl); (case k4 => exact rfl); (case k2 => ((repeat' (first | (with_reducible assumption) | exact if_pos rfl | refine Eq.trans (if_neg (by decide)) ?_ | (refine Eq.trans (stG_at (by with_reducible assumption) (by decide)) ?_) | exact rfl)); done)); k_whole)) | (k_here; (with_reducible show wpAny _ _ (eval (Expr.Name _ _) (envOf _ _ _ _ _)) _ _ _); (with_reducible rename Fr _ _ _ _ => kF); k_dflt (refine' ld kF ?k2 ?_; (case k2 => ((repeat' (first | (with_reducible assumption) | exact if_pos rfl | refine Eq.trans (if_neg (by decide)) ?_ | (refine Eq.trans (stG_at (by with_reducible assumption) (by decide)) ?_) | exact rfl)); done)); k_whole)) | walk1)) | fail "no step"))
    rename Fr _ _ _ _ => F9
    have hrt : ∀ q ∈ ts, Rd h₁ q.1 (dW q.2) := fun q hq => (rr2 q (hsub q hq)).le F9.keep
    have hrx : Rd h₁ (dedP p1)[i].1 (dW (dedP p1)[i].2) := (rr1 _ (List.getElem_mem hi)).le F9.keep
    by_cases hit : ixP ts (dedP p1)[i].2 < ts.length
    · have hrm : rmP ts (dedP p1)[i] = some (ts.eraseIdx (ixP ts (dedP p1)[i].2)) := by unfold rmP; rw [if_pos hit]
      have hrl := rmP_len hrm
      rw [hrm] at hst
      refine remove_hit (N8 _ (.tail _ (.head _))).1 hrt hrx (by show 450 + 3 + 6 < cLine; decide) hit (ixP_hit hit) (fun m hm h => ixP_before m hm h) (by rw [sizeLine_eq]; omega) ?_
      have z := N8 (ta, listOf (ts.map (·.1)).toArray n) (.tail _ (.head _))
      have F10 := F9.change (Heap.SameBut.update h₁ ta (Obj.mapSeq fun xs => xs.eraseIdxIfInBounds (ixP ts (dedP p1)[i].2))) z.2.1 z.2.2
      have N10 := ki_turn (pre := [(I, oI)]) (post := [(fa, listOf ((dedP p1).map (·.1)).toArray n2), (Lf, oL)]) (fun xs => xs.eraseIdxIfInBounds (ixP ts (dedP p1)[i].2)) (its' := ((ts.eraseIdx (ixP ts (dedP p1)[i].2)).map (·.1)).toArray) N8 (fun p hp => by rw [List.mem_singleton.mp hp]; exact Ne.symm hI)
        (fun p hp => by
          rcases List.mem_cons.mp hp with rfl | hp
          · exact hfa
          · rw [List.mem_singleton.mp hp]; exact hLa) (by
            apply Array.toList_inj.mp
            simp [Array.eraseIdxIfInBounds, hit, map_eraseIdx']) rfl
      clear F9 N8
      (repeat' (first | (k_unfold; (try dsimp only)) | ((((((fail_if_success (with_reducible show wpAny _ _ (exec (Stmt.While _ _ _ _) _) _ _ _)); (fail_if_success (with_reducible show wpAny _ _ (exec (Stmt.For _ _ _ _ _) _) _ _ _)); (fail_if_success (with_reducible show wpAny _ _ (call (Value.ref _) _ _) _ _ _)); (fail_if_success (with_reducible show wpAny _ _ (eval (Expr.ListComp _ _ _ _) _) _ _ _)))); (fail_if_success (with_reducible show wpAny _ _ (exec (Stmt.Try _ _ _ _ _) _) _ _ _)); (fail_if_success (with_reducible show wpAny _ _ (call (Value.builtin "list.remove") _ _) _ _ _)))); (first | ((with_reducible show wpAny _ _ (storeName (envOf _ _ _ _ _) _ _) _ _ _); k_here; (with_reducible show wpAny _ _ (storeName (envOf _ _ _ _ _) _ _) _ _ _); k_dflt (refine' stG ?k1 ?k2 ?k3 ?k4 ?_; (case k1 => k_asm); (case k2 => k_asm); (case k3 => exact rfl); (case k4 => exact rfl); k_whole); intro sgH sgT sgM sgE sgD sgF sgN; (try k_sweep)) | (k_here; (with_reducible show wpAny _ _ (eval (Expr.Name _ _) (compEnvC _ _ _ _)) _ _ _); (with_reducible rename Fr _ _ _ _ => kF); k_dflt (refine' cname kF ?k2 ?_ ?k3 ?k4; (case k3 => exact rfl); (case k4 => exact rfl); (case k2 => ((repeat' (first | (with_reducible assumption) | exact if_pos rfl | refine Eq.trans (if_neg (by decide)) ?_ | (refine Eq.trans (stG_at (by with_reducible assumption) (by decide)) ?_) | exact rfl)); done)); k_whole)) | (k_here; (with_reducible show wpAny _ _ (eval (Expr.Name _ _) (envOf _ _ _ _ _)) _ _ _); (with_reducible rename Fr _ _ _ _ => kF); k_dflt (refine' ld kF ?k2 ?_; (case k2 => ((repeat' (first | (with_reducible assumption) | exact if_pos rfl | refine Eq.trans (if_neg (by decide)) ?_ | (refine Eq.trans (stG_at (by with_reducible assumption) (by decide)) ?_) | exact rfl)); done)); k_whole)) | walk1)) | ((((((fail_if_success (with_reducible show wpAny _ _ (exec (Stmt.While _ _ _ _) _) _ _ _)); (fail_if_success (with_reducible show wpAny _ _ (exec (Stmt.For _ _ _ _ _) _) _ _ _)); (fail_if_success (with_reducible show wpAny _ _ (call (Value.ref _) _ _) _ _ _)); (fail_if_success (with_reducible show wpAny _ _ (eval (Expr.ListComp _ _ _ _) _) _ _ _)))); (fail_if_success (with_reducible show wpAny _ _ (exec (Stmt.Try _ _ _ _ _) _) _ _ _)); (fail_if_success (with_reducible show wpAny _ _ (call (Value.builtin "list.remove") _ _) _ _ _)))); dsimp only; (((((fail_if_success (with_reducible show wpAny _ _ (exec (Stmt.While _ _ _ _) _) _ _ _)); (fail_if_success (with_reducible show wpAny _ _ (exec (Stmt.For _ _ _ _ _) _) _ _ _)); (fail_if_success (with_reducible show wpAny _ _ (call (Value.ref _) _ _) _ _ _)); (fail_if_success (with_reducible show wpAny _ _ (eval (Expr.ListComp _ _ _ _) _) _ _ _)))); (fail_if_success (with_reducible show wpAny _ _ (exec (Stmt.Try _ _ _ _ _) _) _ _ _)); (fail_if_success (with_reducible show wpAny _ _ (call (Value.builtin "list.remove") _ _) _ _ _)))); (first | ((with_reducible show wpAny _ _ (storeName (envOf _ _ _ _ _) _ _) _ _ _); k_here; (with_reducible show wpAny _ _ (storeName (envOf _ _ _ _ _) _ _) _ _ _); k_dflt (refine' stG ?k1 ?k2 ?k3 ?k4 ?_; (case k1 => k_asm); (case k2 => k_asm); (case k3 => exact rfl); (case k4 => exact rfl); k_whole); intro sgH sgT sgM sgE sgD sgF sgN; (try k_sweep)) | (k_here; (with_reducible show wpAny _ _ (eval (Expr.Name _ _) (compEnvC _ _ _ _)) _ _ _); (with_reducible rename Fr _ _ _ _ => kF); k_dflt (refine' cname kF ?k2 ?_ ?k3 ?k4; (case k3 => exact rfl); (case k4 => exact rfl); (case k2 => ((repeat' (first | (with_reducible assumption) | exact if_pos rfl | refine Eq.trans (if_neg (by decide)) ?_ | (refine Eq.trans (stG_at (by with_reducible assumption) (by decide)) ?_) | exact rfl)); done)); k_whole)) | (k_here; (with_reducible show wpAny _ _ (eval (Expr.Name _ _) (envOf _ _ _ _ _)) _ _ _); (with_reducible rename Fr _ _ _ _ => kF); k_dflt (refine' ld kF ?k2 ?_; (case k2 => ((repeat' (first | (with_reducible assumption) | exact if_pos rfl | refine Eq.trans (if_neg (by decide)) ?_ | (refine Eq.trans (stG_at (by with_reducible assumption) (by decide)) ?_) | exact rfl)); done)); k_whole)) | walk1)) | fail "no step"))
      rename Fr _ _ _ _ => F11
      rename News _ _ _ _ => N11
      refine ⟨_, _, _, _, rfl, F11, N11, fun p hp => ?_, _, _, by ((repeat' (first | (with_reducible assumption) | exact if_pos rfl | refine Eq.trans (if_neg (by decide)) ?_ | (refine Eq.trans (stG_at (by with_reducible assumption) (by decide)) ?_) | exact rfl)); done), hst, by omega, fun q hq => hsub q (hrl.2 q hq), rfl⟩
      rcases List.mem_cons.mp hp with rfl | hp
      · exact hI
      · exact hoff p (.tail _ hp)
    · have hrm : rmP ts (dedP p1)[i] = none := by unfold rmP; rw [if_neg hit]
      rw [hrm] at hst
      have hc : cmpP p1 p2 = false := by unfold cmpP; rw [foldlM_take_none _ _ _ _ hst]
      rw [hc] at hQ
      refine remove_miss (N8 _ (.tail _ (.head _))).1 hrt hrx (by show 450 + 3 + 6 < cLine; decide) (ixP_miss hit) rfl (fun h2 tk2 e hx => ?_)
      refine caught_T (new := [(I, oI), (ta, W.listOf (ts.map fun x : PP => x.1).toArray n), (fa, W.listOf ((dedP p1).map fun x : PP => x.1).toArray n2)]) rfl Fs hx F9 N8 ?_ T (by decide +kernel) (by decide +kernel) (by decide +kernel) (by decide +kernel) (by decide +kernel) (fun h' frs' su F' N' => ?_) rfl rfl
      · obtain ⟨_, fs, hfs⟩ := hfs
        simp [TI.notDict, hfs, W.listOf]
      · obtain ⟨sl, hsl⟩ := TI.frame_there N' su
        clear F9 N8
        (repeat' (first | (k_unfold; (try dsimp only)) | ((((((fail_if_success (with_reducible show wpAny _ _ (exec (Stmt.While _ _ _ _) _) _ _ _)); (fail_if_success (with_reducible show wpAny _ _ (exec (Stmt.For _ _ _ _ _) _) _ _ _)); (fail_if_success (with_reducible show wpAny _ _ (call (Value.ref _) _ _) _ _ _)); (fail_if_success (with_reducible show wpAny _ _ (eval (Expr.ListComp _ _ _ _) _) _ _ _)))); (fail_if_success (with_reducible show wpAny _ _ (exec (Stmt.Try _ _ _ _ _) _) _ _ _)); (fail_if_success (with_reducible show wpAny _ _ (call (Value.builtin "list.remove") _ _) _ _ _)))); (first | ((with_reducible show wpAny _ _ (storeName (envOf _ _ _ _ _) _ _) _ _ _); k_here; (with_reducible show wpAny _ _ (storeName (envOf _ _ _ _ _) _ _) _ _ _); k_dflt (refine' stG ?k1 ?k2 ?k3 ?k4 ?_; (case k1 => k_asm); (case k2 => k_asm); (case k3 => exact rfl); (case k4 => exact rfl); k_whole); intro sgH sgT sgM sgE sgD sgF sgN; (try k_sweep)) | (k_here; (with_reducible show wpAny _ _ (eval (Expr.Name _ _) (compEnvC _ _ _ _)) _ _ _); (with_reducible rename Fr _ _ _ _ => kF); k_dflt (refine' cname kF ?k2 ?_ ?k3 ?k4; (case k3 => exact rfl); (case k4 => exact rfl); (case k2 => ((repeat' (first | (with_reducible assumption) | exact if_pos rfl | refine Eq.trans (if_neg (by decide)) ?_ | (refine Eq.trans (stG_at (by with_reducible assumption) (by decide)) ?_) | exact rfl)); done)); k_whole)) | (k_here; (with_reducible show wpAny _ _ (eval (Expr.Name _ _) (envOf _ _ _ _ _)) _ _ _); (with_reducible rename Fr _ _ _ _ => kF); k_dflt (refine' ld kF ?k2 ?_; (case k2 => ((repeat' (first | (with_reducible assumption) | exact if_pos rfl | refine Eq.trans (if_neg (by decide)) ?_ | (refine Eq.trans (stG_at (by with_reducible assumption) (by decide)) ?_) | exact rfl)); done)); k_whole)) | walk1)) | ((((((fail_if_success (with_reducible show wpAny _ _ (exec (Stmt.While _ _ _ _) _) _ _ _)); (fail_if_success (with_reducible show wpAny _ _ (exec (Stmt.For _ _ _ _ _) _) _ _ _)); (fail_if_success (with_reducible show wpAny _ _ (call (Value.ref _) _ _) _ _ _)); (fail_if_success (with_reducible show wpAny _ _ (eval (Expr.ListComp _ _ _ _) _) _ _ _)))); (fail_if_success (with_reducible show wpAny _ _ (exec (Stmt.Try _ _ _ _ _) _) _ _ _)); (fail_if_success (with_reducible show wpAny _ _ (call (Value.builtin "list.remove") _ _) _ _ _)))); dsimp only; (((((fail_if_success (with_reducible show wpAny _ _ (exec (Stmt.While _ _ _ _) _) _ _ _)); (fail_if_success (with_reducible show wpAny _ _ (exec (Stmt.For _ _ _ _ _) _) _ _ _)); (fail_if_success (with_reducible show wpAny _ _ (call (Value.ref _) _ _) _ _ _)); (fail_if_success (with_reducible show wpAny _ _ (eval (Expr.ListComp _ _ _ _) _) _ _ _)))); (fail_if_success (with_reducible show wpAny _ _ (exec (Stmt.Try _ _ _ _ _) _) _ _ _)); (fail_if_success (with_reducible show wpAny _ _ (call (Value.builtin "list.remove") _ _) _ _ _)))); (first | ((with_reducible show wpAny _ _ (storeName (envOf _ _ _ _ _) _ _) _ _ _); k_here; (with_reducible show wpAny _ _ (storeName (envOf _ _ _ _ _) _ _) _ _ _); k_dflt (refine' stG ?k1 ?k2 ?k3 ?k4 ?_; (case k1 => k_asm); (case k2 => k_asm); (case k3 => exact rfl); (case k4 => exact rfl); k_whole); intro sgH sgT sgM sgE sgD sgF sgN; (try k_sweep)) | (k_here; (with_reducible show wpAny _ _ (eval (Expr.Name _ _) (compEnvC _ _ _ _)) _ _ _); (with_reducible rename Fr _ _ _ _ => kF); k_dflt (refine' cname kF ?k2 ?_ ?k3 ?k4; (case k3 => exact rfl); (case k4 => exact rfl); (case k2 => ((repeat' (first | (with_reducible assumption) | exact if_pos rfl | refine Eq.trans (if_neg (by decide)) ?_ | (refine Eq.trans (stG_at (by with_reducible assumption) (by decide)) ?_) | exact rfl)); done)); k_whole)) | (k_here; (with_reducible show wpAny _ _ (eval (Expr.Name _ _) (envOf _ _ _ _ _)) _ _ _); (with_reducible rename Fr _ _ _ _ => kF); k_dflt (refine' ld kF ?k2 ?_; (case k2 => ((repeat' (first | (with_reducible assumption) | exact if_pos rfl | refine Eq.trans (if_neg (by decide)) ?_ | (refine Eq.trans (stG_at (by with_reducible assumption) (by decide)) ?_) | exact rfl)); done)); k_whole)) | walk1)) | fail "no step"))
        exact hQ _ _ sl (fun b o q e => F'.keep b o (lh b o q e)) hsl
  · obtain ⟨ts, n, m1, hfold, hlt, hsub, rfl⟩ := hJ
    have e0 : (dedP p1).take ((dedP p1).map (·.1)).toArray.size = dedP p1 := by simp
    rw [e0] at hfold
    have hc : cmpP p1 p2 = ts.isEmpty := by unfold cmpP; rw [hfold]
    rw [hc] at hQ
    clear F7 N7 N7'
    (repeat' (first | (k_unfold; (try dsimp only)) | ((((((fail_if_success (with_reducible show wpAny _ _ (exec (Stmt.While _ _ _ _) _) _ _ _)); (fail_if_success (with_reducible show wpAny _ _ (exec (Stmt.For _ _ _ _ _) _) _ _ _)); (fail_if_success (with_reducible show wpAny _ _ (call (Value.ref _) _ _) _ _ _)); (fail_if_success (with_reducible show wpAny _ _ (eval (Expr.ListComp _ _ _ _) _) _ _ _)))); (fail_if_success (with_reducible show wpAny _ _ (exec (Stmt.Try _ _ _ _ _) _) _ _ _)); (fail_if_success (with_reducible show wpAny _ _ (call (Value.builtin "list.remove") _ _) _ _ _)))); (first | ((with_reducible show wpAny _ _ (storeName (envOf _ _ _ _ _) _ _) _ _ _); k_here; (with_reducible show wpAny _ _ (storeName (envOf _ _ _ _ _) _ _) _ _ _); k_dflt (refine' stG ?k1 ?k2 ?k3 ?k4 ?_; (case k1 => k_asm); (case k2 => k_asm); (case k3 => exact rfl); (case k4 => exact rfl); k_whole); intro sgH sgT sgM sgE sgD sgF sgN; (try k_sweep)) | (k_here; (with_reducible show wpAny _ _ (eval (Expr.Name _ _) (compEnvC _ _ _ _)) _ _ _); (with_reducible rename Fr _ _ _ _ => kF); k_dflt (refine' cname kF ?k2 ?_ ?k3 ?k4; (case k3 => exact rfl); (case k4 => exact rfl); (case k2 => ((repeat' (first | (with_reducible assumption) | exact if_pos rfl | refine Eq.trans (if_neg (by decide)) ?_ | (refine Eq.trans (stG_at (by with_reducible assumption) (by decide)) ?_) | exact rfl)); done)); k_whole)) | (k_here; (with_reducible show wpAny _ _ (eval (Expr.Name _ _) (envOf _ _ _ _ _)) _ _ _); (with_reducible rename Fr _ _ _ _ => kF); k_dflt (refine' ld kF ?k2 ?_; (case k2 => ((repeat' (first | (with_reducible assumption) | exact if_pos rfl | refine Eq.trans (if_neg (by decide)) ?_ | (refine Eq.trans (stG_at (by with_reducible assumption) (by decide)) ?_) | exact rfl)); done)); k_whole)) | walk1)) | ((((((fail_if_success (with_reducible show wpAny _ _ (exec (Stmt.While _ _ _ _) _) _ _ _)); (fail_if_success (with_reducible show wpAny _ _ (exec (Stmt.For _ _ _ _ _) _) _ _ _)); (fail_if_success (with_reducible show wpAny _ _ (call (Value.ref _) _ _) _ _ _)); (fail_if_success (with_reducible show wpAny _ _ (eval (Expr.ListComp _ _ _ _) _) _ _ _)))); (fail_if_success (with_reducible show wpAny _ _ (exec (Stmt.Try _ _ _ _ _) _) _ _ _)); (fail_if_success (with_reducible show wpAny _ _ (call (Value.builtin "list.remove") _ _) _ _ _)))); dsimp only; (((((fail_if_success (with_reducible show wpAny _ _ (exec (Stmt.While _ _ _ _) _) _ _ _)); (fail_if_success (with_reducible show wpAny _ _ (exec (Stmt.For _ _ _ _ _) _) _ _ _)); (fail_if_success (with_reducible show wpAny _ _ (call (Value.ref _) _ _) _ _ _)); (fail_if_success (with_reducible show wpAny _ _ (eval (Expr.ListComp _ _ _ _) _) _ _ _)))); (fail_if_success (with_reducible show wpAny _ _ (exec (Stmt.Try _ _ _ _ _) _) _ _ _)); (fail_if_success (with_reducible show wpAny _ _ (call (Value.builtin "list.remove") _ _) _ _ _)))); (first | ((with_reducible show wpAny _ _ (storeName (envOf _ _ _ _ _) _ _) _ _ _); k_here; (with_reducible show wpAny _ _ (storeName (envOf _ _ _ _ _) _ _) _ _ _); k_dflt (refine' stG ?k1 ?k2 ?k3 ?k4 ?_; (case k1 => k_asm); (case k2 => k_asm); (case k3 => exact rfl); (case k4 => exact rfl); k_whole); intro sgH sgT sgM sgE sgD sgF sgN; (try k_sweep)) | (k_here; (with_reducible show wpAny _ _ (eval (Expr.Name _ _) (compEnvC _ _ _ _)) _ _ _); (with_reducible rename Fr _ _ _ _ => kF); k_dflt (refine' cname kF ?k2 ?_ ?k3 ?k4; (case k3 => exact rfl); (case k4 => exact rfl); (case k2 => ((repeat' (first | (with_reducible assumption) | exact if_pos rfl | refine Eq.trans (if_neg (by decide)) ?_ | (refine Eq.trans (stG_at (by with_reducible assumption) (by decide)) ?_) | exact rfl)); done)); k_whole)) | (k_here; (with_reducible show wpAny _ _ (eval (Expr.Name _ _) (envOf _ _ _ _ _)) _ _ _); (with_reducible rename Fr _ _ _ _ => kF); k_dflt (refine' ld kF ?k2 ?_; (case k2 => ((repeat' (first | (with_reducible assumption) | exact if_pos rfl | refine Eq.trans (if_neg (by decide)) ?_ | (refine Eq.trans (stG_at (by with_reducible assumption) (by decide)) ?_) | exact rfl)); done)); k_whole)) | walk1)) | fail "no step"))
    rename Fr _ _ _ _ => F9
    have e9 : (!!(ts.map fun x => x.1).isEmpty) = ts.isEmpty := by cases ts <;> rfl
    rw [e9]
    exact hQ _ _ oL.slots (fun b o q e => F9.keep b o (lh b o q e)) (N8 _ (.tail _ (.tail _ (.head _)))).1
end

section
open PySem PySem.W PyProof.Rows PySem.Calls PyProof.Rows.LCg
section
variable {prog : Program} {w : World} {A : Around} {E : Value → Shared → Prop} {s : Shared}

theorem comp_P {elt iter : Expr} {x : Str} {px : Pos} {scope : Scope} {cl : List (Str × Addr)} {pos : Pos} {env : Env} {ax : Addr} {items : Array Value} {g : Heap} {Q : Value → Shared → Prop}
    (P : Nat → Heap → Value → Prop) (mono : ∀ i g g' v, Le g g' → P i g v → P i g' v)
    (hh : A.handled = none) (hclos : closureFor scope env = pure cl) (hcell : ∀ y ∈ scope.names, y.2 ≠ .cell) (hkind : scope.kind = .function)
    (hnames : ∀ y ∈ scope.names, y.2 = .local → scope.names.lookup y.1 = some .local) (hx : scope.names.lookup x = some .local)
    (src : ∀ Q' : Value → Shared → Prop, Q' (.ref ax) s → wpAny (model prog w) A (eval iter env) Q' E s) (hl : s.heap.IsList ax items) (hsz : items.size ≤ sizeLine) (hg : Le g s.heap)
    (step : ∀ i v h tk C m g', items[i]? = some v → Grow g s.heap g' h → s.heap.get? C = none → s.heap.objs.size ≤ C → g'.get? C = none → h.Ns C m → m x = some v →
        wpAny (model prog w) A (eval elt (compEnvC scope cl C env)) (fun y s₄ => EEnd s g' h C (fun g'' => P i g'' y) s₄) Nope { s with heap := h, toks := tk })
    (fin : ∀ D h tk g' ys, Grow g s.heap g' h → ys.length = items.size → (∀ i v, ys[i]? = some v → P i g' v) → g'.get? D = some (lst ys) → s.heap.get? D = none → Q (.ref D) { s with heap := h, toks := tk })
    (hs : ∀ x, foldedSetIterable iter env x = pure x := by intro _; rfl) :
    wpAny (model prog w) A (eval (.ListComp elt [⟨.Name x px, iter, [], 0⟩] scope pos) env) Q E s := by
  refine comp_list (g₀ := g) (fun i ys g' => ys.length = i ∧ (∀ k v, ys[k]? = some v → P k g' v) ∧ (∀ b o, g'.get? b = some o → g.get? b = some o ∨ s.heap.get? b = none)) hh hclos hcell hkind hnames hx src hl hsz hg
    ⟨rfl, fun k v e => by simp at e, fun b o e => .inl e⟩ (fun i v ys g' h tk C m hv hJ hyl ea hm => ?_) (fun D h tk ys g' hJ b1 b2 b3 b4 b5 b6 => ?_) hs
  · obtain ⟨j1, j2, j3⟩ := hJ
    refine wpAny_tests_nil ?_
    rw [if_pos rfl]
    refine wpAny_mono (step i v h tk C m g' hv ⟨ea.old, ea.base, ea.le, j3⟩ ea.newC ea.szC ea.outC ea.ns hm) (fun y s₄ q => ?_) fun _ _ x => x
    obtain ⟨h', tk', g'', m', e1, e2, e3, e4, e5, e6, e7⟩ := q
    refine ⟨h', tk', g'', m', e1, e2, e3, e4, e5, e6, by simp [j1], fun k u hk => ?_, fun b o e => ?_⟩
    · by_cases hk' : k < ys.length
      · rw [List.getElem?_append_left hk'] at hk
        exact mono _ _ _ _ e4 (j2 k u hk)
      · rw [List.getElem?_append_right (Nat.not_lt.mp hk')] at hk
        have hk0 : k - ys.length = 0 := by
          rcases Nat.eq_zero_or_pos (k - ys.length) with q | q
          · exact q
          · rw [List.getElem?_eq_none (by simp; omega)] at hk; cases hk
        rw [hk0] at hk
        have : k = i := by omega
        subst this
        have hu : y = u := by simpa using hk
        rw [← hu]; exact e7
    · rcases e6 b o e with q | q
      · exact j3 b o q
      · exact .inr (none_le ea.old q)
  · obtain ⟨j1, j2, j3⟩ := hJ
    have lg' : Le g' (vw h fun b => (g'.get? b).isSome || b == D) := fun b o e => by rw [vw_get, e]; simpa using b2 b o e
    refine fin D h tk (vw h fun b => (g'.get? b).isSome || b == D) ys ⟨b6, b1.trans lg', fun b o e => ?_, fun b o e => ?_⟩ j1 (fun i v hv => mono _ _ _ _ lg' (j2 i v hv)) (by rw [vw_get]; simpa using b5) b4
    · rw [vw_get] at e
      split at e
      · exact e
      · cases e
    · rw [vw_get] at e
      split at e
      · rename_i hc
        cases q : g'.get? b with
        | some o' =>
          have := b2 b o' q
          rw [e] at this; cases this
          exact j3 b o q
        | none =>
          rw [q] at hc
          have hbD : b = D := by simpa using hc
          rw [hbD]; exact .inr b4
      · cases e

/-- the end of an element where the caller's frame may have changed its slots -/
noncomputable def PEnd (s : Shared) (h : Heap) (C Lx : Addr) (oL : Obj) (K : Prop) (s' : Shared) : Prop :=
  ∃ h' tk' m', s' = { s with heap := h', toks := tk' } ∧ h'.Ns C m' ∧ (∀ b o, b ≠ C → b ≠ Lx → h.get? b = some o → h'.get? b = some o) ∧ (∃ sl, h'.get? Lx = some { oL with slots := sl }) ∧ K

theorem assign_pair {scope : Scope} {cl : List (Str × Addr)} {C : Addr} {env : Env} {m : Str → Option Value} {j k : Str} {p1 p2 pos : Pos} {x1} {ap : Addr} {x y : Value} {Q : Unit → Shared → Prop}
    (hh : A.handled = none) (hl : s.heap.IsList ap #[x, y]) (hn : s.heap.Ns C m) (hkind : scope.kind = .function) (hj : scope.names.lookup j = some .local) (hk : scope.names.lookup k = some .local)
    (h : ∀ h' tk, h'.Ns C (fun z => if z = k then some y else if z = j then some x else m z) → (∀ b o, b ≠ C → s.heap.get? b = some o → h'.get? b = some o) → Q () { s with heap := h', toks := tk }) :
    wpAny (model prog w) A (assign (.Tuple [.Name j p1, .Name k p2] x1 pos) (compEnvC scope cl C env) (.ref ap)) Q E s := by
  rw [arm_assign_Tuple]
  refine wpAny_bind (wpAny_standAt ?_)
  unfold unpack
  refine wpAny_bind (wpAny_holding ?_)
  show wpAny _ _ (unpackItems (.ref ap) 2 none) _ _ _
  refine kun_itemsOf (items := #[x, y]) hh hl fun h₁ he₁ => ?_
  have hC : C < s.heap.objs.size := hn.lt
  have hn₁ : h₁.Ns C m := hn.at' fun o e => he₁ _ o (Nat.ne_of_lt hC) e
  show wpAny _ _ (assignInOrder [assign (.Name j p1) (compEnvC scope cl C env), assign (.Name k p2) (compEnvC scope cl C env)] [x, y]) _ _ _
  refine assignInOrder_cons (wpAny_assign_Name (wpAny_storeName_local (lookup_relabel_local hj) hn₁ (fun h₂ hn₂ hs₂ => ?_) (by simp [compEnvC, relabel, hkind])))
  refine assignInOrder_cons (wpAny_assign_Name (wpAny_storeName_local (lookup_relabel_local hk) hn₂ (fun h₃ hn₃ hs₃ => ?_) (by simp [compEnvC, relabel, hkind])))
  refine assignInOrder_nil ?_
  exact h h₃ _ hn₃ fun b o q e => hs₃.extBut b o q (hs₂.extBut b o q (he₁ b o (Nat.ne_of_lt (Heap.lt_size e)) e))

end
end

section
open PySem PySem.W PyProof.Rows PySem.Calls PyProof.Rows.LCg PySem.SeqAt

/-- the law's frame, its two cells, the view of all that stands -/
structure LC (base g : Heap) (L : Addr) (o1 o2 : Obj) (h : Heap) (m : Str → Option Value) : Prop where
  F : Fr base L h m
  c1 : h.get? (L + 1 + 1) = some o1
  c2 : h.get? (L + 1) = some o2
  bg : Le base g
  gh : Le g h
  oL : g.get? L = none
  og1 : g.get? (L + 1 + 1) = none
  og2 : g.get? (L + 1) = none
section
variable {base g g' h h' : Heap} {L : Addr} {o1 o2 : Obj} {m m' : Str → Option Value}
theorem ne1 : @Ne Nat (L + 1) L := Nat.succ_ne_self L
theorem ne2 : @Ne Nat (L + 1 + 1) L := fun q => by have q' : L + 2 = L := q; omega
theorem ne3 : @Ne Nat (L + 1 + 1) (L + 1) := Nat.succ_ne_self (L + 1)
theorem LC.base_none (c : Fr base L h m) : base.get? L = none ∧ base.get? (L + 1 + 1) = none ∧ base.get? (L + 1) = none := by
  have ha : base.objs.size ≤ L := c.above
  exact ⟨Heap.get?_none_of_le ha, Heap.get?_none_of_le (Nat.le_trans ha (Nat.le_trans (Nat.le_succ L) (Nat.le_succ (L + 1)))), Heap.get?_none_of_le (Nat.le_trans ha (Nat.le_succ L))⟩
theorem LC.start (F : Fr base L h m) (c1 : h.get? (L + 1 + 1) = some o1) (c2 : h.get? (L + 1) = some o2) : LC base base L o1 o2 h m :=
  let b := LC.base_none F
  ⟨F, c1, c2, Le.refl _, F.keep, b.1, b.2.1, b.2.2⟩
/-- the view of all -/
theorem LC.all (c : LC base g L o1 o2 h m) : ∃ g', LC base g' L o1 o2 h m ∧ Le g g' ∧ ∀ b, b ≠ L → b ≠ L + 1 → b ≠ L + 1 + 1 → g'.get? b = h.get? b := by
  have hp : ∀ b, (vw h fun b => !(b == L) && !(b == L + 1) && !(b == L + 1 + 1)).get? b = if (!(b == L) && !(b == L + 1) && !(b == L + 1 + 1)) = true then h.get? b else none := vw_get _ _
  have lg : Le g (vw h fun b => !(b == L) && !(b == L + 1) && !(b == L + 1 + 1)) := fun b o e => by
    have n1 : b ≠ L := fun q => by rw [q, c.oL] at e; cases e
    have n2 : b ≠ L + 1 := fun q => by rw [q, c.og2] at e; cases e
    have n3 : b ≠ L + 1 + 1 := fun q => by rw [q, c.og1] at e; cases e
    rw [hp, if_pos (by simp [n1, n2, n3])]; exact c.gh b o e
  refine ⟨_, ⟨c.F, c.c1, c.c2, c.bg.trans lg, fun b o e => ?_, ?_, ?_, ?_⟩, lg, fun b n1 n2 n3 => by rw [hp, if_pos (by simp [n1, n2, n3])]⟩
  · rw [hp] at e
    split at e
    · exact e
    · cases e
  · rw [hp, if_neg (by simp)]
  · rw [hp, if_neg (by simp)]
  · rw [hp, if_neg (by simp)]
theorem LC.grow (c : LC base g L o1 o2 h m) (gr : Grow g h g' h') : LC base g' L o1 o2 h' m := by
  obtain ⟨oL, es, ep, eL, r⟩ := c.F.ns
  exact ⟨c.F.kept gr.heap, gr.heap _ _ c.c1, gr.heap _ _ c.c2, c.bg.trans gr.view, gr.le, gr.out eL c.oL, gr.out c.c1 c.og1, gr.out c.c2 c.og2⟩
/-- the ledger of the view -/
theorem LC.ledger (c : LC base g L o1 o2 h m) : ∃ rest, News base L h ((L + 1 + 1, o1) :: (L + 1, o2) :: rest) ∧ (∀ b o, g.get? b = some o → base.get? b = some o ∨ (b, o) ∈ rest) ∧ (∀ p ∈ rest, g.get? p.1 = some p.2) := by
  have bn := LC.base_none c.F
  refine ⟨(List.range g.objs.size).filterMap fun a => if (base.get? a).isSome = true then none else (g.get? a).map fun o => (a, o), fun p hp => ?_, fun b o e => ?_, fun p hp => ?_⟩
  · rcases List.mem_cons.mp hp with rfl | hp
    · exact ⟨c.c1, ne2, bn.2.1⟩
    · rcases List.mem_cons.mp hp with rfl | hp
      · exact ⟨c.c2, ne1, bn.2.2⟩
      · obtain ⟨a, _, ha⟩ := List.mem_filterMap.mp hp
        split at ha
        · cases ha
        · rename_i hc
          obtain ⟨o, ho, rfl⟩ := Option.map_eq_some_iff.mp ha
          refine ⟨c.gh _ _ ho, fun q => ?_, ?_⟩
          · have q' : a = L := q
            rw [q', c.oL] at ho; cases ho
          · cases q : base.get? a with
            | none => rfl
            | some o' => exact absurd (by rw [q]; rfl) hc
  · cases q : base.get? b with
    | some o' =>
      have := c.bg b o' q
      rw [e] at this; cases this
      exact .inl rfl
    | none =>
      refine .inr (List.mem_filterMap.mpr ⟨b, List.mem_range.mpr (Heap.lt_size e), ?_⟩)
      rw [q]
      simp [e]
  · obtain ⟨a, _, ha⟩ := List.mem_filterMap.mp hp
    split at ha
    · cases ha
    · obtain ⟨o, ho, rfl⟩ := Option.map_eq_some_iff.mp ha
      exact ho
/-- back from the ledger -/
theorem LC.of {o1' o2' : Obj} {rest all : List (Addr × Obj)} (c : LC base g L o1 o2 h m) (hv : ∀ b o, g.get? b = some o → base.get? b = some o ∨ (b, o) ∈ rest) (F' : Fr base L h' m') (N' : News base L h' all) (h1 : (L + 1 + 1, o1') ∈ all) (h2 : (L + 1, o2') ∈ all) (hr : ∀ p ∈ rest, p ∈ all) :
    LC base g L o1' o2' h' m' :=
  ⟨F', (N' _ h1).1, (N' _ h2).1, c.bg, fun b o e => by
    rcases hv b o e with q | q
    · exact F'.keep b o q
    · exact (N' _ (hr _ q)).1, c.oL, c.og1, c.og2⟩
end

/-- a row: a list of ways -/
noncomputable def RowL (g : Heap) (v : Value) (ws : WW) : Prop := ∃ a n ps, v = .ref a ∧ g.get? a = some (listOf (ps.map (·.1)).toArray n) ∧ m2 ps = ws ∧ ∀ q ∈ ps, Rd g q.1 (dW q.2)
theorem RowL.le {g g' : Heap} {v : Value} {ws : WW} (r : RowL g v ws) (l : Le g g') : RowL g' v ws := by
  obtain ⟨a, n, ps, e1, e2, e3, e4⟩ := r
  exact ⟨a, n, ps, e1, l _ _ e2, e3, fun q hq => (e4 q hq).le l⟩
/-- a list of things -/
noncomputable def SeqOf {α : Type} (R : Heap → Value → α → Prop) (g : Heap) (v : Value) (xs : List α) : Prop := ∃ (a : Addr) (n : Nat) (us : List Value), v = .ref a ∧ g.get? a = some (W.listOf us.toArray n) ∧ us.length = xs.length ∧ ∀ (i : Nat) (u : Value) (x : α), us[i]? = some u → xs[i]? = some x → R g u x
noncomputable def Mono {α : Type} (R : Heap → Value → α → Prop) : Prop := ∀ g g' v x, Le g g' → R g v x → R g' v x
theorem SeqOf.le {α : Type} {R : Heap → Value → α → Prop} (hm : Mono R) : Mono (SeqOf R) := by
  rintro g g' v xs l ⟨a, n, us, e1, e2, e3, e4⟩
  exact ⟨a, n, us, e1, l _ _ e2, e3, fun i u x h1 h2 => hm _ _ _ _ l (e4 i u x h1 h2)⟩
noncomputable def IntR (_ : Heap) (v : Value) (x : Int) : Prop := ∃ t, v = .int x t
theorem IntR.mono : Mono IntR := fun _ _ _ _ _ h => h
noncomputable def WayR (g : Heap) (v : Value) (w : List Bool) : Prop := Rd g v (dW w)
theorem WayR.mono : Mono WayR := fun _ _ _ _ l h => h.le l
theorem RowL.mono : Mono RowL := fun _ _ _ _ l h => h.le l
noncomputable abbrev RowI := SeqOf IntR
noncomputable abbrev RowsI := SeqOf RowI
noncomputable abbrev RowsL := SeqOf RowL
theorem RowL.of_seq {g : Heap} {v : Value} {ws : WW} (r : SeqOf WayR g v ws) : RowL g v ws := by
  obtain ⟨a, n, us, e1, e2, e3, e4⟩ := r
  have z1 : (us.zip ws).map (·.1) = us := by
    rw [show (fun x : Value × List Bool => x.1) = Prod.fst from rfl, List.map_fst_zip (by omega)]
  have z2 : (us.zip ws).map (·.2) = ws := by
    rw [show (fun x : Value × List Bool => x.2) = Prod.snd from rfl, List.map_snd_zip (by omega)]
  refine ⟨a, n, us.zip ws, e1, by rw [z1]; exact e2, z2, fun q hq => ?_⟩
  obtain ⟨i, hi, rfl⟩ := List.getElem_of_mem hq
  have hi' : i < us.length ∧ i < ws.length := by simp at hi; omega
  exact e4 i _ _ (by simp [hi'.1]) (by simp [hi'.2])
theorem ints_seq : ∀ {vs : List Value} {ns : List Int}, IntsAre vs ns → vs.length = ns.length ∧ ∀ (i : Nat) (u : Value) (x : Int), vs[i]? = some u → ns[i]? = some x → ∃ t, u = .int x t
  | _, _, .nil => ⟨rfl, fun i u x h _ => by simp at h⟩
  | _, _, .cons _ _ r => by
    obtain ⟨h1, h2⟩ := ints_seq r
    refine ⟨by simp [h1], fun i u x e1 e2 => ?_⟩
    cases i with
    | zero => simp at e1 e2; subst e1 e2; exact ⟨_, rfl⟩
    | succ i => exact h2 i u x (by simpa using e1) (by simpa using e2)

section
variable {prog : Program} {w : World} {A : Around} {E : Value → Shared → Prop} {s : Shared}
theorem comp_seq {α β : Type} {R1 : Heap → Value → α → Prop} {R2 : Heap → Value → β → Prop} (f : α → β) (M2 : Mono R2) {elt iter : Expr} {x : Str} {px : Pos} {scope : Scope} {cl : List (Str × Addr)} {pos : Pos} {env : Env} {vx : Value} {xs : List α} {g : Heap} {Q : Value → Shared → Prop}
    (hh : A.handled = none) (hclos : closureFor scope env = pure cl) (hcell : ∀ y ∈ scope.names, y.2 ≠ .cell) (hkind : scope.kind = .function)
    (hnames : ∀ y ∈ scope.names, y.2 = .local → scope.names.lookup y.1 = some .local) (hx : scope.names.lookup x = some .local)
    (src : ∀ Q' : Value → Shared → Prop, Q' vx s → wpAny (model prog w) A (eval iter env) Q' E s) (hr : SeqOf R1 g vx xs) (hsz : xs.length ≤ sizeLine) (hg : Le g s.heap)
    (step : ∀ v y h tk C m g', R1 g v y → y ∈ xs → Grow g s.heap g' h → s.heap.get? C = none → s.heap.objs.size ≤ C → g'.get? C = none → h.Ns C m → m x = some v →
        wpAny (model prog w) A (eval elt (compEnvC scope cl C env)) (fun u s₄ => EEnd s g' h C (fun g'' => R2 g'' u (f y)) s₄) Nope { s with heap := h, toks := tk })
    (fin : ∀ D h tk g', Grow g s.heap g' h → SeqOf R2 g' (.ref D) (xs.map f) → Q (.ref D) { s with heap := h, toks := tk })
    (hs : ∀ x, foldedSetIterable iter env x = pure x := by intro _; rfl) :
    wpAny (model prog w) A (eval (.ListComp elt [⟨.Name x px, iter, [], 0⟩] scope pos) env) Q E s := by
  obtain ⟨a, n, us, rfl, e2, e3, e4⟩ := hr
  refine comp_P (items := us.toArray) (g := g) (fun i g v => ∀ y, xs[i]? = some y → R2 g v (f y)) (fun i g g' v l h y hy => M2 _ _ _ _ l (h y hy)) hh hclos hcell hkind hnames hx src (PySem.IsL.isList (n := n) (hg _ _ e2)) (by simpa [e3] using hsz) hg
    (fun i v h tk C m g' hv gr hC hC2 hC3 ns hm => ?_) (fun D h tk g' ys gr hyl hP hD hDn => ?_) hs
  · have hv' : us[i]? = some v := by simpa using hv
    have hi : i < xs.length := by
      rw [← e3]
      rcases Nat.lt_or_ge i us.length with q | q
      · exact q
      · rw [List.getElem?_eq_none q] at hv'; cases hv'
    refine wpAny_mono (step v xs[i] h tk C m g' (e4 i v _ hv' (by simp [hi])) (List.getElem_mem hi) gr hC hC2 hC3 ns hm) (fun u s₄ q => ?_) fun _ _ x => x
    obtain ⟨h', tk', g'', m', q1, q2, q3, q4, q5, q6, q7⟩ := q
    refine ⟨h', tk', g'', m', q1, q2, q3, q4, q5, q6, fun y hy => ?_⟩
    have : xs[i] = y := by simpa [hi] using hy
    rw [← this]; exact q7
  · refine fin D h tk g' gr ⟨D, ys.length, ys, rfl, hD, by rw [hyl]; simp [e3], fun i u y h1 h2 => ?_⟩
    have h2' : ∃ x, xs[i]? = some x ∧ f x = y := by simpa using h2
    obtain ⟨x, hx', rfl⟩ := h2'
    exact hP i u h1 x hx'
end

noncomputable def RdAll (g : Heap) (vs : List Value) (ds : List PyData) : Prop := ∃ as, ReadsAll g vs ds as
theorem rdAll_of {g : Heap} : ∀ {vs : List Value} {ds : List PyData}, vs.length = ds.length → (∀ (i : Nat) (v : Value) (d : PyData), vs[i]? = some v → ds[i]? = some d → Rd g v d) → RdAll g vs ds
  | [], [], _, _ => ⟨_, .nil⟩
  | v :: vs, d :: ds, hl, h => by
    obtain ⟨as, ha⟩ := h 0 v d rfl rfl
    obtain ⟨bs, hb⟩ := rdAll_of (vs := vs) (ds := ds) (by simpa using hl) fun i u e h1 h2 => h (i + 1) u e (by simpa using h1) (by simpa using h2)
    exact ⟨_, .cons ha hb⟩
  | [], _ :: _, hl, _ => by simp at hl
  | _ :: _, [], hl, _ => by simp at hl
theorem rd_list {g : Heap} {a : Addr} {n : Nat} {vs : List Value} {ds : List PyData} (e : g.get? a = some (W.listOf vs.toArray n)) (h : RdAll g vs ds) : Rd g (.ref a) (.list ds) := by
  obtain ⟨as, ha⟩ := h
  exact ⟨_, .list e rfl rfl (by simpa using ha)⟩
noncomputable def dRs (wss : List WW) : PyData := .list (wss.map dWs)
theorem RowL.rd {g : Heap} {v : Value} {ws : WW} (r : RowL g v ws) : Rd g v (dWs ws) := by
  obtain ⟨a, n, ps, rfl, e2, rfl, e4⟩ := r
  refine rd_list e2 (rdAll_of (by simp [m2]) fun i u d h1 h2 => ?_)
  have h1' : ∃ q, ps[i]? = some q ∧ q.1 = u := by simpa using h1
  obtain ⟨q, hq, rfl⟩ := h1'
  have h2' : dW q.2 = d := by simpa [m2, hq] using h2
  rw [← h2']; exact e4 q (List.mem_of_getElem? hq)
theorem RowsL.rd {g : Heap} {v : Value} {wss : List WW} (r : RowsL g v wss) : Rd g v (dRs wss) := by
  obtain ⟨a, n, us, rfl, e2, e3, e4⟩ := r
  refine rd_list e2 (rdAll_of (by simpa using e3) fun i u d h1 h2 => ?_)
  have h2' : ∃ ws, wss[i]? = some ws ∧ dWs ws = d := by simpa using h2
  obtain ⟨ws, hw, rfl⟩ := h2'
  exact (e4 i u ws h1 hw).rd

theorem eqvAll_refl : ∀ (ds : List PyData), (∀ d ∈ ds, PyData.eqv d d = true) → PyData.eqvAll ds ds = true
  | [], _ => rfl
  | d :: ds, h => by
    unfold PyData.eqvAll
    rw [h d (.head _), eqvAll_refl ds fun x hx => h x (.tail _ hx)]; rfl
theorem eqv_list (ds : List PyData) (h : ∀ d ∈ ds, PyData.eqv d d = true) : PyData.eqv (.list ds) (.list ds) = true := by
  unfold PyData.eqv; exact eqvAll_refl ds h
theorem eqv_dRs (wss : List WW) : PyData.eqv (dRs wss) (dRs wss) = true := eqv_list _ fun d hd => by
  obtain ⟨b, _, rfl⟩ := List.mem_map.mp hd
  rw [eqv_dWs]; simp
theorem depthAll_le {k : Nat} : ∀ (ds : List PyData), (∀ d ∈ ds, PyData.depth d ≤ k) → PyData.depthAll ds ≤ k
  | [], _ => by unfold PyData.depthAll; exact Nat.zero_le _
  | d :: ds, h => by
    unfold PyData.depthAll
    exact Nat.max_le.mpr ⟨h d (.head _), depthAll_le ds fun x hx => h x (.tail _ hx)⟩
theorem depth_list {k : Nat} (ds : List PyData) (h : ∀ d ∈ ds, PyData.depth d ≤ k) : PyData.depth (.list ds) ≤ k + 1 := by
  unfold PyData.depth
  exact Nat.succ_le_succ (depthAll_le ds h)
theorem depth_dRs (w : List WW) : PyData.depth (dRs w) ≤ 5 := depth_list (k := 4) _ fun d hd => by
  obtain ⟨b, _, rfl⟩ := List.mem_map.mp hd
  exact depth_dWs b
theorem eend_add {s : Shared} {g' h h3 h4 : Heap} {C r : Addr} {m3 : Str → Option Value} {obj : Obj} {K : Heap → Prop} {tk : Nat} (lg : Le g' h) (oC : g'.get? C = none) (hk3 : ∀ b o, b ≠ C → h.get? b = some o → h3.get? b = some o) (ns3 : h3.Ns C m3) (k4 : Le h3 h4)
    (rn : h3.get? r = none) (re : h4.get? r = some obj) (hK : ∀ g'', Le g' g'' → Le g'' h4 → g''.get? r = some obj → K g'') : EEnd s g' h C K { s with heap := h4, toks := tk } := by
  have gh4 : Le g' h4 := fun b o e => k4 b o (hk3 b o (fun q => by rw [q, oC] at e; cases e) (lg b o e))
  have lg' : Le g' (vw h4 fun b => (g'.get? b).isSome || b == r) := fun b o e => by rw [vw_get, e]; simpa using gh4 b o e
  have l4 : Le (vw h4 fun b => (g'.get? b).isSome || b == r) h4 := fun b o e => by
    rw [vw_get] at e
    split at e
    · exact e
    · cases e
  refine ⟨h4, tk, _, m3, rfl, ns3.at' fun o e => k4 _ o e, fun b o q e => k4 b o (hk3 b o q e), lg', l4, fun b o e => ?_, hK _ lg' l4 (by rw [vw_get]; simpa using re)⟩
  rw [vw_get] at e
  split at e
  · rename_i hc
    cases q : g'.get? b with
    | some o' =>
      have := gh4 b o' q
      rw [e] at this; cases this
      exact .inl rfl
    | none =>
      rw [q] at hc
      have hbr : b = r := by simpa using hc
      subst hbr
      cases z : h.get? b with
      | none => exact .inr rfl
      | some o' =>
        by_cases hbC : b = C
        · obtain ⟨oC', _, _, eC, _⟩ := ns3
          rw [hbC] at rn
          rw [show _ = some oC' from eC] at rn; cases rn
        · rw [hk3 b o' hbC z] at rn; cases rn
  · cases e
/-- the part of the heap that the view shows, no longer than the heap -/
noncomputable def sub (h g : Heap) : Heap := vw h fun b => (g.get? b).isSome
theorem sub_le {h g : Heap} : Le (sub h g) h := fun b o e => by
  unfold sub at e
  rw [vw_get] at e
  split at e
  · exact e
  · cases e
theorem le_sub {h g : Heap} (l : Le g h) : Le g (sub h g) := fun b o e => by
  unfold sub
  rw [vw_get, e]; simpa using l b o e
theorem sub_size (h g : Heap) : (sub h g).objs.size = h.objs.size := vw_size _ _

theorem canLay_dRs (ws : List WW) : (dRs ws).canLay0 = true := by
  show PyData.canLayAll0 (ws.map dWs) = true
  induction ws with
  | nil => rfl
  | cons b r ih =>
    show (PyData.canLay0 (dWs b) && PyData.canLayAll0 (r.map dWs)) = true
    rw [canLay_dWs]; exact ih
noncomputable def dB (bs : List Bool) : PyData := .list (bs.map PyData.bool)
theorem canLay_dB (bs : List Bool) : (dB bs).canLay0 = true := by
  show PyData.canLayAll0 (bs.map PyData.bool) = true
  induction bs with
  | nil => rfl
  | cons b r ih => exact ih
theorem depth_dB (w : List Bool) : PyData.depth (dB w) ≤ 1 := depth_list (k := 0) _ fun d hd => by
  obtain ⟨b, _, rfl⟩ := List.mem_map.mp hd
  unfold PyData.depth; exact Nat.le_refl _
theorem eqv_dB (w : List Bool) : PyData.eqv (dB w) (dB w) = true := eqv_list _ fun d hd => by
  obtain ⟨b, _, rfl⟩ := List.mem_map.mp hd
  unfold PyData.eqv; simp

section
variable {prog : Program} {w : World} {A : Around} {E : Value → Shared → Prop} {s : Shared} {a b : Value} {Q : Value → Shared → Prop}
theorem ne_rows {x : List WW} (ra : Rd s.heap a (dRs x)) (rb : Rd s.heap b (dRs x)) (hu : A.units + 6 < cLine) (h : Q (.bool false) s) : wpAny (model prog w) A (compareOp .NotEq a b) Q E s := by
  obtain ⟨as, ra⟩ := ra
  obtain ⟨bs, rb⟩ := rb
  refine compareNe_reads ra rb (canLay_dRs x) (canLay_dRs x) (by have := depth_dRs x; omega) ?_
  rw [eqv_dRs]; exact h
theorem eq_rowW {x y : WW} (ra : Rd s.heap a (dWs x)) (rb : Rd s.heap b (dWs y)) (hu : A.units + 6 < cLine) (h : Q (.bool (x == y)) s) : wpAny (model prog w) A (compareOp .Eq a b) Q E s := by
  obtain ⟨as, ra⟩ := ra
  obtain ⟨bs, rb⟩ := rb
  refine compareEq_reads ra rb (canLay_dWs x) (canLay_dWs y) (by have := depth_dWs x; omega) ?_
  rw [eqv_dWs]; exact h
theorem eq_bools {x : List Bool} (ra : Rd s.heap a (dB x)) (rb : Rd s.heap b (dB x)) (hu : A.units + 6 < cLine) (h : Q (.bool true) s) : wpAny (model prog w) A (compareOp .Eq a b) Q E s := by
  obtain ⟨as, ra⟩ := ra
  obtain ⟨bs, rb⟩ := rb
  refine compareEq_reads ra rb (canLay_dB x) (canLay_dB x) (by have := depth_dB x; omega) ?_
  rw [eqv_dB]; exact h
end

theorem fn_inj {c c' : Value} {d d' : Option Addr} {sl sl' : Array (Option Value)} {n n' q q' : Str} {p p' : Arguments} {b b' : List Stmt} {sc sc' : Scope} {x1 x2 x3 x4 x5 x6 y1 y2 y3 y4 y5 y6 : Value} {an an' : Option Addr}
    (h : (⟨c, d, .func (fnOf n q p b sc x1 x2 x3 x4 an x5 x6), sl⟩ : Obj) = ⟨c', d', .func (fnOf n' q' p' b' sc' y1 y2 y3 y4 an' y5 y6), sl'⟩) : q = q' ∧ b = b' ∧ sc = sc' := by
  injection h with _ _ h3 _
  injection h3 with h4
  injection h4
  rename (FuncBody.stmts _ = FuncBody.stmts _) => eb
  injection eb with eb
  subst_vars
  exact ⟨rfl, rfl, rfl⟩
end

section
open PySem PySem.W PyProof.Rows PySem.Calls PyProof.Rows.LCg
section
variable {prog : Program} {w : World} {A : Around} {E : Value → Shared → Prop} {R : Result → Shared → Prop} {s : Shared}
theorem comp_PA {elt iter : Expr} {x y : Str} {px py : Pos} {scope : Scope} {cl : List (Str × Addr)} {pos spos : Pos} {env : Env} {ax : Addr} {items : Array Value} {g : Heap} {Q : Flow → Shared → Prop} {mL : Str → Option Value}
    (P : Nat → Heap → Value → Prop) (mono : ∀ i g g' v, Le g g' → P i g v → P i g' v)
    (hsw : swapsWith (.ListComp elt [⟨.Name x px, iter, [], 0⟩] scope pos) (some (.Name y py)) spos.line env = pure true)
    (hy : env.kindOf y = some .local) (hp : (env.scope.kind == .class || (env.scope.kind == .module && env.locals != env.globals)) = false) (hL : s.heap.Ns env.locals mL) (hgL : g.get? env.locals = none)
    (hh : A.handled = none) (hclos : closureFor scope env = pure cl) (hcell : ∀ y ∈ scope.names, y.2 ≠ .cell) (hkind : scope.kind = .function)
    (hnames : ∀ y ∈ scope.names, y.2 = .local → scope.names.lookup y.1 = some .local) (hx : scope.names.lookup x = some .local)
    (src : ∀ Q' : Value → Shared → Prop, Q' (.ref ax) s → wpAny (model prog w) A (eval iter env) Q' E s) (hl : s.heap.IsList ax items) (hsz : items.size ≤ sizeLine) (hg : Le g s.heap)
    (step : ∀ i v h tk C m g', items[i]? = some v → Grow g s.heap g' h → s.heap.get? C = none → s.heap.objs.size ≤ C → g'.get? C = none → h.Ns C m → m x = some v →
        wpAny (model prog w) A (eval elt (compEnvC scope cl C env)) (fun y s₄ => EEnd s g' h C (fun g'' => P i g'' y) s₄) Nope { s with heap := h, toks := tk })
    (fin : ∀ D h tk g' ys, Le g g' → Le g' h → (∀ b o, g'.get? b = some o → g.get? b = some o ∨ s.heap.get? b = none) → (∀ b o, b ≠ env.locals → s.heap.get? b = some o → h.get? b = some o) → h.Ns env.locals (fun z => if z = y then some (.ref D) else mL z) →
      ys.length = items.size → (∀ i v, ys[i]? = some v → P i g' v) → g'.get? D = some (lst ys) → Q .next { s with heap := h, toks := tk })
    (hs : ∀ x, foldedSetIterable iter env x = pure x := by intro _; rfl) :
    wpAny (model prog w) A (exec (.Assign [.Name y py] (.ListComp elt [⟨.Name x px, iter, [], 0⟩] scope pos) spos) env) Q E s := by
  rw [exec_Assign_Name_used _ _ _ _ hsw]
  refine wpAny_bind (wpAny_standAt (wpAny_bind ?_))
  show wpAny _ A (do let _ ← comprehension (.ListComp elt [⟨.Name x px, iter, [], 0⟩] scope pos) scope env _ (newList []) false (eval iter env) (some (assign (.Name y py) env))) _ _ s
  refine wpAny_bind (wpAny_mono (comp_listU (use := some (assign (.Name y py) env)) (Q := fun _ s' => Q .next s') (g₀ := g) (fun i ys g' => ys.length = i ∧ (∀ k v, ys[k]? = some v → P k g' v) ∧ (∀ b o, g'.get? b = some o → g.get? b = some o ∨ s.heap.get? b = none)) hh hclos hcell hkind hnames hx src hl hsz hg
    ⟨rfl, fun k v e => by simp at e, fun b o e => .inl e⟩ (fun i v ys g' h tk C m hv hJ hyl ea hm => ?_) (fun D C h tk ys g' m' hJ b1 b2 b3 c1 c2 c3 c4 b4 b5 b6 => ?_) hs) (fun _ s' hq => wpAny_pure (wpAny_pure hq)) fun _ _ e => e)
  · obtain ⟨j1, j2, j3⟩ := hJ
    refine wpAny_tests_nil ?_
    rw [if_pos rfl]
    refine wpAny_mono (step i v h tk C m g' hv ⟨ea.old, ea.base, ea.le, j3⟩ ea.newC ea.szC ea.outC ea.ns hm) (fun y s₄ q => ?_) fun _ _ x => x
    obtain ⟨h', tk', g'', m', e1, e2, e3, e4, e5, e6, e7⟩ := q
    refine ⟨h', tk', g'', m', e1, e2, e3, e4, e5, e6, by simp [j1], fun k u hk => ?_, fun b o e => ?_⟩
    · by_cases hk' : k < ys.length
      · rw [List.getElem?_append_left hk'] at hk
        exact mono _ _ _ _ e4 (j2 k u hk)
      · rw [List.getElem?_append_right (Nat.not_lt.mp hk')] at hk
        have hk0 : k - ys.length = 0 := by
          rcases Nat.eq_zero_or_pos (k - ys.length) with q | q
          · exact q
          · rw [List.getElem?_eq_none (by simp; omega)] at hk; cases hk
        rw [hk0] at hk
        have : k = i := by omega
        subst this
        have hu : y = u := by simpa using hk
        rw [← hu]; exact e7
    · rcases e6 b o e with q | q
      · exact j3 b o q
      · exact .inr (none_le ea.old q)
  · obtain ⟨j1, j2, j3⟩ := hJ
    obtain ⟨oL, esL, epL, eL, rL⟩ := id hL
    have nCL : C ≠ env.locals := fun q => by rw [q] at c3; rw [show _ = some oL from eL] at c3; cases c3
    have nDL : D ≠ env.locals := fun q => by rw [q] at b4; rw [show _ = some oL from eL] at b4; cases b4
    have gL : g'.get? env.locals = none := by
      cases q : g'.get? env.locals with
      | none => rfl
      | some o =>
        rcases j3 _ o q with z | z
        · rw [hgL] at z; cases z
        · rw [show _ = some oL from eL] at z; cases z
    show wpAny _ A (assign (.Name y py) env (.ref D)) _ _ _
    refine wpAny_assign_Name (wpAny_storeName_local hy (hL.at' fun o e => b6 _ o e) (fun h₂ hn₂ hs₂ => ?_) hp)
    refine ⟨m', c4.sameBut hs₂ nCL, fun h₃ hs₃ => ?_⟩
    have kk : ∀ b o, b ≠ env.locals → b ≠ C → h.get? b = some o → h₃.get? b = some o := fun b o q1 q2 e => hs₃.extBut b o q2 (hs₂.extBut b o q1 e)
    have gh : ∀ b o, g'.get? b = some o → h₃.get? b = some o := fun b o e => kk b o (fun q => by rw [q, gL] at e; cases e) (fun q => by rw [q, c1] at e; cases e) (b2 b o e)
    have lg' : Le g' (vw h₃ fun b => (g'.get? b).isSome || b == D) := fun b o e => by rw [vw_get, e]; simpa using gh b o e
    refine fin D h₃ _ (vw h₃ fun b => (g'.get? b).isSome || b == D) ys (b1.trans lg') (fun b o e => ?_) (fun b o e => ?_) (fun b o q e => kk b o q (fun z => by rw [z, c3] at e; cases e) (b6 b o e)) (hn₂.sameBut hs₃ (Ne.symm nCL)) j1 (fun i v hv => mono _ _ _ _ lg' (j2 i v hv)) (by rw [vw_get]; simpa using kk _ _ nDL (Ne.symm c2) b5)
    · rw [vw_get] at e
      split at e
      · exact e
      · cases e
    · rw [vw_get] at e
      split at e
      · rename_i hc
        cases q : g'.get? b with
        | some o' =>
          have := gh b o' q
          rw [e] at this; cases this
          exact j3 b o q
        | none =>
          rw [q] at hc
          have hbD : b = D := by simpa using hc
          rw [hbD]; exact .inr b4
      · cases e

theorem comp_seqA {α β : Type} {R1 : Heap → Value → α → Prop} {R2 : Heap → Value → β → Prop} (f : α → β) (M2 : Mono R2) {elt iter : Expr} {x y : Str} {px py : Pos} {scope : Scope} {cl : List (Str × Addr)} {pos spos : Pos} {env : Env} {vx : Value} {xs : List α} {base g : Heap} {L : Addr} {o1 o2 : Obj} {m : Str → Option Value} {Q : Flow → Shared → Prop}
    (hsw : swapsWith (.ListComp elt [⟨.Name x px, iter, [], 0⟩] scope pos) (some (.Name y py)) spos.line env = pure true)
    (c : LC base g L o1 o2 s.heap m) (hLe : env.locals = L) (hy : env.kindOf y = some .local) (hp : (env.scope.kind == .class || (env.scope.kind == .module && env.locals != env.globals)) = false)
    (hh : A.handled = none) (hclos : closureFor scope env = pure cl) (hcell : ∀ y ∈ scope.names, y.2 ≠ .cell) (hkind : scope.kind = .function)
    (hnames : ∀ y ∈ scope.names, y.2 = .local → scope.names.lookup y.1 = some .local) (hx : scope.names.lookup x = some .local)
    (src : ∀ Q' : Value → Shared → Prop, Q' vx s → wpAny (model prog w) A (eval iter env) Q' E s) (hr : SeqOf R1 g vx xs) (hsz : xs.length ≤ sizeLine)
    (step : ∀ v y h tk C m g', R1 g v y → y ∈ xs → Grow g s.heap g' h → s.heap.get? C = none → s.heap.objs.size ≤ C → g'.get? C = none → h.Ns C m → m x = some v →
        wpAny (model prog w) A (eval elt (compEnvC scope cl C env)) (fun u s₄ => EEnd s g' h C (fun g'' => R2 g'' u (f y)) s₄) Nope { s with heap := h, toks := tk })
    (fin : ∀ D h tk g', LC base g' L o1 o2 h (fun z => if z = y then some (.ref D) else m z) → Le g g' → SeqOf R2 g' (.ref D) (xs.map f) → Q .next { s with heap := h, toks := tk })
    (hs : ∀ x, foldedSetIterable iter env x = pure x := by intro _; rfl) :
    wpAny (model prog w) A (exec (.Assign [.Name y py] (.ListComp elt [⟨.Name x px, iter, [], 0⟩] scope pos) spos) env) Q E s := by
  subst hLe
  have hg := c.gh
  obtain ⟨a, n, us, rfl, e2, e3, e4⟩ := hr
  refine comp_PA (items := us.toArray) (g := g) (fun i g v => ∀ y, xs[i]? = some y → R2 g v (f y)) (fun i g g' v l h y hy => M2 _ _ _ _ l (h y hy)) hsw hy hp c.F.ns c.oL hh hclos hcell hkind hnames hx src (PySem.IsL.isList (n := n) (hg _ _ e2)) (by simpa [e3] using hsz) hg
    (fun i v h tk C m g' hv gr hC hC2 hC3 ns hm => ?_) (fun D h tk g' ys lg lh new old ns hyl hP hD => ?_) hs
  · have hv' : us[i]? = some v := by simpa using hv
    have hi : i < xs.length := by
      rw [← e3]
      rcases Nat.lt_or_ge i us.length with q | q
      · exact q
      · rw [List.getElem?_eq_none q] at hv'; cases hv'
    refine wpAny_mono (step v xs[i] h tk C m g' (e4 i v _ hv' (by simp [hi])) (List.getElem_mem hi) gr hC hC2 hC3 ns hm) (fun u s₄ q => ?_) fun _ _ x => x
    obtain ⟨h', tk', g'', m', q1, q2, q3, q4, q5, q6, q7⟩ := q
    refine ⟨h', tk', g'', m', q1, q2, q3, q4, q5, q6, fun y hy => ?_⟩
    have : xs[i] = y := by simpa [hi] using hy
    rw [← this]; exact q7
  · have out : ∀ b o, s.heap.get? b = some o → g.get? b = none → g'.get? b = none := fun b o e1 e2 => by
      cases q : g'.get? b with
      | none => rfl
      | some o' =>
        rcases new b o' q with z | z
        · rw [e2] at z; cases z
        · rw [e1] at z; cases z
    obtain ⟨oL, _, _, eL, _⟩ := c.F.ns
    refine fin D h tk g' ⟨⟨ns, fun b o e => ?_, c.F.above⟩, old _ _ ne2 c.c1, old _ _ ne1 c.c2, c.bg.trans lg, lh, out _ _ eL c.oL, out _ _ c.c1 c.og1, out _ _ c.c2 c.og2⟩ lg ⟨D, ys.length, ys, rfl, hD, by rw [hyl]; simp [e3], fun i u y h1 h2 => ?_⟩
    · refine old b o (fun q => ?_) (c.F.keep b o e)
      have := (LC.base_none c.F).1
      rw [q, this] at e; cases e
    · have h2' : ∃ x, xs[i]? = some x ∧ f x = y := by simpa using h2
      obtain ⟨x, hx', rfl⟩ := h2'
      exact hP i u h1 x hx'
theorem ldC {M : Model} {name : Str} {scope : Scope} {L a : Addr} {cd : Value} {x : Str} {pos : Pos} {v : Value} {m : Str → Option Value} {h₀ : Heap} {Q : Value → Shared → Prop} (F : Fr h₀ L s.heap m) (hv : m x = some v) (h : Q v s)
    (hk : scope.kind = .function) (hl : (envOfC name scope L a cd).kindOf x = some .local) (hd : (x == ("__debug__" : Str)) = false := by decide) :
    wpAny M A (eval (.Name x pos) (envOfC name scope L a cd)) Q E s := wpAny_Name (wpAny_loadName_local hk hl F.ns hv h) hd
end
end

section
open PySem PySem.W PyProof.Rows PySem.Calls PySem.SeqAt
noncomputable def way (x : Int) : List Bool := wayN x 3
theorem room_law {k : Nat} (env : Env) : Room k (callerA.deeper env) := ⟨by show 1 + 300 + 1 ≤ 340 + k; omega, by show 4 + 3 ≤ 400 + 10 * k; omega, rfl⟩

theorem law_3 {w : World} {s : Shared} {Q : Flow → Shared → Prop} {base g : Heap} {mean : ExcName → Option Value} {mg mb : Str → Option Value} {fa L : Addr} {cv : Value} {o1 o2 : Obj} {m : Str → Option Value}
    {name qual : Str} {params : Arguments} {body : List Stmt} {scope : Scope} {dV kV doc pm cdv ct oc : Value} {an od : Option Addr} {osl : Array (Option Value)}
    (X : (cap.heap_1 w.params).In base) (T : Top hd.view_39 (looseW hd.view_39 []) mean mg mb base)
    (ho : (cap.heap_1 w.params).lookup 200 = some ⟨oc, od, .func (fnOf name qual params body scope dV kV doc pm an cdv ct), osl⟩) {vr : Value} {nss : List (List Int)}
    (c : LC base g L o1 o2 s.heap m) (hm : m (Str.ofString "rows") = some vr) (hr : RowsI g vr nss) (hn : nss.length ≤ 100) (hns : ∀ ns ∈ nss, ns.length ≤ 100)
    (k : ∀ h' tk' g' v, LC base g' L o1 o2 h' (fun y => if y = Str.ofString "ways" then some v else m y) → Le g g' → RowsL g' v (nss.map fun ns => ns.map way) → wpAny (model Challenge.rw_ny0132_01.row.prog w) (callerA.deeper (envOfC qual scope L fa cv)) (execs (body.drop 4) (envOfC qual scope L fa cv)) Q (fun _ _ => False) { s with heap := h', toks := tk' }) :
    wpAny (model Challenge.rw_ny0132_01.row.prog w) (callerA.deeper (envOfC qual scope L fa cv)) (execs (body.drop 3) (envOfC qual scope L fa cv)) Q (fun _ _ => False) s := by
  have am : Amb w base := ⟨X, mean, mg, mb, T⟩
  revert X; k_fill; intro X
  have key : ∀ o', (cap.heap_1 w.params).lookup 200 = some o' → o' = ⟨oc, od, .func (fnOf name qual params body scope dV kV doc pm an cdv ct), osl⟩ := fun o' h => Option.some.inj (h.symm.trans ho)
  obtain ⟨rfl, rfl, rfl⟩ := fn_inj (key _ (by k_is))
  clear key ho
  show wpAny _ _ _ _ _ _
  dsimp only [List.drop]
  refine wpAny_execs_cons ?_
  refine comp_seqA (R1 := RowI) (R2 := RowL) (g := g) (fun ns => ns.map way) RowL.mono rfl c rfl rfl rfl rfl rfl (by decide) rfl (by decide) rfl (fun Q' hQ' => ldC c.F hm hQ' rfl rfl) hr (by rw [sizeLine_eq]; omega) (fun v ns h tk C m₁ g₁ hv hmem gr q1 q2 q3 ns₁ hm₁ => ?_) (fun D h tk g' c' lg hD => k _ _ _ _ c' lg hD)
  clear k
  have hCa : base.objs.size ≤ C := Nat.le_trans c.F.above (Nat.le_trans (Nat.le_of_lt c.F.ns.lt) q2)
  have bh : Le base h := fun b o e => gr.heap b o (c.F.keep b o e)
  have F₁ : Fr base C h m₁ := ⟨ns₁, bh, hCa⟩
  refine comp_seq (R1 := IntR) (R2 := WayR) (g := g₁) way WayR.mono rfl rfl (by decide) rfl (by decide) rfl (fun Q' hQ' => cname F₁ hm₁ hQ' rfl rfl) (SeqOf.le IntR.mono _ _ _ _ gr.view hv) (by have := hns ns hmem; rw [sizeLine_eq]; omega) gr.le (fun v₂ x h₂ tk₂ C₂ m₂ g₂ hv₂ hx₂ gr₂ r1 r2 r3 ns₂ hm₂ => ?_) (fun D h₂ tk₂ g₂ gr₂ hD => EEnd.of_grow ns₁ gr₂ (RowL.of_seq hD))
  obtain ⟨t, rfl⟩ := hv₂
  have F : Fr base C₂ h₂ m₂ := ⟨ns₂, fun b o e => gr₂.heap b o (bh b o e), Nat.le_trans hCa (Nat.le_trans (Nat.le_of_lt ns₁.lt) r2)⟩
  have N : News base C₂ h₂ [] := News.nil
  clear F₁
  (repeat' (first | (k_unfold; (try dsimp only)) | ((((fail_if_success (with_reducible show wpAny _ _ (exec (Stmt.While _ _ _ _) _) _ _ _)); (fail_if_success (with_reducible show wpAny _ _ (exec (Stmt.For _ _ _ _ _) _) _ _ _)); (fail_if_success (with_reducible show wpAny _ _ (call (Value.ref _) _ _) _ _ _)); (fail_if_success (with_reducible show wpAny _ _ (eval (Expr.ListComp _ _ _ _) _) _ _ _)))); (first | (k_here; (with_reducible show wpAny _ _ (eval (Expr.Name _ _) (compEnvC _ _ _ _)) _ _ _); (with_reducible rename Fr _ _ _ _ => kF); k_dflt (refine' cname kF ?k2 ?_ ?k3 ?k4; (case k3 => exact rfl); (case k4 => exact rfl); (case k2 => ((repeat' (first | (with_reducible assumption) | exact if_pos rfl | refine Eq.trans (if_neg (by decide)) ?_ | exact rfl)); done)); k_whole)) | (k_here; (with_reducible show wpAny _ _ (eval (Expr.Name _ _) (envOf _ _ _ _ _)) _ _ _); (with_reducible rename Fr _ _ _ _ => kF); k_dflt (refine' ld kF ?k2 ?_; (case k2 => ((repeat' (first | (with_reducible assumption) | exact if_pos rfl | refine Eq.trans (if_neg (by decide)) ?_ | exact rfl)); done)); k_whole)) | walk1)) | ((((fail_if_success (with_reducible show wpAny _ _ (exec (Stmt.While _ _ _ _) _) _ _ _)); (fail_if_success (with_reducible show wpAny _ _ (exec (Stmt.For _ _ _ _ _) _) _ _ _)); (fail_if_success (with_reducible show wpAny _ _ (call (Value.ref _) _ _) _ _ _)); (fail_if_success (with_reducible show wpAny _ _ (eval (Expr.ListComp _ _ _ _) _) _ _ _)))); dsimp only; (((fail_if_success (with_reducible show wpAny _ _ (exec (Stmt.While _ _ _ _) _) _ _ _)); (fail_if_success (with_reducible show wpAny _ _ (exec (Stmt.For _ _ _ _ _) _) _ _ _)); (fail_if_success (with_reducible show wpAny _ _ (call (Value.ref _) _ _) _ _ _)); (fail_if_success (with_reducible show wpAny _ _ (eval (Expr.ListComp _ _ _ _) _) _ _ _)))); (first | (k_here; (with_reducible show wpAny _ _ (eval (Expr.Name _ _) (compEnvC _ _ _ _)) _ _ _); (with_reducible rename Fr _ _ _ _ => kF); k_dflt (refine' cname kF ?k2 ?_ ?k3 ?k4; (case k3 => exact rfl); (case k4 => exact rfl); (case k2 => ((repeat' (first | (with_reducible assumption) | exact if_pos rfl | refine Eq.trans (if_neg (by decide)) ?_ | exact rfl)); done)); k_whole)) | (k_here; (with_reducible show wpAny _ _ (eval (Expr.Name _ _) (envOf _ _ _ _ _)) _ _ _); (with_reducible rename Fr _ _ _ _ => kF); k_dflt (refine' ld kF ?k2 ?_; (case k2 => ((repeat' (first | (with_reducible assumption) | exact if_pos rfl | refine Eq.trans (if_neg (by decide)) ?_ | exact rfl)); done)); k_whole)) | walk1)) | fail "no step"))
  rename Fr _ _ _ _ => F2
  refine way_c am F2.keep (room_law _) (fun h' tk' r vs n' k1 k2 k3 k4 => ?_)
  obtain ⟨g₃, gr₃, hg₃⟩ := Grow.add gr₂.le k1 [r] (by simpa using k2)
  exact EEnd.of_grow ns₂ gr₃ (TX.rd k3 (by rw [hg₃ r (by simp)]; exact k4))

theorem law_2 {w : World} {s : Shared} {Q : Flow → Shared → Prop} {base g : Heap} {mean : ExcName → Option Value} {mg mb : Str → Option Value} {fa L : Addr} {cv : Value} {o1 o2 : Obj} {m : Str → Option Value}
    {name qual : Str} {params : Arguments} {body : List Stmt} {scope : Scope} {dV kV doc pm cdv ct oc : Value} {an od : Option Addr} {osl : Array (Option Value)}
    (X : (cap.heap_1 w.params).In base) (T : Top hd.view_39 (looseW hd.view_39 []) mean mg mb base)
    (ho : (cap.heap_1 w.params).lookup 200 = some ⟨oc, od, .func (fnOf name qual params body scope dV kV doc pm an cdv ct), osl⟩) {vr : Value} {nss : List (List Int)}
    (c : LC base g L o1 o2 s.heap m) (hm : m (Str.ofString "rows") = some vr) (hr : RowsI g vr nss) (hn : nss.length ≤ 100) (hns : ∀ ns ∈ nss, ns.length ≤ 100)
    (k : ∀ h' tk' g' v, LC base g' L o1 o2 h' (fun y => if y = Str.ofString "names" then some v else m y) → Le g g' → RowsL g' v (nss.map fun ns => ns.map way) → wpAny (model Challenge.rw_ny0132_01.row.prog w) (callerA.deeper (envOfC qual scope L fa cv)) (execs (body.drop 3) (envOfC qual scope L fa cv)) Q (fun _ _ => False) { s with heap := h', toks := tk' }) :
    wpAny (model Challenge.rw_ny0132_01.row.prog w) (callerA.deeper (envOfC qual scope L fa cv)) (execs (body.drop 2) (envOfC qual scope L fa cv)) Q (fun _ _ => False) s := by
  have am : Amb w base := ⟨X, mean, mg, mb, T⟩
  revert X; k_fill; intro X
  have key : ∀ o', (cap.heap_1 w.params).lookup 200 = some o' → o' = ⟨oc, od, .func (fnOf name qual params body scope dV kV doc pm an cdv ct), osl⟩ := fun o' h => Option.some.inj (h.symm.trans ho)
  obtain ⟨rfl, rfl, rfl⟩ := fn_inj (key _ (by k_is))
  clear key ho
  show wpAny _ _ _ _ _ _
  dsimp only [List.drop]
  refine wpAny_execs_cons ?_
  refine comp_seqA (R1 := RowI) (R2 := RowL) (g := g) (fun ns => ns.map way) RowL.mono rfl c rfl rfl rfl rfl rfl (by decide) rfl (by decide) rfl (fun Q' hQ' => ldC c.F hm hQ' rfl rfl) hr (by rw [sizeLine_eq]; omega) (fun v ns h tk C m₁ g₁ hv hmem gr q1 q2 q3 ns₁ hm₁ => ?_) (fun D h tk g' c' lg hD => k _ _ _ _ c' lg hD)
  clear k
  have hCa : base.objs.size ≤ C := Nat.le_trans c.F.above (Nat.le_trans (Nat.le_of_lt c.F.ns.lt) q2)
  have bh : Le base h := fun b o e => gr.heap b o (c.F.keep b o e)
  have F₁ : Fr base C h m₁ := ⟨ns₁, bh, hCa⟩
  refine comp_seq (R1 := IntR) (R2 := WayR) (g := g₁) way WayR.mono rfl rfl (by decide) rfl (by decide) rfl (fun Q' hQ' => cname F₁ hm₁ hQ' rfl rfl) (SeqOf.le IntR.mono _ _ _ _ gr.view hv) (by have := hns ns hmem; rw [sizeLine_eq]; omega) gr.le (fun v₂ x h₂ tk₂ C₂ m₂ g₂ hv₂ hx₂ gr₂ r1 r2 r3 ns₂ hm₂ => ?_) (fun D h₂ tk₂ g₂ gr₂ hD => EEnd.of_grow ns₁ gr₂ (RowL.of_seq hD))
  obtain ⟨t, rfl⟩ := hv₂
  have F : Fr base C₂ h₂ m₂ := ⟨ns₂, fun b o e => gr₂.heap b o (bh b o e), Nat.le_trans hCa (Nat.le_trans (Nat.le_of_lt ns₁.lt) r2)⟩
  have N : News base C₂ h₂ [] := News.nil
  clear F₁
  (repeat' (first | (k_unfold; (try dsimp only)) | ((((fail_if_success (with_reducible show wpAny _ _ (exec (Stmt.While _ _ _ _) _) _ _ _)); (fail_if_success (with_reducible show wpAny _ _ (exec (Stmt.For _ _ _ _ _) _) _ _ _)); (fail_if_success (with_reducible show wpAny _ _ (call (Value.ref _) _ _) _ _ _)); (fail_if_success (with_reducible show wpAny _ _ (eval (Expr.ListComp _ _ _ _) _) _ _ _)))); (first | (k_here; (with_reducible show wpAny _ _ (eval (Expr.Name _ _) (compEnvC _ _ _ _)) _ _ _); (with_reducible rename Fr _ _ _ _ => kF); k_dflt (refine' cname kF ?k2 ?_ ?k3 ?k4; (case k3 => exact rfl); (case k4 => exact rfl); (case k2 => ((repeat' (first | (with_reducible assumption) | exact if_pos rfl | refine Eq.trans (if_neg (by decide)) ?_ | exact rfl)); done)); k_whole)) | (k_here; (with_reducible show wpAny _ _ (eval (Expr.Name _ _) (envOf _ _ _ _ _)) _ _ _); (with_reducible rename Fr _ _ _ _ => kF); k_dflt (refine' ld kF ?k2 ?_; (case k2 => ((repeat' (first | (with_reducible assumption) | exact if_pos rfl | refine Eq.trans (if_neg (by decide)) ?_ | exact rfl)); done)); k_whole)) | walk1)) | ((((fail_if_success (with_reducible show wpAny _ _ (exec (Stmt.While _ _ _ _) _) _ _ _)); (fail_if_success (with_reducible show wpAny _ _ (exec (Stmt.For _ _ _ _ _) _) _ _ _)); (fail_if_success (with_reducible show wpAny _ _ (call (Value.ref _) _ _) _ _ _)); (fail_if_success (with_reducible show wpAny _ _ (eval (Expr.ListComp _ _ _ _) _) _ _ _)))); dsimp only; (((fail_if_success (with_reducible show wpAny _ _ (exec (Stmt.While _ _ _ _) _) _ _ _)); (fail_if_success (with_reducible show wpAny _ _ (exec (Stmt.For _ _ _ _ _) _) _ _ _)); (fail_if_success (with_reducible show wpAny _ _ (call (Value.ref _) _ _) _ _ _)); (fail_if_success (with_reducible show wpAny _ _ (eval (Expr.ListComp _ _ _ _) _) _ _ _)))); (first | (k_here; (with_reducible show wpAny _ _ (eval (Expr.Name _ _) (compEnvC _ _ _ _)) _ _ _); (with_reducible rename Fr _ _ _ _ => kF); k_dflt (refine' cname kF ?k2 ?_ ?k3 ?k4; (case k3 => exact rfl); (case k4 => exact rfl); (case k2 => ((repeat' (first | (with_reducible assumption) | exact if_pos rfl | refine Eq.trans (if_neg (by decide)) ?_ | exact rfl)); done)); k_whole)) | (k_here; (with_reducible show wpAny _ _ (eval (Expr.Name _ _) (envOf _ _ _ _ _)) _ _ _); (with_reducible rename Fr _ _ _ _ => kF); k_dflt (refine' ld kF ?k2 ?_; (case k2 => ((repeat' (first | (with_reducible assumption) | exact if_pos rfl | refine Eq.trans (if_neg (by decide)) ?_ | exact rfl)); done)); k_whole)) | walk1)) | fail "no step"))
  rename Fr _ _ _ _ => F2
  refine path_c am F2.keep (room_law _) (fun h3 tk3 u3 k3 => ?_)
  have F3 := F2.kept k3
  clear F2
  have N3 : News base C₂ h3 [] := News.nil
  have ok := okD_at x
  unfold okD at ok
  simp only [Bool.and_eq_true, decide_eq_true_eq, Bool.not_eq_true'] at ok
  obtain ⟨⟨⟨⟨⟨⟨⟨⟨p1, p2⟩, p3⟩, p4⟩, p5⟩, p6⟩, p7⟩, p8⟩, p9⟩ := ok
  have pn : pathN (digit x 0) (digit x 1) (digit x 2) = Str.ofString "/" ++ Txt.join (Str.ofString "/") (normF (Txt.split (Txt.slice (pathS (digit x 0) (digit x 1) (digit x 2)) (some 1) none) (Str.ofString "/"))) := rfl
  have p9' : namesF 3 (pathN (digit x 0) (digit x 1) (digit x 2)) [] = (way x).map tx := p9
  rw [pn] at p8 p9'
  (repeat' (first | (k_unfold; (try dsimp only)) | ((((fail_if_success (with_reducible show wpAny _ _ (exec (Stmt.While _ _ _ _) _) _ _ _)); (fail_if_success (with_reducible show wpAny _ _ (exec (Stmt.For _ _ _ _ _) _) _ _ _)); (fail_if_success (with_reducible show wpAny _ _ (call (Value.ref _) _ _) _ _ _)); (fail_if_success (with_reducible show wpAny _ _ (eval (Expr.ListComp _ _ _ _) _) _ _ _)))); (first | (k_here; (with_reducible show wpAny _ _ (eval (Expr.Name _ _) (compEnvC _ _ _ _)) _ _ _); (with_reducible rename Fr _ _ _ _ => kF); k_dflt (refine' cname kF ?k2 ?_ ?k3 ?k4; (case k3 => exact rfl); (case k4 => exact rfl); (case k2 => ((repeat' (first | (with_reducible assumption) | exact if_pos rfl | refine Eq.trans (if_neg (by decide)) ?_ | exact rfl)); done)); k_whole)) | (k_here; (with_reducible show wpAny _ _ (eval (Expr.Name _ _) (envOf _ _ _ _ _)) _ _ _); (with_reducible rename Fr _ _ _ _ => kF); k_dflt (refine' ld kF ?k2 ?_; (case k2 => ((repeat' (first | (with_reducible assumption) | exact if_pos rfl | refine Eq.trans (if_neg (by decide)) ?_ | exact rfl)); done)); k_whole)) | walk1)) | ((((fail_if_success (with_reducible show wpAny _ _ (exec (Stmt.While _ _ _ _) _) _ _ _)); (fail_if_success (with_reducible show wpAny _ _ (exec (Stmt.For _ _ _ _ _) _) _ _ _)); (fail_if_success (with_reducible show wpAny _ _ (call (Value.ref _) _ _) _ _ _)); (fail_if_success (with_reducible show wpAny _ _ (eval (Expr.ListComp _ _ _ _) _) _ _ _)))); dsimp only; (((fail_if_success (with_reducible show wpAny _ _ (exec (Stmt.While _ _ _ _) _) _ _ _)); (fail_if_success (with_reducible show wpAny _ _ (exec (Stmt.For _ _ _ _ _) _) _ _ _)); (fail_if_success (with_reducible show wpAny _ _ (call (Value.ref _) _ _) _ _ _)); (fail_if_success (with_reducible show wpAny _ _ (eval (Expr.ListComp _ _ _ _) _) _ _ _)))); (first | (k_here; (with_reducible show wpAny _ _ (eval (Expr.Name _ _) (compEnvC _ _ _ _)) _ _ _); (with_reducible rename Fr _ _ _ _ => kF); k_dflt (refine' cname kF ?k2 ?_ ?k3 ?k4; (case k3 => exact rfl); (case k4 => exact rfl); (case k2 => ((repeat' (first | (with_reducible assumption) | exact if_pos rfl | refine Eq.trans (if_neg (by decide)) ?_ | exact rfl)); done)); k_whole)) | (k_here; (with_reducible show wpAny _ _ (eval (Expr.Name _ _) (envOf _ _ _ _ _)) _ _ _); (with_reducible rename Fr _ _ _ _ => kF); k_dflt (refine' ld kF ?k2 ?_; (case k2 => ((repeat' (first | (with_reducible assumption) | exact if_pos rfl | refine Eq.trans (if_neg (by decide)) ?_ | exact rfl)); done)); k_whole)) | walk1)) | fail "no step"))
  rename Fr _ _ _ _ => F4
  refine normpath_c am F4.keep (room_law _) p1 p2 p3 p4 p5 p6 p7 (fun h5 tk5 u5 k5 => ?_)
  have F5 := F4.kept k5
  clear F4
  have N5 : News base C₂ h5 [] := News.nil
  generalize Str.ofString "/" ++ Txt.join (Str.ofString "/") (normF (Txt.split (Txt.slice (pathS (digit x 0) (digit x 1) (digit x 2)) (some 1) none) (Str.ofString "/"))) = pth at *
  (repeat' (first | (k_unfold; (try dsimp only)) | ((((fail_if_success (with_reducible show wpAny _ _ (exec (Stmt.While _ _ _ _) _) _ _ _)); (fail_if_success (with_reducible show wpAny _ _ (exec (Stmt.For _ _ _ _ _) _) _ _ _)); (fail_if_success (with_reducible show wpAny _ _ (call (Value.ref _) _ _) _ _ _)); (fail_if_success (with_reducible show wpAny _ _ (eval (Expr.ListComp _ _ _ _) _) _ _ _)))); (first | (k_here; (with_reducible show wpAny _ _ (eval (Expr.Name _ _) (compEnvC _ _ _ _)) _ _ _); (with_reducible rename Fr _ _ _ _ => kF); k_dflt (refine' cname kF ?k2 ?_ ?k3 ?k4; (case k3 => exact rfl); (case k4 => exact rfl); (case k2 => ((repeat' (first | (with_reducible assumption) | exact if_pos rfl | refine Eq.trans (if_neg (by decide)) ?_ | exact rfl)); done)); k_whole)) | (k_here; (with_reducible show wpAny _ _ (eval (Expr.Name _ _) (envOf _ _ _ _ _)) _ _ _); (with_reducible rename Fr _ _ _ _ => kF); k_dflt (refine' ld kF ?k2 ?_; (case k2 => ((repeat' (first | (with_reducible assumption) | exact if_pos rfl | refine Eq.trans (if_neg (by decide)) ?_ | exact rfl)); done)); k_whole)) | walk1)) | ((((fail_if_success (with_reducible show wpAny _ _ (exec (Stmt.While _ _ _ _) _) _ _ _)); (fail_if_success (with_reducible show wpAny _ _ (exec (Stmt.For _ _ _ _ _) _) _ _ _)); (fail_if_success (with_reducible show wpAny _ _ (call (Value.ref _) _ _) _ _ _)); (fail_if_success (with_reducible show wpAny _ _ (eval (Expr.ListComp _ _ _ _) _) _ _ _)))); dsimp only; (((fail_if_success (with_reducible show wpAny _ _ (exec (Stmt.While _ _ _ _) _) _ _ _)); (fail_if_success (with_reducible show wpAny _ _ (exec (Stmt.For _ _ _ _ _) _) _ _ _)); (fail_if_success (with_reducible show wpAny _ _ (call (Value.ref _) _ _) _ _ _)); (fail_if_success (with_reducible show wpAny _ _ (eval (Expr.ListComp _ _ _ _) _) _ _ _)))); (first | (k_here; (with_reducible show wpAny _ _ (eval (Expr.Name _ _) (compEnvC _ _ _ _)) _ _ _); (with_reducible rename Fr _ _ _ _ => kF); k_dflt (refine' cname kF ?k2 ?_ ?k3 ?k4; (case k3 => exact rfl); (case k4 => exact rfl); (case k2 => ((repeat' (first | (with_reducible assumption) | exact if_pos rfl | refine Eq.trans (if_neg (by decide)) ?_ | exact rfl)); done)); k_whole)) | (k_here; (with_reducible show wpAny _ _ (eval (Expr.Name _ _) (envOf _ _ _ _ _)) _ _ _); (with_reducible rename Fr _ _ _ _ => kF); k_dflt (refine' ld kF ?k2 ?_; (case k2 => ((repeat' (first | (with_reducible assumption) | exact if_pos rfl | refine Eq.trans (if_neg (by decide)) ?_ | exact rfl)); done)); k_whole)) | walk1)) | fail "no step"))
  rename Fr _ _ _ _ => F6
  refine names_c (K := 3) am F6.keep (room_law _) (by decide) p8 (fun h7 tk7 r vs n7 k7 q7 e7 s7 => ?_)
  obtain ⟨g₃, gr₃, hg₃⟩ := Grow.add gr₂.le ((k3.trans k5).trans k7) [r] (by
    intro z hz
    rw [List.mem_singleton.mp hz]
    exact none_le (k3.trans k5) q7)
  exact EEnd.of_grow ns₂ gr₃ (TX.rd (TX_strs (p9' ▸ s7)) (by rw [hg₃ r (by simp)]; exact e7))
end

section
open PySem PySem.W PyProof.Rows PySem.Calls PySem.SeqAt

theorem heads_c {w : World} {A : Around} {E : Value → Shared → Prop} {s : Shared} {Q : Value → Shared → Prop} {base g : Heap} {L fa : Addr} {cv : Value} {o1 o2 : Obj} {m : Str → Option Value} {mean : ExcName → Option Value} {mg mb : Str → Option Value} {qual : Str} {sc : Scope} {X : Str} {vX : Value} {w0 w1 : WW}
    {q1 q2 q3 q4 q5 q6 r1 r2 r3 t1 t2 t3 t4 t5 t6 u1 u2 u3 q : Pos}
    (Xh : (cap.heap_1 w.params).In base) (T : Top hd.view_39 (looseW hd.view_39 []) mean mg mb base)
    (c : LC base g L o1 o2 s.heap m) (hX : m X = some vX) (hr : RowsL g vX [w0, w1]) (h0 : w0.length ≤ 100) (h1 : w1.length ≤ 100) (hk : sc.kind = .function) (hl : (envOfC qual sc L fa cv).kindOf X = some .local) (hdb : (X == ("__debug__" : Str)) = false)
    (d1 : ∃ v, o1.data = .cell v) (d2 : ∃ v, o2.data = .cell v)
    (hQ : ∀ h' tk g' v, LC base g' L o1 o2 h' m → Le g g' → RowsL g' v [w0.take 3, w0, w1.take 4, w1] → Q v { s with heap := h', toks := tk }) :
    wpAny (model Challenge.rw_ny0132_01.row.prog w) A (eval (.List [.Subscript (.Subscript (.Name X q1) (.Constant (.int 0) 0 q2) q3) (.Slice none (some (.Constant (.int 3) 0 q4)) none q5) q6, .Subscript (.Name X r1) (.Constant (.int 0) 0 r2) r3,
      .Subscript (.Subscript (.Name X t1) (.Constant (.int 1) 0 t2) t3) (.Slice none (some (.Constant (.int 4) 0 t4)) none t5) t6, .Subscript (.Name X u1) (.Constant (.int 1) 0 u2) u3] q) (envOfC qual sc L fa cv)) Q E s := by
  revert Xh; k_fill; intro Xh
  obtain ⟨rest, N, hv, hrest⟩ := c.ledger
  obtain ⟨nm, kn, us, rfl, en, ln, hn⟩ := hr
  obtain ⟨u0, u1', rfl⟩ : ∃ a b, us = [a, b] := by
    match us, ln with
    | [a, b], _ => exact ⟨a, b, rfl⟩
  have R0 := hn 0 u0 w0 rfl rfl
  have R1 := hn 1 u1' w1 rfl rfl
  obtain ⟨n0, k0, ps0, rfl, e0, m0, rd0⟩ := id R0
  obtain ⟨n1, k1, ps1, rfl, e1, m1, rd1⟩ := id R1
  have lgh : ∀ {h' : Heap} {m' : Str → Option Value} {all : List (Addr × Obj)}, Fr base L h' m' → News base L h' all → (∀ p ∈ rest, p ∈ all) → Le g h' := fun F' N' sub b o e => by
    rcases hv b o e with z | z
    · exact F'.keep b o z
    · exact (N' _ (sub _ z)).1
  have F := c.F
  show wpAny _ _ _ _ _ _
  try k_fold
  (repeat' (first | (k_unfold; (try dsimp only)) | ((((((fail_if_success (with_reducible show wpAny _ _ (exec (Stmt.While _ _ _ _) _) _ _ _)); (fail_if_success (with_reducible show wpAny _ _ (exec (Stmt.For _ _ _ _ _) _) _ _ _)); (fail_if_success (with_reducible show wpAny _ _ (call (Value.ref _) _ _) _ _ _)); (fail_if_success (with_reducible show wpAny _ _ (eval (Expr.ListComp _ _ _ _) _) _ _ _)))); (fail_if_success (with_reducible show wpAny _ _ (subscriptTail _ _ _ _) _ _ _)); (fail_if_success (with_reducible show wpAny _ _ (eval (Expr.Name _ _) (envOfC _ _ _ _ _)) _ _ _)))); (first | (k_here; (with_reducible show wpAny _ _ (eval (Expr.Name _ _) (compEnvC _ _ _ _)) _ _ _); (with_reducible rename Fr _ _ _ _ => kF); k_dflt (refine' cname kF ?k2 ?_ ?k3 ?k4; (case k3 => exact rfl); (case k4 => exact rfl); (case k2 => ((repeat' (first | (with_reducible assumption) | exact if_pos rfl | refine Eq.trans (if_neg (by decide)) ?_ | exact rfl)); done)); k_whole)) | (k_here; (with_reducible show wpAny _ _ (eval (Expr.Name _ _) (envOf _ _ _ _ _)) _ _ _); (with_reducible rename Fr _ _ _ _ => kF); k_dflt (refine' ld kF ?k2 ?_; (case k2 => ((repeat' (first | (with_reducible assumption) | exact if_pos rfl | refine Eq.trans (if_neg (by decide)) ?_ | exact rfl)); done)); k_whole)) | walk1)) | ((((((fail_if_success (with_reducible show wpAny _ _ (exec (Stmt.While _ _ _ _) _) _ _ _)); (fail_if_success (with_reducible show wpAny _ _ (exec (Stmt.For _ _ _ _ _) _) _ _ _)); (fail_if_success (with_reducible show wpAny _ _ (call (Value.ref _) _ _) _ _ _)); (fail_if_success (with_reducible show wpAny _ _ (eval (Expr.ListComp _ _ _ _) _) _ _ _)))); (fail_if_success (with_reducible show wpAny _ _ (subscriptTail _ _ _ _) _ _ _)); (fail_if_success (with_reducible show wpAny _ _ (eval (Expr.Name _ _) (envOfC _ _ _ _ _)) _ _ _)))); dsimp only; (((((fail_if_success (with_reducible show wpAny _ _ (exec (Stmt.While _ _ _ _) _) _ _ _)); (fail_if_success (with_reducible show wpAny _ _ (exec (Stmt.For _ _ _ _ _) _) _ _ _)); (fail_if_success (with_reducible show wpAny _ _ (call (Value.ref _) _ _) _ _ _)); (fail_if_success (with_reducible show wpAny _ _ (eval (Expr.ListComp _ _ _ _) _) _ _ _)))); (fail_if_success (with_reducible show wpAny _ _ (subscriptTail _ _ _ _) _ _ _)); (fail_if_success (with_reducible show wpAny _ _ (eval (Expr.Name _ _) (envOfC _ _ _ _ _)) _ _ _)))); (first | (k_here; (with_reducible show wpAny _ _ (eval (Expr.Name _ _) (compEnvC _ _ _ _)) _ _ _); (with_reducible rename Fr _ _ _ _ => kF); k_dflt (refine' cname kF ?k2 ?_ ?k3 ?k4; (case k3 => exact rfl); (case k4 => exact rfl); (case k2 => ((repeat' (first | (with_reducible assumption) | exact if_pos rfl | refine Eq.trans (if_neg (by decide)) ?_ | exact rfl)); done)); k_whole)) | (k_here; (with_reducible show wpAny _ _ (eval (Expr.Name _ _) (envOf _ _ _ _ _)) _ _ _); (with_reducible rename Fr _ _ _ _ => kF); k_dflt (refine' ld kF ?k2 ?_; (case k2 => ((repeat' (first | (with_reducible assumption) | exact if_pos rfl | refine Eq.trans (if_neg (by decide)) ?_ | exact rfl)); done)); k_whole)) | walk1)) | fail "no step"))
  rename Fr _ _ _ _ => F'
  refine ldC F' hX ?_ hk hl hdb
  (repeat' (first | (k_unfold; (try dsimp only)) | ((((((fail_if_success (with_reducible show wpAny _ _ (exec (Stmt.While _ _ _ _) _) _ _ _)); (fail_if_success (with_reducible show wpAny _ _ (exec (Stmt.For _ _ _ _ _) _) _ _ _)); (fail_if_success (with_reducible show wpAny _ _ (call (Value.ref _) _ _) _ _ _)); (fail_if_success (with_reducible show wpAny _ _ (eval (Expr.ListComp _ _ _ _) _) _ _ _)))); (fail_if_success (with_reducible show wpAny _ _ (subscriptTail _ _ _ _) _ _ _)); (fail_if_success (with_reducible show wpAny _ _ (eval (Expr.Name _ _) (envOfC _ _ _ _ _)) _ _ _)))); (first | (k_here; (with_reducible show wpAny _ _ (eval (Expr.Name _ _) (compEnvC _ _ _ _)) _ _ _); (with_reducible rename Fr _ _ _ _ => kF); k_dflt (refine' cname kF ?k2 ?_ ?k3 ?k4; (case k3 => exact rfl); (case k4 => exact rfl); (case k2 => ((repeat' (first | (with_reducible assumption) | exact if_pos rfl | refine Eq.trans (if_neg (by decide)) ?_ | exact rfl)); done)); k_whole)) | (k_here; (with_reducible show wpAny _ _ (eval (Expr.Name _ _) (envOf _ _ _ _ _)) _ _ _); (with_reducible rename Fr _ _ _ _ => kF); k_dflt (refine' ld kF ?k2 ?_; (case k2 => ((repeat' (first | (with_reducible assumption) | exact if_pos rfl | refine Eq.trans (if_neg (by decide)) ?_ | exact rfl)); done)); k_whole)) | walk1)) | ((((((fail_if_success (with_reducible show wpAny _ _ (exec (Stmt.While _ _ _ _) _) _ _ _)); (fail_if_success (with_reducible show wpAny _ _ (exec (Stmt.For _ _ _ _ _) _) _ _ _)); (fail_if_success (with_reducible show wpAny _ _ (call (Value.ref _) _ _) _ _ _)); (fail_if_success (with_reducible show wpAny _ _ (eval (Expr.ListComp _ _ _ _) _) _ _ _)))); (fail_if_success (with_reducible show wpAny _ _ (subscriptTail _ _ _ _) _ _ _)); (fail_if_success (with_reducible show wpAny _ _ (eval (Expr.Name _ _) (envOfC _ _ _ _ _)) _ _ _)))); dsimp only; (((((fail_if_success (with_reducible show wpAny _ _ (exec (Stmt.While _ _ _ _) _) _ _ _)); (fail_if_success (with_reducible show wpAny _ _ (exec (Stmt.For _ _ _ _ _) _) _ _ _)); (fail_if_success (with_reducible show wpAny _ _ (call (Value.ref _) _ _) _ _ _)); (fail_if_success (with_reducible show wpAny _ _ (eval (Expr.ListComp _ _ _ _) _) _ _ _)))); (fail_if_success (with_reducible show wpAny _ _ (subscriptTail _ _ _ _) _ _ _)); (fail_if_success (with_reducible show wpAny _ _ (eval (Expr.Name _ _) (envOfC _ _ _ _ _)) _ _ _)))); (first | (k_here; (with_reducible show wpAny _ _ (eval (Expr.Name _ _) (compEnvC _ _ _ _)) _ _ _); (with_reducible rename Fr _ _ _ _ => kF); k_dflt (refine' cname kF ?k2 ?_ ?k3 ?k4; (case k3 => exact rfl); (case k4 => exact rfl); (case k2 => ((repeat' (first | (with_reducible assumption) | exact if_pos rfl | refine Eq.trans (if_neg (by decide)) ?_ | exact rfl)); done)); k_whole)) | (k_here; (with_reducible show wpAny _ _ (eval (Expr.Name _ _) (envOf _ _ _ _ _)) _ _ _); (with_reducible rename Fr _ _ _ _ => kF); k_dflt (refine' ld kF ?k2 ?_; (case k2 => ((repeat' (first | (with_reducible assumption) | exact if_pos rfl | refine Eq.trans (if_neg (by decide)) ?_ | exact rfl)); done)); k_whole)) | walk1)) | fail "no step"))
  rename Fr _ _ _ _ => F'
  rename News _ _ _ _ => N'
  refine item_B (vs := [Value.ref n0, Value.ref n1]) (k := 0) (PySem.IsL.isList (n := kn) (lgh F' N' (fun p hp => by repeat (first | exact hp | refine List.Mem.tail _ ?_)) _ _ en)) (by simp) rfl ?_
  (repeat' (first | (k_unfold; (try dsimp only)) | ((((((fail_if_success (with_reducible show wpAny _ _ (exec (Stmt.While _ _ _ _) _) _ _ _)); (fail_if_success (with_reducible show wpAny _ _ (exec (Stmt.For _ _ _ _ _) _) _ _ _)); (fail_if_success (with_reducible show wpAny _ _ (call (Value.ref _) _ _) _ _ _)); (fail_if_success (with_reducible show wpAny _ _ (eval (Expr.ListComp _ _ _ _) _) _ _ _)))); (fail_if_success (with_reducible show wpAny _ _ (subscriptTail _ _ _ _) _ _ _)); (fail_if_success (with_reducible show wpAny _ _ (eval (Expr.Name _ _) (envOfC _ _ _ _ _)) _ _ _)))); (first | (k_here; (with_reducible show wpAny _ _ (eval (Expr.Name _ _) (compEnvC _ _ _ _)) _ _ _); (with_reducible rename Fr _ _ _ _ => kF); k_dflt (refine' cname kF ?k2 ?_ ?k3 ?k4; (case k3 => exact rfl); (case k4 => exact rfl); (case k2 => ((repeat' (first | (with_reducible assumption) | exact if_pos rfl | refine Eq.trans (if_neg (by decide)) ?_ | exact rfl)); done)); k_whole)) | (k_here; (with_reducible show wpAny _ _ (eval (Expr.Name _ _) (envOf _ _ _ _ _)) _ _ _); (with_reducible rename Fr _ _ _ _ => kF); k_dflt (refine' ld kF ?k2 ?_; (case k2 => ((repeat' (first | (with_reducible assumption) | exact if_pos rfl | refine Eq.trans (if_neg (by decide)) ?_ | exact rfl)); done)); k_whole)) | walk1)) | ((((((fail_if_success (with_reducible show wpAny _ _ (exec (Stmt.While _ _ _ _) _) _ _ _)); (fail_if_success (with_reducible show wpAny _ _ (exec (Stmt.For _ _ _ _ _) _) _ _ _)); (fail_if_success (with_reducible show wpAny _ _ (call (Value.ref _) _ _) _ _ _)); (fail_if_success (with_reducible show wpAny _ _ (eval (Expr.ListComp _ _ _ _) _) _ _ _)))); (fail_if_success (with_reducible show wpAny _ _ (subscriptTail _ _ _ _) _ _ _)); (fail_if_success (with_reducible show wpAny _ _ (eval (Expr.Name _ _) (envOfC _ _ _ _ _)) _ _ _)))); dsimp only; (((((fail_if_success (with_reducible show wpAny _ _ (exec (Stmt.While _ _ _ _) _) _ _ _)); (fail_if_success (with_reducible show wpAny _ _ (exec (Stmt.For _ _ _ _ _) _) _ _ _)); (fail_if_success (with_reducible show wpAny _ _ (call (Value.ref _) _ _) _ _ _)); (fail_if_success (with_reducible show wpAny _ _ (eval (Expr.ListComp _ _ _ _) _) _ _ _)))); (fail_if_success (with_reducible show wpAny _ _ (subscriptTail _ _ _ _) _ _ _)); (fail_if_success (with_reducible show wpAny _ _ (eval (Expr.Name _ _) (envOfC _ _ _ _ _)) _ _ _)))); (first | (k_here; (with_reducible show wpAny _ _ (eval (Expr.Name _ _) (compEnvC _ _ _ _)) _ _ _); (with_reducible rename Fr _ _ _ _ => kF); k_dflt (refine' cname kF ?k2 ?_ ?k3 ?k4; (case k3 => exact rfl); (case k4 => exact rfl); (case k2 => ((repeat' (first | (with_reducible assumption) | exact if_pos rfl | refine Eq.trans (if_neg (by decide)) ?_ | exact rfl)); done)); k_whole)) | (k_here; (with_reducible show wpAny _ _ (eval (Expr.Name _ _) (envOf _ _ _ _ _)) _ _ _); (with_reducible rename Fr _ _ _ _ => kF); k_dflt (refine' ld kF ?k2 ?_; (case k2 => ((repeat' (first | (with_reducible assumption) | exact if_pos rfl | refine Eq.trans (if_neg (by decide)) ?_ | exact rfl)); done)); k_whole)) | walk1)) | fail "no step"))
  rename Fr _ _ _ _ => F'
  rename News _ _ _ _ => N'
  refine kba_turn (value' := .Name X q1) (fun _ => rfl) ?_
  refine slice_list F' N' (PySem.IsL.isList (n := k0) (lgh F' N' (fun p hp => by repeat (first | exact hp | refine List.Mem.tail _ ?_)) _ _ e0)) .none (.int _ _) (fun h' F'' M1 => ?_) (by with_unfolding_all rfl) (by intro _; with_unfolding_all rfl) (by rw [sizeLine_eq]; simp; have := congrArg List.length m0; simp [m2] at this; omega)
  rw [show slicePick ((List.map (fun x => x.fst) ps0).toArray) none (some 3) none = ((List.map (fun x => x.fst) ps0).take 3).toArray from slicePick_upto' _ 3] at M1
  clear F' N'
  (repeat' (first | (k_unfold; (try dsimp only)) | ((((((fail_if_success (with_reducible show wpAny _ _ (exec (Stmt.While _ _ _ _) _) _ _ _)); (fail_if_success (with_reducible show wpAny _ _ (exec (Stmt.For _ _ _ _ _) _) _ _ _)); (fail_if_success (with_reducible show wpAny _ _ (call (Value.ref _) _ _) _ _ _)); (fail_if_success (with_reducible show wpAny _ _ (eval (Expr.ListComp _ _ _ _) _) _ _ _)))); (fail_if_success (with_reducible show wpAny _ _ (subscriptTail _ _ _ _) _ _ _)); (fail_if_success (with_reducible show wpAny _ _ (eval (Expr.Name _ _) (envOfC _ _ _ _ _)) _ _ _)))); (first | (k_here; (with_reducible show wpAny _ _ (eval (Expr.Name _ _) (compEnvC _ _ _ _)) _ _ _); (with_reducible rename Fr _ _ _ _ => kF); k_dflt (refine' cname kF ?k2 ?_ ?k3 ?k4; (case k3 => exact rfl); (case k4 => exact rfl); (case k2 => ((repeat' (first | (with_reducible assumption) | exact if_pos rfl | refine Eq.trans (if_neg (by decide)) ?_ | exact rfl)); done)); k_whole)) | (k_here; (with_reducible show wpAny _ _ (eval (Expr.Name _ _) (envOf _ _ _ _ _)) _ _ _); (with_reducible rename Fr _ _ _ _ => kF); k_dflt (refine' ld kF ?k2 ?_; (case k2 => ((repeat' (first | (with_reducible assumption) | exact if_pos rfl | refine Eq.trans (if_neg (by decide)) ?_ | exact rfl)); done)); k_whole)) | walk1)) | ((((((fail_if_success (with_reducible show wpAny _ _ (exec (Stmt.While _ _ _ _) _) _ _ _)); (fail_if_success (with_reducible show wpAny _ _ (exec (Stmt.For _ _ _ _ _) _) _ _ _)); (fail_if_success (with_reducible show wpAny _ _ (call (Value.ref _) _ _) _ _ _)); (fail_if_success (with_reducible show wpAny _ _ (eval (Expr.ListComp _ _ _ _) _) _ _ _)))); (fail_if_success (with_reducible show wpAny _ _ (subscriptTail _ _ _ _) _ _ _)); (fail_if_success (with_reducible show wpAny _ _ (eval (Expr.Name _ _) (envOfC _ _ _ _ _)) _ _ _)))); dsimp only; (((((fail_if_success (with_reducible show wpAny _ _ (exec (Stmt.While _ _ _ _) _) _ _ _)); (fail_if_success (with_reducible show wpAny _ _ (exec (Stmt.For _ _ _ _ _) _) _ _ _)); (fail_if_success (with_reducible show wpAny _ _ (call (Value.ref _) _ _) _ _ _)); (fail_if_success (with_reducible show wpAny _ _ (eval (Expr.ListComp _ _ _ _) _) _ _ _)))); (fail_if_success (with_reducible show wpAny _ _ (subscriptTail _ _ _ _) _ _ _)); (fail_if_success (with_reducible show wpAny _ _ (eval (Expr.Name _ _) (envOfC _ _ _ _ _)) _ _ _)))); (first | (k_here; (with_reducible show wpAny _ _ (eval (Expr.Name _ _) (compEnvC _ _ _ _)) _ _ _); (with_reducible rename Fr _ _ _ _ => kF); k_dflt (refine' cname kF ?k2 ?_ ?k3 ?k4; (case k3 => exact rfl); (case k4 => exact rfl); (case k2 => ((repeat' (first | (with_reducible assumption) | exact if_pos rfl | refine Eq.trans (if_neg (by decide)) ?_ | exact rfl)); done)); k_whole)) | (k_here; (with_reducible show wpAny _ _ (eval (Expr.Name _ _) (envOf _ _ _ _ _)) _ _ _); (with_reducible rename Fr _ _ _ _ => kF); k_dflt (refine' ld kF ?k2 ?_; (case k2 => ((repeat' (first | (with_reducible assumption) | exact if_pos rfl | refine Eq.trans (if_neg (by decide)) ?_ | exact rfl)); done)); k_whole)) | walk1)) | fail "no step"))
  rename Fr _ _ _ _ => F'
  refine ldC F' hX ?_ hk hl hdb
  (repeat' (first | (k_unfold; (try dsimp only)) | ((((((fail_if_success (with_reducible show wpAny _ _ (exec (Stmt.While _ _ _ _) _) _ _ _)); (fail_if_success (with_reducible show wpAny _ _ (exec (Stmt.For _ _ _ _ _) _) _ _ _)); (fail_if_success (with_reducible show wpAny _ _ (call (Value.ref _) _ _) _ _ _)); (fail_if_success (with_reducible show wpAny _ _ (eval (Expr.ListComp _ _ _ _) _) _ _ _)))); (fail_if_success (with_reducible show wpAny _ _ (subscriptTail _ _ _ _) _ _ _)); (fail_if_success (with_reducible show wpAny _ _ (eval (Expr.Name _ _) (envOfC _ _ _ _ _)) _ _ _)))); (first | (k_here; (with_reducible show wpAny _ _ (eval (Expr.Name _ _) (compEnvC _ _ _ _)) _ _ _); (with_reducible rename Fr _ _ _ _ => kF); k_dflt (refine' cname kF ?k2 ?_ ?k3 ?k4; (case k3 => exact rfl); (case k4 => exact rfl); (case k2 => ((repeat' (first | (with_reducible assumption) | exact if_pos rfl | refine Eq.trans (if_neg (by decide)) ?_ | exact rfl)); done)); k_whole)) | (k_here; (with_reducible show wpAny _ _ (eval (Expr.Name _ _) (envOf _ _ _ _ _)) _ _ _); (with_reducible rename Fr _ _ _ _ => kF); k_dflt (refine' ld kF ?k2 ?_; (case k2 => ((repeat' (first | (with_reducible assumption) | exact if_pos rfl | refine Eq.trans (if_neg (by decide)) ?_ | exact rfl)); done)); k_whole)) | walk1)) | ((((((fail_if_success (with_reducible show wpAny _ _ (exec (Stmt.While _ _ _ _) _) _ _ _)); (fail_if_success (with_reducible show wpAny _ _ (exec (Stmt.For _ _ _ _ _) _) _ _ _)); (fail_if_success (with_reducible show wpAny _ _ (call (Value.ref _) _ _) _ _ _)); (fail_if_success (with_reducible show wpAny _ _ (eval (Expr.ListComp _ _ _ _) _) _ _ _)))); (fail_if_success (with_reducible show wpAny _ _ (subscriptTail _ _ _ _) _ _ _)); (fail_if_success (with_reducible show wpAny _ _ (eval (Expr.Name _ _) (envOfC _ _ _ _ _)) _ _ _)))); dsimp only; (((((fail_if_success (with_reducible show wpAny _ _ (exec (Stmt.While _ _ _ _) _) _ _ _)); (fail_if_success (with_reducible show wpAny _ _ (exec (Stmt.For _ _ _ _ _) _) _ _ _)); (fail_if_success (with_reducible show wpAny _ _ (call (Value.ref _) _ _) _ _ _)); (fail_if_success (with_reducible show wpAny _ _ (eval (Expr.ListComp _ _ _ _) _) _ _ _)))); (fail_if_success (with_reducible show wpAny _ _ (subscriptTail _ _ _ _) _ _ _)); (fail_if_success (with_reducible show wpAny _ _ (eval (Expr.Name _ _) (envOfC _ _ _ _ _)) _ _ _)))); (first | (k_here; (with_reducible show wpAny _ _ (eval (Expr.Name _ _) (compEnvC _ _ _ _)) _ _ _); (with_reducible rename Fr _ _ _ _ => kF); k_dflt (refine' cname kF ?k2 ?_ ?k3 ?k4; (case k3 => exact rfl); (case k4 => exact rfl); (case k2 => ((repeat' (first | (with_reducible assumption) | exact if_pos rfl | refine Eq.trans (if_neg (by decide)) ?_ | exact rfl)); done)); k_whole)) | (k_here; (with_reducible show wpAny _ _ (eval (Expr.Name _ _) (envOf _ _ _ _ _)) _ _ _); (with_reducible rename Fr _ _ _ _ => kF); k_dflt (refine' ld kF ?k2 ?_; (case k2 => ((repeat' (first | (with_reducible assumption) | exact if_pos rfl | refine Eq.trans (if_neg (by decide)) ?_ | exact rfl)); done)); k_whole)) | walk1)) | fail "no step"))
  rename Fr _ _ _ _ => F'
  rename News _ _ _ _ => N'
  refine item_B (vs := [Value.ref n0, Value.ref n1]) (k := 0) (PySem.IsL.isList (n := kn) (lgh F' N' (fun p hp => by repeat (first | exact hp | refine List.Mem.tail _ ?_)) _ _ en)) (by simp) rfl ?_
  (repeat' (first | (k_unfold; (try dsimp only)) | ((((((fail_if_success (with_reducible show wpAny _ _ (exec (Stmt.While _ _ _ _) _) _ _ _)); (fail_if_success (with_reducible show wpAny _ _ (exec (Stmt.For _ _ _ _ _) _) _ _ _)); (fail_if_success (with_reducible show wpAny _ _ (call (Value.ref _) _ _) _ _ _)); (fail_if_success (with_reducible show wpAny _ _ (eval (Expr.ListComp _ _ _ _) _) _ _ _)))); (fail_if_success (with_reducible show wpAny _ _ (subscriptTail _ _ _ _) _ _ _)); (fail_if_success (with_reducible show wpAny _ _ (eval (Expr.Name _ _) (envOfC _ _ _ _ _)) _ _ _)))); (first | (k_here; (with_reducible show wpAny _ _ (eval (Expr.Name _ _) (compEnvC _ _ _ _)) _ _ _); (with_reducible rename Fr _ _ _ _ => kF); k_dflt (refine' cname kF ?k2 ?_ ?k3 ?k4; (case k3 => exact rfl); (case k4 => exact rfl); (case k2 => ((repeat' (first | (with_reducible assumption) | exact if_pos rfl | refine Eq.trans (if_neg (by decide)) ?_ | exact rfl)); done)); k_whole)) | (k_here; (with_reducible show wpAny _ _ (eval (Expr.Name _ _) (envOf _ _ _ _ _)) _ _ _); (with_reducible rename Fr _ _ _ _ => kF); k_dflt (refine' ld kF ?k2 ?_; (case k2 => ((repeat' (first | (with_reducible assumption) | exact if_pos rfl | refine Eq.trans (if_neg (by decide)) ?_ | exact rfl)); done)); k_whole)) | walk1)) | ((((((fail_if_success (with_reducible show wpAny _ _ (exec (Stmt.While _ _ _ _) _) _ _ _)); (fail_if_success (with_reducible show wpAny _ _ (exec (Stmt.For _ _ _ _ _) _) _ _ _)); (fail_if_success (with_reducible show wpAny _ _ (call (Value.ref _) _ _) _ _ _)); (fail_if_success (with_reducible show wpAny _ _ (eval (Expr.ListComp _ _ _ _) _) _ _ _)))); (fail_if_success (with_reducible show wpAny _ _ (subscriptTail _ _ _ _) _ _ _)); (fail_if_success (with_reducible show wpAny _ _ (eval (Expr.Name _ _) (envOfC _ _ _ _ _)) _ _ _)))); dsimp only; (((((fail_if_success (with_reducible show wpAny _ _ (exec (Stmt.While _ _ _ _) _) _ _ _)); (fail_if_success (with_reducible show wpAny _ _ (exec (Stmt.For _ _ _ _ _) _) _ _ _)); (fail_if_success (with_reducible show wpAny _ _ (call (Value.ref _) _ _) _ _ _)); (fail_if_success (with_reducible show wpAny _ _ (eval (Expr.ListComp _ _ _ _) _) _ _ _)))); (fail_if_success (with_reducible show wpAny _ _ (subscriptTail _ _ _ _) _ _ _)); (fail_if_success (with_reducible show wpAny _ _ (eval (Expr.Name _ _) (envOfC _ _ _ _ _)) _ _ _)))); (first | (k_here; (with_reducible show wpAny _ _ (eval (Expr.Name _ _) (compEnvC _ _ _ _)) _ _ _); (with_reducible rename Fr _ _ _ _ => kF); k_dflt (refine' cname kF ?k2 ?_ ?k3 ?k4; (case k3 => exact rfl); (case k4 => exact rfl); (case k2 => ((repeat' (first | (with_reducible assumption) | exact if_pos rfl | refine Eq.trans (if_neg (by decide)) ?_ | exact rfl)); done)); k_whole)) | (k_here; (with_reducible show wpAny _ _ (eval (Expr.Name _ _) (envOf _ _ _ _ _)) _ _ _); (with_reducible rename Fr _ _ _ _ => kF); k_dflt (refine' ld kF ?k2 ?_; (case k2 => ((repeat' (first | (with_reducible assumption) | exact if_pos rfl | refine Eq.trans (if_neg (by decide)) ?_ | exact rfl)); done)); k_whole)) | walk1)) | fail "no step"))
  rename Fr _ _ _ _ => F'
  refine ldC F' hX ?_ hk hl hdb
  (repeat' (first | (k_unfold; (try dsimp only)) | ((((((fail_if_success (with_reducible show wpAny _ _ (exec (Stmt.While _ _ _ _) _) _ _ _)); (fail_if_success (with_reducible show wpAny _ _ (exec (Stmt.For _ _ _ _ _) _) _ _ _)); (fail_if_success (with_reducible show wpAny _ _ (call (Value.ref _) _ _) _ _ _)); (fail_if_success (with_reducible show wpAny _ _ (eval (Expr.ListComp _ _ _ _) _) _ _ _)))); (fail_if_success (with_reducible show wpAny _ _ (subscriptTail _ _ _ _) _ _ _)); (fail_if_success (with_reducible show wpAny _ _ (eval (Expr.Name _ _) (envOfC _ _ _ _ _)) _ _ _)))); (first | (k_here; (with_reducible show wpAny _ _ (eval (Expr.Name _ _) (compEnvC _ _ _ _)) _ _ _); (with_reducible rename Fr _ _ _ _ => kF); k_dflt (refine' cname kF ?k2 ?_ ?k3 ?k4; (case k3 => exact rfl); (case k4 => exact rfl); (case k2 => ((repeat' (first | (with_reducible assumption) | exact if_pos rfl | refine Eq.trans (if_neg (by decide)) ?_ | exact rfl)); done)); k_whole)) | (k_here; (with_reducible show wpAny _ _ (eval (Expr.Name _ _) (envOf _ _ _ _ _)) _ _ _); (with_reducible rename Fr _ _ _ _ => kF); k_dflt (refine' ld kF ?k2 ?_; (case k2 => ((repeat' (first | (with_reducible assumption) | exact if_pos rfl | refine Eq.trans (if_neg (by decide)) ?_ | exact rfl)); done)); k_whole)) | walk1)) | ((((((fail_if_success (with_reducible show wpAny _ _ (exec (Stmt.While _ _ _ _) _) _ _ _)); (fail_if_success (with_reducible show wpAny _ _ (exec (Stmt.For _ _ _ _ _) _) _ _ _)); (fail_if_success (with_reducible show wpAny _ _ (call (Value.ref _) _ _) _ _ _)); (fail_if_success (with_reducible show wpAny _ _ (eval (Expr.ListComp _ _ _ _) _) _ _ _)))); (fail_if_success (with_reducible show wpAny _ _ (subscriptTail _ _ _ _) _ _ _)); (fail_if_success (with_reducible show wpAny _ _ (eval (Expr.Name _ _) (envOfC _ _ _ _ _)) _ _ _)))); dsimp only; (((((fail_if_success (with_reducible show wpAny _ _ (exec (Stmt.While _ _ _ _) _) _ _ _)); (fail_if_success (with_reducible show wpAny _ _ (exec (Stmt.For _ _ _ _ _) _) _ _ _)); (fail_if_success (with_reducible show wpAny _ _ (call (Value.ref _) _ _) _ _ _)); (fail_if_success (with_reducible show wpAny _ _ (eval (Expr.ListComp _ _ _ _) _) _ _ _)))); (fail_if_success (with_reducible show wpAny _ _ (subscriptTail _ _ _ _) _ _ _)); (fail_if_success (with_reducible show wpAny _ _ (eval (Expr.Name _ _) (envOfC _ _ _ _ _)) _ _ _)))); (first | (k_here; (with_reducible show wpAny _ _ (eval (Expr.Name _ _) (compEnvC _ _ _ _)) _ _ _); (with_reducible rename Fr _ _ _ _ => kF); k_dflt (refine' cname kF ?k2 ?_ ?k3 ?k4; (case k3 => exact rfl); (case k4 => exact rfl); (case k2 => ((repeat' (first | (with_reducible assumption) | exact if_pos rfl | refine Eq.trans (if_neg (by decide)) ?_ | exact rfl)); done)); k_whole)) | (k_here; (with_reducible show wpAny _ _ (eval (Expr.Name _ _) (envOf _ _ _ _ _)) _ _ _); (with_reducible rename Fr _ _ _ _ => kF); k_dflt (refine' ld kF ?k2 ?_; (case k2 => ((repeat' (first | (with_reducible assumption) | exact if_pos rfl | refine Eq.trans (if_neg (by decide)) ?_ | exact rfl)); done)); k_whole)) | walk1)) | fail "no step"))
  rename Fr _ _ _ _ => F'
  rename News _ _ _ _ => N'
  refine item_B (vs := [Value.ref n0, Value.ref n1]) (k := 1) (PySem.IsL.isList (n := kn) (lgh F' N' (fun p hp => by repeat (first | exact hp | refine List.Mem.tail _ ?_)) _ _ en)) (by simp) rfl ?_
  (repeat' (first | (k_unfold; (try dsimp only)) | ((((((fail_if_success (with_reducible show wpAny _ _ (exec (Stmt.While _ _ _ _) _) _ _ _)); (fail_if_success (with_reducible show wpAny _ _ (exec (Stmt.For _ _ _ _ _) _) _ _ _)); (fail_if_success (with_reducible show wpAny _ _ (call (Value.ref _) _ _) _ _ _)); (fail_if_success (with_reducible show wpAny _ _ (eval (Expr.ListComp _ _ _ _) _) _ _ _)))); (fail_if_success (with_reducible show wpAny _ _ (subscriptTail _ _ _ _) _ _ _)); (fail_if_success (with_reducible show wpAny _ _ (eval (Expr.Name _ _) (envOfC _ _ _ _ _)) _ _ _)))); (first | (k_here; (with_reducible show wpAny _ _ (eval (Expr.Name _ _) (compEnvC _ _ _ _)) _ _ _); (with_reducible rename Fr _ _ _ _ => kF); k_dflt (refine' cname kF ?k2 ?_ ?k3 ?k4; (case k3 => exact rfl); (case k4 => exact rfl); (case k2 => ((repeat' (first | (with_reducible assumption) | exact if_pos rfl | refine Eq.trans (if_neg (by decide)) ?_ | exact rfl)); done)); k_whole)) | (k_here; (with_reducible show wpAny _ _ (eval (Expr.Name _ _) (envOf _ _ _ _ _)) _ _ _); (with_reducible rename Fr _ _ _ _ => kF); k_dflt (refine' ld kF ?k2 ?_; (case k2 => ((repeat' (first | (with_reducible assumption) | exact if_pos rfl | refine Eq.trans (if_neg (by decide)) ?_ | exact rfl)); done)); k_whole)) | walk1)) | ((((((fail_if_success (with_reducible show wpAny _ _ (exec (Stmt.While _ _ _ _) _) _ _ _)); (fail_if_success (with_reducible show wpAny _ _ (exec (Stmt.For _ _ _ _ _) _) _ _ _)); (fail_if_success (with_reducible show wpAny _ _ (call (Value.ref _) _ _) _ _ _)); (fail_if_success (with_reducible show wpAny _ _ (eval (Expr.ListComp _ _ _ _) _) _ _ _)))); (fail_if_success (with_reducible show wpAny _ _ (subscriptTail _ _ _ _) _ _ _)); (fail_if_success (with_reducible show wpAny _ _ (eval (Expr.Name _ _) (envOfC _ _ _ _ _)) _ _ _)))); dsimp only; (((((fail_if_success (with_reducible show wpAny _ _ (exec (Stmt.While _ _ _ _) _) _ _ _)); (fail_if_success (with_reducible show wpAny _ _ (exec (Stmt.For _ _ _ _ _) _) _ _ _)); (fail_if_success (with_reducible show wpAny _ _ (call (Value.ref _) _ _) _ _ _)); (fail_if_success (with_reducible show wpAny _ _ (eval (Expr.ListComp _ _ _ _) _) _ _ _)))); (fail_if_success (with_reducible show wpAny _ _ (subscriptTail _ _ _ _) _ _ _)); (fail_if_success (with_reducible show wpAny _ _ (eval (Expr.Name _ _) (envOfC _ _ _ _ _)) _ _ _)))); (first | (k_here; (with_reducible show wpAny _ _ (eval (Expr.Name _ _) (compEnvC _ _ _ _)) _ _ _); (with_reducible rename Fr _ _ _ _ => kF); k_dflt (refine' cname kF ?k2 ?_ ?k3 ?k4; (case k3 => exact rfl); (case k4 => exact rfl); (case k2 => ((repeat' (first | (with_reducible assumption) | exact if_pos rfl | refine Eq.trans (if_neg (by decide)) ?_ | exact rfl)); done)); k_whole)) | (k_here; (with_reducible show wpAny _ _ (eval (Expr.Name _ _) (envOf _ _ _ _ _)) _ _ _); (with_reducible rename Fr _ _ _ _ => kF); k_dflt (refine' ld kF ?k2 ?_; (case k2 => ((repeat' (first | (with_reducible assumption) | exact if_pos rfl | refine Eq.trans (if_neg (by decide)) ?_ | exact rfl)); done)); k_whole)) | walk1)) | fail "no step"))
  rename Fr _ _ _ _ => F'
  rename News _ _ _ _ => N'
  refine kba_turn (value' := .Name X q1) (fun _ => rfl) ?_
  refine slice_list F' N' (PySem.IsL.isList (n := k1) (lgh F' N' (fun p hp => by repeat (first | exact hp | refine List.Mem.tail _ ?_)) _ _ e1)) .none (.int _ _) (fun h' F'' M2 => ?_) (by with_unfolding_all rfl) (by intro _; with_unfolding_all rfl) (by rw [sizeLine_eq]; simp; have := congrArg List.length m1; simp [m2] at this; omega)
  rw [show slicePick ((List.map (fun x => x.fst) ps1).toArray) none (some 4) none = ((List.map (fun x => x.fst) ps1).take 4).toArray from slicePick_upto' _ 4] at M2
  clear F' N'
  (repeat' (first | (k_unfold; (try dsimp only)) | ((((((fail_if_success (with_reducible show wpAny _ _ (exec (Stmt.While _ _ _ _) _) _ _ _)); (fail_if_success (with_reducible show wpAny _ _ (exec (Stmt.For _ _ _ _ _) _) _ _ _)); (fail_if_success (with_reducible show wpAny _ _ (call (Value.ref _) _ _) _ _ _)); (fail_if_success (with_reducible show wpAny _ _ (eval (Expr.ListComp _ _ _ _) _) _ _ _)))); (fail_if_success (with_reducible show wpAny _ _ (subscriptTail _ _ _ _) _ _ _)); (fail_if_success (with_reducible show wpAny _ _ (eval (Expr.Name _ _) (envOfC _ _ _ _ _)) _ _ _)))); (first | (k_here; (with_reducible show wpAny _ _ (eval (Expr.Name _ _) (compEnvC _ _ _ _)) _ _ _); (with_reducible rename Fr _ _ _ _ => kF); k_dflt (refine' cname kF ?k2 ?_ ?k3 ?k4; (case k3 => exact rfl); (case k4 => exact rfl); (case k2 => ((repeat' (first | (with_reducible assumption) | exact if_pos rfl | refine Eq.trans (if_neg (by decide)) ?_ | exact rfl)); done)); k_whole)) | (k_here; (with_reducible show wpAny _ _ (eval (Expr.Name _ _) (envOf _ _ _ _ _)) _ _ _); (with_reducible rename Fr _ _ _ _ => kF); k_dflt (refine' ld kF ?k2 ?_; (case k2 => ((repeat' (first | (with_reducible assumption) | exact if_pos rfl | refine Eq.trans (if_neg (by decide)) ?_ | exact rfl)); done)); k_whole)) | walk1)) | ((((((fail_if_success (with_reducible show wpAny _ _ (exec (Stmt.While _ _ _ _) _) _ _ _)); (fail_if_success (with_reducible show wpAny _ _ (exec (Stmt.For _ _ _ _ _) _) _ _ _)); (fail_if_success (with_reducible show wpAny _ _ (call (Value.ref _) _ _) _ _ _)); (fail_if_success (with_reducible show wpAny _ _ (eval (Expr.ListComp _ _ _ _) _) _ _ _)))); (fail_if_success (with_reducible show wpAny _ _ (subscriptTail _ _ _ _) _ _ _)); (fail_if_success (with_reducible show wpAny _ _ (eval (Expr.Name _ _) (envOfC _ _ _ _ _)) _ _ _)))); dsimp only; (((((fail_if_success (with_reducible show wpAny _ _ (exec (Stmt.While _ _ _ _) _) _ _ _)); (fail_if_success (with_reducible show wpAny _ _ (exec (Stmt.For _ _ _ _ _) _) _ _ _)); (fail_if_success (with_reducible show wpAny _ _ (call (Value.ref _) _ _) _ _ _)); (fail_if_success (with_reducible show wpAny _ _ (eval (Expr.ListComp _ _ _ _) _) _ _ _)))); (fail_if_success (with_reducible show wpAny _ _ (subscriptTail _ _ _ _) _ _ _)); (fail_if_success (with_reducible show wpAny _ _ (eval (Expr.Name _ _) (envOfC _ _ _ _ _)) _ _ _)))); (first | (k_here; (with_reducible show wpAny _ _ (eval (Expr.Name _ _) (compEnvC _ _ _ _)) _ _ _); (with_reducible rename Fr _ _ _ _ => kF); k_dflt (refine' cname kF ?k2 ?_ ?k3 ?k4; (case k3 => exact rfl); (case k4 => exact rfl); (case k2 => ((repeat' (first | (with_reducible assumption) | exact if_pos rfl | refine Eq.trans (if_neg (by decide)) ?_ | exact rfl)); done)); k_whole)) | (k_here; (with_reducible show wpAny _ _ (eval (Expr.Name _ _) (envOf _ _ _ _ _)) _ _ _); (with_reducible rename Fr _ _ _ _ => kF); k_dflt (refine' ld kF ?k2 ?_; (case k2 => ((repeat' (first | (with_reducible assumption) | exact if_pos rfl | refine Eq.trans (if_neg (by decide)) ?_ | exact rfl)); done)); k_whole)) | walk1)) | fail "no step"))
  rename Fr _ _ _ _ => F'
  refine ldC F' hX ?_ hk hl hdb
  (repeat' (first | (k_unfold; (try dsimp only)) | ((((((fail_if_success (with_reducible show wpAny _ _ (exec (Stmt.While _ _ _ _) _) _ _ _)); (fail_if_success (with_reducible show wpAny _ _ (exec (Stmt.For _ _ _ _ _) _) _ _ _)); (fail_if_success (with_reducible show wpAny _ _ (call (Value.ref _) _ _) _ _ _)); (fail_if_success (with_reducible show wpAny _ _ (eval (Expr.ListComp _ _ _ _) _) _ _ _)))); (fail_if_success (with_reducible show wpAny _ _ (subscriptTail _ _ _ _) _ _ _)); (fail_if_success (with_reducible show wpAny _ _ (eval (Expr.Name _ _) (envOfC _ _ _ _ _)) _ _ _)))); (first | (k_here; (with_reducible show wpAny _ _ (eval (Expr.Name _ _) (compEnvC _ _ _ _)) _ _ _); (with_reducible rename Fr _ _ _ _ => kF); k_dflt (refine' cname kF ?k2 ?_ ?k3 ?k4; (case k3 => exact rfl); (case k4 => exact rfl); (case k2 => ((repeat' (first | (with_reducible assumption) | exact if_pos rfl | refine Eq.trans (if_neg (by decide)) ?_ | exact rfl)); done)); k_whole)) | (k_here; (with_reducible show wpAny _ _ (eval (Expr.Name _ _) (envOf _ _ _ _ _)) _ _ _); (with_reducible rename Fr _ _ _ _ => kF); k_dflt (refine' ld kF ?k2 ?_; (case k2 => ((repeat' (first | (with_reducible assumption) | exact if_pos rfl | refine Eq.trans (if_neg (by decide)) ?_ | exact rfl)); done)); k_whole)) | walk1)) | ((((((fail_if_success (with_reducible show wpAny _ _ (exec (Stmt.While _ _ _ _) _) _ _ _)); (fail_if_success (with_reducible show wpAny _ _ (exec (Stmt.For _ _ _ _ _) _) _ _ _)); (fail_if_success (with_reducible show wpAny _ _ (call (Value.ref _) _ _) _ _ _)); (fail_if_success (with_reducible show wpAny _ _ (eval (Expr.ListComp _ _ _ _) _) _ _ _)))); (fail_if_success (with_reducible show wpAny _ _ (subscriptTail _ _ _ _) _ _ _)); (fail_if_success (with_reducible show wpAny _ _ (eval (Expr.Name _ _) (envOfC _ _ _ _ _)) _ _ _)))); dsimp only; (((((fail_if_success (with_reducible show wpAny _ _ (exec (Stmt.While _ _ _ _) _) _ _ _)); (fail_if_success (with_reducible show wpAny _ _ (exec (Stmt.For _ _ _ _ _) _) _ _ _)); (fail_if_success (with_reducible show wpAny _ _ (call (Value.ref _) _ _) _ _ _)); (fail_if_success (with_reducible show wpAny _ _ (eval (Expr.ListComp _ _ _ _) _) _ _ _)))); (fail_if_success (with_reducible show wpAny _ _ (subscriptTail _ _ _ _) _ _ _)); (fail_if_success (with_reducible show wpAny _ _ (eval (Expr.Name _ _) (envOfC _ _ _ _ _)) _ _ _)))); (first | (k_here; (with_reducible show wpAny _ _ (eval (Expr.Name _ _) (compEnvC _ _ _ _)) _ _ _); (with_reducible rename Fr _ _ _ _ => kF); k_dflt (refine' cname kF ?k2 ?_ ?k3 ?k4; (case k3 => exact rfl); (case k4 => exact rfl); (case k2 => ((repeat' (first | (with_reducible assumption) | exact if_pos rfl | refine Eq.trans (if_neg (by decide)) ?_ | exact rfl)); done)); k_whole)) | (k_here; (with_reducible show wpAny _ _ (eval (Expr.Name _ _) (envOf _ _ _ _ _)) _ _ _); (with_reducible rename Fr _ _ _ _ => kF); k_dflt (refine' ld kF ?k2 ?_; (case k2 => ((repeat' (first | (with_reducible assumption) | exact if_pos rfl | refine Eq.trans (if_neg (by decide)) ?_ | exact rfl)); done)); k_whole)) | walk1)) | fail "no step"))
  rename Fr _ _ _ _ => F'
  rename News _ _ _ _ => N'
  refine item_B (vs := [Value.ref n0, Value.ref n1]) (k := 1) (PySem.IsL.isList (n := kn) (lgh F' N' (fun p hp => by repeat (first | exact hp | refine List.Mem.tail _ ?_)) _ _ en)) (by simp) rfl ?_
  (repeat' (first | (k_unfold; (try dsimp only)) | ((((((fail_if_success (with_reducible show wpAny _ _ (exec (Stmt.While _ _ _ _) _) _ _ _)); (fail_if_success (with_reducible show wpAny _ _ (exec (Stmt.For _ _ _ _ _) _) _ _ _)); (fail_if_success (with_reducible show wpAny _ _ (call (Value.ref _) _ _) _ _ _)); (fail_if_success (with_reducible show wpAny _ _ (eval (Expr.ListComp _ _ _ _) _) _ _ _)))); (fail_if_success (with_reducible show wpAny _ _ (subscriptTail _ _ _ _) _ _ _)); (fail_if_success (with_reducible show wpAny _ _ (eval (Expr.Name _ _) (envOfC _ _ _ _ _)) _ _ _)))); (first | (k_here; (with_reducible show wpAny _ _ (eval (Expr.Name _ _) (compEnvC _ _ _ _)) _ _ _); (with_reducible rename Fr _ _ _ _ => kF); k_dflt (refine' cname kF ?k2 ?_ ?k3 ?k4; (case k3 => exact rfl); (case k4 => exact rfl); (case k2 => ((repeat' (first | (with_reducible assumption) | exact if_pos rfl | refine Eq.trans (if_neg (by decide)) ?_ | exact rfl)); done)); k_whole)) | (k_here; (with_reducible show wpAny _ _ (eval (Expr.Name _ _) (envOf _ _ _ _ _)) _ _ _); (with_reducible rename Fr _ _ _ _ => kF); k_dflt (refine' ld kF ?k2 ?_; (case k2 => ((repeat' (first | (with_reducible assumption) | exact if_pos rfl | refine Eq.trans (if_neg (by decide)) ?_ | exact rfl)); done)); k_whole)) | walk1)) | ((((((fail_if_success (with_reducible show wpAny _ _ (exec (Stmt.While _ _ _ _) _) _ _ _)); (fail_if_success (with_reducible show wpAny _ _ (exec (Stmt.For _ _ _ _ _) _) _ _ _)); (fail_if_success (with_reducible show wpAny _ _ (call (Value.ref _) _ _) _ _ _)); (fail_if_success (with_reducible show wpAny _ _ (eval (Expr.ListComp _ _ _ _) _) _ _ _)))); (fail_if_success (with_reducible show wpAny _ _ (subscriptTail _ _ _ _) _ _ _)); (fail_if_success (with_reducible show wpAny _ _ (eval (Expr.Name _ _) (envOfC _ _ _ _ _)) _ _ _)))); dsimp only; (((((fail_if_success (with_reducible show wpAny _ _ (exec (Stmt.While _ _ _ _) _) _ _ _)); (fail_if_success (with_reducible show wpAny _ _ (exec (Stmt.For _ _ _ _ _) _) _ _ _)); (fail_if_success (with_reducible show wpAny _ _ (call (Value.ref _) _ _) _ _ _)); (fail_if_success (with_reducible show wpAny _ _ (eval (Expr.ListComp _ _ _ _) _) _ _ _)))); (fail_if_success (with_reducible show wpAny _ _ (subscriptTail _ _ _ _) _ _ _)); (fail_if_success (with_reducible show wpAny _ _ (eval (Expr.Name _ _) (envOfC _ _ _ _ _)) _ _ _)))); (first | (k_here; (with_reducible show wpAny _ _ (eval (Expr.Name _ _) (compEnvC _ _ _ _)) _ _ _); (with_reducible rename Fr _ _ _ _ => kF); k_dflt (refine' cname kF ?k2 ?_ ?k3 ?k4; (case k3 => exact rfl); (case k4 => exact rfl); (case k2 => ((repeat' (first | (with_reducible assumption) | exact if_pos rfl | refine Eq.trans (if_neg (by decide)) ?_ | exact rfl)); done)); k_whole)) | (k_here; (with_reducible show wpAny _ _ (eval (Expr.Name _ _) (envOf _ _ _ _ _)) _ _ _); (with_reducible rename Fr _ _ _ _ => kF); k_dflt (refine' ld kF ?k2 ?_; (case k2 => ((repeat' (first | (with_reducible assumption) | exact if_pos rfl | refine Eq.trans (if_neg (by decide)) ?_ | exact rfl)); done)); k_whole)) | walk1)) | fail "no step"))
  rename Fr _ _ _ _ => F'
  rename News _ _ _ _ => N'
  have c' := c.of hv F' N' (by repeat (first | exact .head _ | refine List.Mem.tail _ ?_)) (by repeat (first | exact .head _ | refine List.Mem.tail _ ?_)) (fun p hp => by repeat (first | exact hp | refine List.Mem.tail _ ?_))
  obtain ⟨g', cg, lg, hall⟩ := c'.all
  have isnew : ∀ (a : Addr) (its : Array Value) (n : Nat), (a, W.listOf its n) ∈ _ → g'.get? a = some (W.listOf its n) := fun a its n hm => by
    have z := N' _ hm
    rw [hall a z.2.1 (fun q => ?_) (fun q => ?_)]
    · exact z.1
    · have z1 : _ = _ := z.1
      dsimp only at z1
      rw [q, c'.c2] at z1
      obtain ⟨v, dv⟩ := d2
      cases z1; cases dv
    · have z1 : _ = _ := z.1
      dsimp only at z1
      rw [q, c'.c1] at z1
      obtain ⟨v, dv⟩ := d1
      cases z1; cases dv
  have g1 := isnew _ _ _ (.head _)
  have g2 := isnew _ _ _ (.tail _ (.head _))
  have g3 := isnew _ _ _ (.tail _ (.tail _ (.head _)))
  refine hQ _ _ g' _ cg lg ⟨_, 0, [_, _, _, _], rfl, g1, rfl, fun i u x h1 h2 => ?_⟩
  match i, h1, h2 with
  | 0, h1, h2 =>
    cases h1; cases h2
    exact ⟨_, 0, ps0.take 3, rfl, by rw [List.map_take]; exact g3, by rw [← m0]; simp [m2], fun q hq => (rd0 q (List.mem_of_mem_take hq)).le lg⟩
  | 1, h1, h2 =>
    cases h1; cases h2
    exact R0.le lg
  | 2, h1, h2 =>
    cases h1; cases h2
    exact ⟨_, 0, ps1.take 4, rfl, by rw [List.map_take]; exact g2, by rw [← m1]; simp [m2], fun q hq => (rd1 q (List.mem_of_mem_take hq)).le lg⟩
  | 3, h1, h2 =>
    cases h1; cases h2
    exact R1.le lg
  | i + 4, h1, h2 => simp at h1
end

section
open PySem PySem.W PyProof.Rows PySem.Calls PySem.SeqAt
section
variable {prog : Program} {w : World} {A : Around} {E : Value → Shared → Prop} {s : Shared}
theorem LC.cell1 {base g : Heap} {L : Addr} {o1 o2 : Obj} {m : Str → Option Value} {env : Env} {x : Str} {v : Value} {Q : Unit → Shared → Prop} (c : LC base g L o1 o2 s.heap m) (d2 : ∃ v, o2.data = .cell v)
    (hk : env.scope.kind = .function) (hl : env.kindOf x = some .cell) (hc : env.cells.lookup x = some (L + 1))
    (h : ∀ h' o2', LC base g L o1 o2' h' m → o2'.data = .cell (some v) → Q () { s with heap := h' }) : wpAny (model prog w) A (storeName env x v) Q E s := by
  obtain ⟨v0, d2⟩ := d2
  refine wpAny_storeName_cell hk hl hc (v₀ := v0) ⟨o2, c.c2, d2⟩ fun h' ic sb => ?_
  obtain ⟨o2', e2, d2'⟩ := ic
  have kk : ∀ b o, b ≠ L + 1 → s.heap.get? b = some o → h'.get? b = some o := fun b o q e => (sb.2 b q).trans e
  refine h h' o2' ⟨⟨c.F.ns.at' fun o e => kk _ o (Ne.symm ne1) e, fun b o e => kk b o (fun q => ?_) (c.F.keep b o e), c.F.above⟩, kk _ _ ne3 c.c1, e2, c.bg, fun b o e => kk b o (fun q => ?_) (c.gh b o e), c.oL, c.og1, c.og2⟩ d2'
  · rw [q, (LC.base_none c.F).2.2] at e; cases e
  · rw [q, c.og2] at e; cases e
theorem LC.cell2 {base g : Heap} {L : Addr} {o1 o2 : Obj} {m : Str → Option Value} {env : Env} {x : Str} {v : Value} {Q : Unit → Shared → Prop} (c : LC base g L o1 o2 s.heap m) (d1 : ∃ v, o1.data = .cell v)
    (hk : env.scope.kind = .function) (hl : env.kindOf x = some .cell) (hc : env.cells.lookup x = some (L + 1 + 1))
    (h : ∀ h' o1', LC base g L o1' o2 h' m → o1'.data = .cell (some v) → Q () { s with heap := h' }) : wpAny (model prog w) A (storeName env x v) Q E s := by
  obtain ⟨v0, d1⟩ := d1
  refine wpAny_storeName_cell hk hl hc (v₀ := v0) ⟨o1, c.c1, d1⟩ fun h' ic sb => ?_
  obtain ⟨o1', e1, d1'⟩ := ic
  have kk : ∀ b o, b ≠ L + 1 + 1 → s.heap.get? b = some o → h'.get? b = some o := fun b o q e => (sb.2 b q).trans e
  refine h h' o1' ⟨⟨c.F.ns.at' fun o e => kk _ o (Ne.symm ne2) e, fun b o e => kk b o (fun q => ?_) (c.F.keep b o e), c.F.above⟩, e1, kk _ _ (Ne.symm ne3) c.c2, c.bg, fun b o e => kk b o (fun q => ?_) (c.gh b o e), c.oL, c.og1, c.og2⟩ d1'
  · rw [q, (LC.base_none c.F).2.1] at e; cases e
  · rw [q, c.og1] at e; cases e
theorem LC.ext {base g : Heap} {L : Addr} {o1 o2 : Obj} {m : Str → Option Value} {h h' : Heap} (c : LC base g L o1 o2 h m) (k : Heap.ExtBut h.objs.size h h') : LC base g L o1 o2 h' m := by
  have kk : Le h h' := fun b o e => k b o (Nat.ne_of_lt (Heap.lt_size e)) e
  exact ⟨c.F.kept kk, kk _ _ c.c1, kk _ _ c.c2, c.bg, c.gh.trans kk, c.oL, c.og1, c.og2⟩
theorem assign_cells {base g : Heap} {L : Addr} {o1 o2 : Obj} {m : Str → Option Value} {env : Env} {j k : Str} {p1 p2 pos : Pos} {x1} {t : Addr} {v1 v2 : Value} {Q : Unit → Shared → Prop}
    (hh : A.handled = none) (c : LC base g L o1 o2 s.heap m) (d1 : ∃ v, o1.data = .cell v) (d2 : ∃ v, o2.data = .cell v) (ht : IsTup s.heap t #[v1, v2])
    (hk : env.scope.kind = .function) (hj : env.kindOf j = some .cell) (hjc : env.cells.lookup j = some (L + 1)) (hkk : env.kindOf k = some .cell) (hkc : env.cells.lookup k = some (L + 1 + 1))
    (h : ∀ h' o1' o2', LC base g L o1' o2' h' m → o1'.data = .cell (some v2) → o2'.data = .cell (some v1) → Q () { s with heap := h' }) :
    wpAny (model prog w) A (assign (.Tuple [.Name j p1, .Name k p2] x1 pos) env (.ref t)) Q E s := by
  refine assign_Tuple_tuple hh ht rfl rfl fun h₁ he₁ => ?_
  show wpAny _ _ (assignInOrder [assign (.Name j p1) env, assign (.Name k p2) env] [v1, v2]) _ _ _
  refine assignInOrder_cons (wpAny_assign_Name ?_)
  refine LC.cell1 (s := { s with heap := h₁ }) (c.ext he₁) d2 hk hj hjc fun h₂ o2' c₂ e2 => ?_
  refine assignInOrder_cons (wpAny_assign_Name ?_)
  refine LC.cell2 (s := { s with heap := h₂ }) c₂ d1 hk hkk hkc fun h₃ o1' c₃ e1 => ?_
  exact assignInOrder_nil (h h₃ o1' o2' c₃ e1 e2)
end

theorem law_4 {w : World} {s : Shared} {Q : Flow → Shared → Prop} {base g : Heap} {mean : ExcName → Option Value} {mg mb : Str → Option Value} {fa L : Addr} {cv : Value} {o1 o2 : Obj} {m : Str → Option Value}
    {name qual : Str} {params : Arguments} {body : List Stmt} {scope : Scope} {dV kV doc pm cdv ct oc : Value} {an od : Option Addr} {osl : Array (Option Value)}
    (X : (cap.heap_1 w.params).In base) (T : Top hd.view_39 (looseW hd.view_39 []) mean mg mb base)
    (ho : (cap.heap_1 w.params).lookup 200 = some ⟨oc, od, .func (fnOf name qual params body scope dV kV doc pm an cdv ct), osl⟩) {vn vw : Value} {w0 w1 : WW}
    (c : LC base g L o1 o2 s.heap m) (hm : m (Str.ofString "names") = some vn) (hm2 : m (Str.ofString "ways") = some vw) (hr : RowsL g vn [w0, w1]) (hr2 : RowsL g vw [w0, w1]) (h0 : w0.length ≤ 100) (h1 : w1.length ≤ 100) (d1 : ∃ v, o1.data = .cell v) (d2 : ∃ v, o2.data = .cell v)
    (k : ∀ h' tk' g' o1' o2' vh vd, LC base g' L o1' o2' h' m → Le g g' → o1'.data = .cell (some vd) → o2'.data = .cell (some vh) → RowsL g' vh [w0.take 3, w0, w1.take 4, w1] → RowsL g' vd [w0.take 3, w0, w1.take 4, w1] → wpAny (model Challenge.rw_ny0132_01.row.prog w) (callerA.deeper (envOfC qual scope L fa cv)) (execs (body.drop 5) (envOfC qual scope L fa cv)) Q (fun _ _ => False) { s with heap := h', toks := tk' }) :
    wpAny (model Challenge.rw_ny0132_01.row.prog w) (callerA.deeper (envOfC qual scope L fa cv)) (execs (body.drop 4) (envOfC qual scope L fa cv)) Q (fun _ _ => False) s := by
  have am : Amb w base := ⟨X, mean, mg, mb, T⟩
  revert X; k_fill; intro X
  have key : ∀ o', (cap.heap_1 w.params).lookup 200 = some o' → o' = ⟨oc, od, .func (fnOf name qual params body scope dV kV doc pm an cdv ct), osl⟩ := fun o' h => Option.some.inj (h.symm.trans ho)
  obtain ⟨rfl, rfl, rfl⟩ := fn_inj (key _ (by k_is))
  clear key ho
  show wpAny _ _ _ _ _ _
  dsimp only [List.drop]
  refine wpAny_execs_cons (Assign_Tuple ?_)
  have F := c.F
  have N : News base L s.heap [] := News.nil
  (repeat' (first | (k_unfold; (try dsimp only)) | ((((((fail_if_success (with_reducible show wpAny _ _ (exec (Stmt.While _ _ _ _) _) _ _ _)); (fail_if_success (with_reducible show wpAny _ _ (exec (Stmt.For _ _ _ _ _) _) _ _ _)); (fail_if_success (with_reducible show wpAny _ _ (call (Value.ref _) _ _) _ _ _)); (fail_if_success (with_reducible show wpAny _ _ (eval (Expr.ListComp _ _ _ _) _) _ _ _)))); (fail_if_success (with_reducible show wpAny _ _ (eval (Expr.List _ _) _) _ _ _)); (fail_if_success (with_reducible show wpAny _ _ (assign (Expr.Tuple _ _ _) _ _) _ _ _)))); (first | (k_here; (with_reducible show wpAny _ _ (eval (Expr.Name _ _) (compEnvC _ _ _ _)) _ _ _); (with_reducible rename Fr _ _ _ _ => kF); k_dflt (refine' cname kF ?k2 ?_ ?k3 ?k4; (case k3 => exact rfl); (case k4 => exact rfl); (case k2 => ((repeat' (first | (with_reducible assumption) | exact if_pos rfl | refine Eq.trans (if_neg (by decide)) ?_ | exact rfl)); done)); k_whole)) | (k_here; (with_reducible show wpAny _ _ (eval (Expr.Name _ _) (envOf _ _ _ _ _)) _ _ _); (with_reducible rename Fr _ _ _ _ => kF); k_dflt (refine' ld kF ?k2 ?_; (case k2 => ((repeat' (first | (with_reducible assumption) | exact if_pos rfl | refine Eq.trans (if_neg (by decide)) ?_ | exact rfl)); done)); k_whole)) | walk1)) | ((((((fail_if_success (with_reducible show wpAny _ _ (exec (Stmt.While _ _ _ _) _) _ _ _)); (fail_if_success (with_reducible show wpAny _ _ (exec (Stmt.For _ _ _ _ _) _) _ _ _)); (fail_if_success (with_reducible show wpAny _ _ (call (Value.ref _) _ _) _ _ _)); (fail_if_success (with_reducible show wpAny _ _ (eval (Expr.ListComp _ _ _ _) _) _ _ _)))); (fail_if_success (with_reducible show wpAny _ _ (eval (Expr.List _ _) _) _ _ _)); (fail_if_success (with_reducible show wpAny _ _ (assign (Expr.Tuple _ _ _) _ _) _ _ _)))); dsimp only; (((((fail_if_success (with_reducible show wpAny _ _ (exec (Stmt.While _ _ _ _) _) _ _ _)); (fail_if_success (with_reducible show wpAny _ _ (exec (Stmt.For _ _ _ _ _) _) _ _ _)); (fail_if_success (with_reducible show wpAny _ _ (call (Value.ref _) _ _) _ _ _)); (fail_if_success (with_reducible show wpAny _ _ (eval (Expr.ListComp _ _ _ _) _) _ _ _)))); (fail_if_success (with_reducible show wpAny _ _ (eval (Expr.List _ _) _) _ _ _)); (fail_if_success (with_reducible show wpAny _ _ (assign (Expr.Tuple _ _ _) _ _) _ _ _)))); (first | (k_here; (with_reducible show wpAny _ _ (eval (Expr.Name _ _) (compEnvC _ _ _ _)) _ _ _); (with_reducible rename Fr _ _ _ _ => kF); k_dflt (refine' cname kF ?k2 ?_ ?k3 ?k4; (case k3 => exact rfl); (case k4 => exact rfl); (case k2 => ((repeat' (first | (with_reducible assumption) | exact if_pos rfl | refine Eq.trans (if_neg (by decide)) ?_ | exact rfl)); done)); k_whole)) | (k_here; (with_reducible show wpAny _ _ (eval (Expr.Name _ _) (envOf _ _ _ _ _)) _ _ _); (with_reducible rename Fr _ _ _ _ => kF); k_dflt (refine' ld kF ?k2 ?_; (case k2 => ((repeat' (first | (with_reducible assumption) | exact if_pos rfl | refine Eq.trans (if_neg (by decide)) ?_ | exact rfl)); done)); k_whole)) | walk1)) | fail "no step"))
  refine heads_c (X := Str.ofString "names") X T c hm hr h0 h1 rfl rfl (by decide) d1 d2 (fun h2 tk2 g2 vh c2 lg2 hvh => ?_)
  have F2 := c2.F
  have N2 : News base L h2 [] := News.nil
  (repeat' (first | (k_unfold; (try dsimp only)) | ((((((fail_if_success (with_reducible show wpAny _ _ (exec (Stmt.While _ _ _ _) _) _ _ _)); (fail_if_success (with_reducible show wpAny _ _ (exec (Stmt.For _ _ _ _ _) _) _ _ _)); (fail_if_success (with_reducible show wpAny _ _ (call (Value.ref _) _ _) _ _ _)); (fail_if_success (with_reducible show wpAny _ _ (eval (Expr.ListComp _ _ _ _) _) _ _ _)))); (fail_if_success (with_reducible show wpAny _ _ (eval (Expr.List _ _) _) _ _ _)); (fail_if_success (with_reducible show wpAny _ _ (assign (Expr.Tuple _ _ _) _ _) _ _ _)))); (first | (k_here; (with_reducible show wpAny _ _ (eval (Expr.Name _ _) (compEnvC _ _ _ _)) _ _ _); (with_reducible rename Fr _ _ _ _ => kF); k_dflt (refine' cname kF ?k2 ?_ ?k3 ?k4; (case k3 => exact rfl); (case k4 => exact rfl); (case k2 => ((repeat' (first | (with_reducible assumption) | exact if_pos rfl | refine Eq.trans (if_neg (by decide)) ?_ | exact rfl)); done)); k_whole)) | (k_here; (with_reducible show wpAny _ _ (eval (Expr.Name _ _) (envOf _ _ _ _ _)) _ _ _); (with_reducible rename Fr _ _ _ _ => kF); k_dflt (refine' ld kF ?k2 ?_; (case k2 => ((repeat' (first | (with_reducible assumption) | exact if_pos rfl | refine Eq.trans (if_neg (by decide)) ?_ | exact rfl)); done)); k_whole)) | walk1)) | ((((((fail_if_success (with_reducible show wpAny _ _ (exec (Stmt.While _ _ _ _) _) _ _ _)); (fail_if_success (with_reducible show wpAny _ _ (exec (Stmt.For _ _ _ _ _) _) _ _ _)); (fail_if_success (with_reducible show wpAny _ _ (call (Value.ref _) _ _) _ _ _)); (fail_if_success (with_reducible show wpAny _ _ (eval (Expr.ListComp _ _ _ _) _) _ _ _)))); (fail_if_success (with_reducible show wpAny _ _ (eval (Expr.List _ _) _) _ _ _)); (fail_if_success (with_reducible show wpAny _ _ (assign (Expr.Tuple _ _ _) _ _) _ _ _)))); dsimp only; (((((fail_if_success (with_reducible show wpAny _ _ (exec (Stmt.While _ _ _ _) _) _ _ _)); (fail_if_success (with_reducible show wpAny _ _ (exec (Stmt.For _ _ _ _ _) _) _ _ _)); (fail_if_success (with_reducible show wpAny _ _ (call (Value.ref _) _ _) _ _ _)); (fail_if_success (with_reducible show wpAny _ _ (eval (Expr.ListComp _ _ _ _) _) _ _ _)))); (fail_if_success (with_reducible show wpAny _ _ (eval (Expr.List _ _) _) _ _ _)); (fail_if_success (with_reducible show wpAny _ _ (assign (Expr.Tuple _ _ _) _ _) _ _ _)))); (first | (k_here; (with_reducible show wpAny _ _ (eval (Expr.Name _ _) (compEnvC _ _ _ _)) _ _ _); (with_reducible rename Fr _ _ _ _ => kF); k_dflt (refine' cname kF ?k2 ?_ ?k3 ?k4; (case k3 => exact rfl); (case k4 => exact rfl); (case k2 => ((repeat' (first | (with_reducible assumption) | exact if_pos rfl | refine Eq.trans (if_neg (by decide)) ?_ | exact rfl)); done)); k_whole)) | (k_here; (with_reducible show wpAny _ _ (eval (Expr.Name _ _) (envOf _ _ _ _ _)) _ _ _); (with_reducible rename Fr _ _ _ _ => kF); k_dflt (refine' ld kF ?k2 ?_; (case k2 => ((repeat' (first | (with_reducible assumption) | exact if_pos rfl | refine Eq.trans (if_neg (by decide)) ?_ | exact rfl)); done)); k_whole)) | walk1)) | fail "no step"))
  refine heads_c (X := Str.ofString "ways") X T c2 hm2 (SeqOf.le RowL.mono _ _ _ _ lg2 hr2) h0 h1 rfl rfl (by decide) d1 d2 (fun h3 tk3 g3 vd c3 lg3 hvd => ?_)
  obtain ⟨rest, N3, hv3, _⟩ := c3.ledger
  have F3 := c3.F
  clear F F2 N N2
  (repeat' (first | (k_unfold; (try dsimp only)) | ((((((fail_if_success (with_reducible show wpAny _ _ (exec (Stmt.While _ _ _ _) _) _ _ _)); (fail_if_success (with_reducible show wpAny _ _ (exec (Stmt.For _ _ _ _ _) _) _ _ _)); (fail_if_success (with_reducible show wpAny _ _ (call (Value.ref _) _ _) _ _ _)); (fail_if_success (with_reducible show wpAny _ _ (eval (Expr.ListComp _ _ _ _) _) _ _ _)))); (fail_if_success (with_reducible show wpAny _ _ (eval (Expr.List _ _) _) _ _ _)); (fail_if_success (with_reducible show wpAny _ _ (assign (Expr.Tuple _ _ _) _ _) _ _ _)))); (first | (k_here; (with_reducible show wpAny _ _ (eval (Expr.Name _ _) (compEnvC _ _ _ _)) _ _ _); (with_reducible rename Fr _ _ _ _ => kF); k_dflt (refine' cname kF ?k2 ?_ ?k3 ?k4; (case k3 => exact rfl); (case k4 => exact rfl); (case k2 => ((repeat' (first | (with_reducible assumption) | exact if_pos rfl | refine Eq.trans (if_neg (by decide)) ?_ | exact rfl)); done)); k_whole)) | (k_here; (with_reducible show wpAny _ _ (eval (Expr.Name _ _) (envOf _ _ _ _ _)) _ _ _); (with_reducible rename Fr _ _ _ _ => kF); k_dflt (refine' ld kF ?k2 ?_; (case k2 => ((repeat' (first | (with_reducible assumption) | exact if_pos rfl | refine Eq.trans (if_neg (by decide)) ?_ | exact rfl)); done)); k_whole)) | walk1)) | ((((((fail_if_success (with_reducible show wpAny _ _ (exec (Stmt.While _ _ _ _) _) _ _ _)); (fail_if_success (with_reducible show wpAny _ _ (exec (Stmt.For _ _ _ _ _) _) _ _ _)); (fail_if_success (with_reducible show wpAny _ _ (call (Value.ref _) _ _) _ _ _)); (fail_if_success (with_reducible show wpAny _ _ (eval (Expr.ListComp _ _ _ _) _) _ _ _)))); (fail_if_success (with_reducible show wpAny _ _ (eval (Expr.List _ _) _) _ _ _)); (fail_if_success (with_reducible show wpAny _ _ (assign (Expr.Tuple _ _ _) _ _) _ _ _)))); dsimp only; (((((fail_if_success (with_reducible show wpAny _ _ (exec (Stmt.While _ _ _ _) _) _ _ _)); (fail_if_success (with_reducible show wpAny _ _ (exec (Stmt.For _ _ _ _ _) _) _ _ _)); (fail_if_success (with_reducible show wpAny _ _ (call (Value.ref _) _ _) _ _ _)); (fail_if_success (with_reducible show wpAny _ _ (eval (Expr.ListComp _ _ _ _) _) _ _ _)))); (fail_if_success (with_reducible show wpAny _ _ (eval (Expr.List _ _) _) _ _ _)); (fail_if_success (with_reducible show wpAny _ _ (assign (Expr.Tuple _ _ _) _ _) _ _ _)))); (first | (k_here; (with_reducible show wpAny _ _ (eval (Expr.Name _ _) (compEnvC _ _ _ _)) _ _ _); (with_reducible rename Fr _ _ _ _ => kF); k_dflt (refine' cname kF ?k2 ?_ ?k3 ?k4; (case k3 => exact rfl); (case k4 => exact rfl); (case k2 => ((repeat' (first | (with_reducible assumption) | exact if_pos rfl | refine Eq.trans (if_neg (by decide)) ?_ | exact rfl)); done)); k_whole)) | (k_here; (with_reducible show wpAny _ _ (eval (Expr.Name _ _) (envOf _ _ _ _ _)) _ _ _); (with_reducible rename Fr _ _ _ _ => kF); k_dflt (refine' ld kF ?k2 ?_; (case k2 => ((repeat' (first | (with_reducible assumption) | exact if_pos rfl | refine Eq.trans (if_neg (by decide)) ?_ | exact rfl)); done)); k_whole)) | walk1)) | fail "no step"))
  rename Fr _ _ _ _ => F'
  rename News _ _ _ _ => N'
  have c4 := c3.of hv3 F' N' (.tail _ (.head _)) (.tail _ (.tail _ (.head _))) (fun p hp => .tail _ (.tail _ (.tail _ hp)))
  refine assign_cells rfl c4 d1 d2 ⟨_, (N' _ (.head _)).1, rfl, _, rfl⟩ rfl rfl rfl rfl rfl (fun h5 o1' o2' c5 e1 e2 => ?_)
  exact k _ _ _ _ _ _ _ c5 (lg2.trans lg3) e1 e2 (SeqOf.le RowL.mono _ _ _ _ lg3 hvh) hvd
end

section
open PySem PySem.W PyProof.Rows PySem.Calls PySem.SeqAt


theorem ldCell {M : Model} {A : Around} {E : Value → Shared → Prop} {s : Shared} {env : Env} {x : Str} {pos : Pos} {v : Value} {cc : Addr} {o : Obj} {Q : Value → Shared → Prop} (hk : env.scope.kind = .function) (hl : env.kindOf x = some .cell) (hc : env.cells.lookup x = some cc) (e : s.heap.get? cc = some o) (d : o.data = .cell (some v)) (h : Q v s) (hd : (x == ("__debug__" : Str)) = false := by decide) :
    wpAny M A (eval (.Name x pos) env) Q E s := wpAny_Name (wpAny_loadName_cell hk hl hc ⟨o, e, d⟩ h) hd

theorem popAll_sub : ∀ (k : Nat) (hs : List PP), ∀ q ∈ popAll k hs, q ∈ hs
  | 0, _, q, h => by simp [popAll] at h
  | k + 1, hs, q, h => by
    rw [popAll] at h
    cases hz : hs.getLast? with
    | none => rw [hz] at h; simp at h
    | some z =>
      rw [hz] at h
      obtain ⟨ys, rfl⟩ := List.getLast?_eq_some_iff.mp hz
      rw [List.dropLast_concat] at h
      rcases List.mem_cons.mp h with h | h
      · exact popP_mem (.inl h)
      · exact popP_mem (.inr (popAll_sub k _ q h))
theorem foldl_push_sub : ∀ (ps acc : List PP), ∀ q ∈ ps.foldl pushP acc, q ∈ acc ∨ q ∈ ps
  | [], _, _, h => .inl h
  | p :: ps, acc, q, h => by
    rcases foldl_push_sub ps (pushP acc p) q h with z | z
    · rcases pushP_mem z with z | z
      · exact .inl z
      · rw [z]; exact .inr (.head _)
    · exact .inr (.tail _ z)
theorem offP_sub (ps : List PP) : ∀ q ∈ offP ps, q ∈ ps := fun q h => by
  rcases foldl_push_sub ps [] q (popAll_sub _ _ q h) with z | z
  · cases z
  · exact z
theorem offP_len (ps : List PP) : ∀ (k : Nat) (hs : List PP), (popAll k hs).length ≤ k
  | 0, _ => by simp [popAll]
  | k + 1, hs => by
    rw [popAll]
    split
    · simp only [List.length_cons]; have := offP_len ps k (popP hs.dropLast ‹_›).2; omega
    · simp

theorem law_5 {w : World} {s : Shared} {Q : Flow → Shared → Prop} {base g : Heap} {mean : ExcName → Option Value} {mg mb : Str → Option Value} {fa L : Addr} {cv : Value} {o1 o2 : Obj} {m : Str → Option Value}
    {name qual : Str} {params : Arguments} {body : List Stmt} {scope : Scope} {dV kV doc pm cdv ct oc : Value} {an od : Option Addr} {osl : Array (Option Value)}
    (X : (cap.heap_1 w.params).In base) (T : Top hd.view_39 (looseW hd.view_39 []) mean mg mb base)
    (ho : (cap.heap_1 w.params).lookup 200 = some ⟨oc, od, .func (fnOf name qual params body scope dV kV doc pm an cdv ct), osl⟩) {vh vd : Value} {wss : List WW}
    (c : LC base g L o1 o2 s.heap m) (d1 : o1.data = .cell (some vd)) (d2 : o2.data = .cell (some vh)) (hr : RowsL g vh wss) (hr2 : RowsL g vd wss) (hn : wss.length ≤ 100) (hw : ∀ ws ∈ wss, 2 ≤ ws.length ∧ ws.length < 64) (hlaw : ∀ ws ∈ wss, dedW (offW ws) = dedW (sortW ws))
    (k : ∀ h' tk' g', LC base g' L o1 o2 h' m → Le g g' → wpAny (model Challenge.rw_ny0132_01.row.prog w) (callerA.deeper (envOfC qual scope L fa cv)) (execs (body.drop 6) (envOfC qual scope L fa cv)) Q (fun _ _ => False) { s with heap := h', toks := tk' }) :
    wpAny (model Challenge.rw_ny0132_01.row.prog w) (callerA.deeper (envOfC qual scope L fa cv)) (execs (body.drop 5) (envOfC qual scope L fa cv)) Q (fun _ _ => False) s := by
  have am : Amb w base := ⟨X, mean, mg, mb, T⟩
  revert X; k_fill; intro X
  have key : ∀ o', (cap.heap_1 w.params).lookup 200 = some o' → o' = ⟨oc, od, .func (fnOf name qual params body scope dV kV doc pm an cdv ct), osl⟩ := fun o' h => Option.some.inj (h.symm.trans ho)
  obtain ⟨rfl, rfl, rfl⟩ := fn_inj (key _ (by k_is))
  clear key ho
  show wpAny _ _ _ _ _ _
  dsimp only [List.drop]
  have F := c.F
  have N : News base L s.heap [] := News.nil
  refine wpAny_execs_cons ?_
  (repeat' (first | (k_unfold; (try dsimp only)) | ((((((fail_if_success (with_reducible show wpAny _ _ (exec (Stmt.While _ _ _ _) _) _ _ _)); (fail_if_success (with_reducible show wpAny _ _ (exec (Stmt.For _ _ _ _ _) _) _ _ _)); (fail_if_success (with_reducible show wpAny _ _ (call (Value.ref _) _ _) _ _ _)); (fail_if_success (with_reducible show wpAny _ _ (eval (Expr.ListComp _ _ _ _) _) _ _ _)))); (fail_if_success (with_reducible show wpAny _ _ (call (Value.builtin "sorted") _ _) _ _ _)); (fail_if_success (with_reducible show wpAny _ _ (compareOp _ _ _) _ _ _)); (fail_if_success (with_reducible show wpAny _ _ (execs (Stmt.If _ _ _ _ :: _) _) _ _ _)); (fail_if_success (with_reducible show wpAny _ _ (execs (Stmt.Assign _ _ _ :: _) _) _ _ _)))); (first | (k_here; (with_reducible show wpAny _ _ (eval (Expr.Name _ _) (compEnvC _ _ _ _)) _ _ _); (with_reducible rename Fr _ _ _ _ => kF); k_dflt (refine' cname kF ?k2 ?_ ?k3 ?k4; (case k3 => exact rfl); (case k4 => exact rfl); (case k2 => ((repeat' (first | (with_reducible assumption) | exact if_pos rfl | refine Eq.trans (if_neg (by decide)) ?_ | exact rfl)); done)); k_whole)) | (k_here; (with_reducible show wpAny _ _ (eval (Expr.Name _ _) (envOf _ _ _ _ _)) _ _ _); (with_reducible rename Fr _ _ _ _ => kF); k_dflt (refine' ld kF ?k2 ?_; (case k2 => ((repeat' (first | (with_reducible assumption) | exact if_pos rfl | refine Eq.trans (if_neg (by decide)) ?_ | exact rfl)); done)); k_whole)) | walk1)) | ((((((fail_if_success (with_reducible show wpAny _ _ (exec (Stmt.While _ _ _ _) _) _ _ _)); (fail_if_success (with_reducible show wpAny _ _ (exec (Stmt.For _ _ _ _ _) _) _ _ _)); (fail_if_success (with_reducible show wpAny _ _ (call (Value.ref _) _ _) _ _ _)); (fail_if_success (with_reducible show wpAny _ _ (eval (Expr.ListComp _ _ _ _) _) _ _ _)))); (fail_if_success (with_reducible show wpAny _ _ (call (Value.builtin "sorted") _ _) _ _ _)); (fail_if_success (with_reducible show wpAny _ _ (compareOp _ _ _) _ _ _)); (fail_if_success (with_reducible show wpAny _ _ (execs (Stmt.If _ _ _ _ :: _) _) _ _ _)); (fail_if_success (with_reducible show wpAny _ _ (execs (Stmt.Assign _ _ _ :: _) _) _ _ _)))); dsimp only; (((((fail_if_success (with_reducible show wpAny _ _ (exec (Stmt.While _ _ _ _) _) _ _ _)); (fail_if_success (with_reducible show wpAny _ _ (exec (Stmt.For _ _ _ _ _) _) _ _ _)); (fail_if_success (with_reducible show wpAny _ _ (call (Value.ref _) _ _) _ _ _)); (fail_if_success (with_reducible show wpAny _ _ (eval (Expr.ListComp _ _ _ _) _) _ _ _)))); (fail_if_success (with_reducible show wpAny _ _ (call (Value.builtin "sorted") _ _) _ _ _)); (fail_if_success (with_reducible show wpAny _ _ (compareOp _ _ _) _ _ _)); (fail_if_success (with_reducible show wpAny _ _ (execs (Stmt.If _ _ _ _ :: _) _) _ _ _)); (fail_if_success (with_reducible show wpAny _ _ (execs (Stmt.Assign _ _ _ :: _) _) _ _ _)))); (first | (k_here; (with_reducible show wpAny _ _ (eval (Expr.Name _ _) (compEnvC _ _ _ _)) _ _ _); (with_reducible rename Fr _ _ _ _ => kF); k_dflt (refine' cname kF ?k2 ?_ ?k3 ?k4; (case k3 => exact rfl); (case k4 => exact rfl); (case k2 => ((repeat' (first | (with_reducible assumption) | exact if_pos rfl | refine Eq.trans (if_neg (by decide)) ?_ | exact rfl)); done)); k_whole)) | (k_here; (with_reducible show wpAny _ _ (eval (Expr.Name _ _) (envOf _ _ _ _ _)) _ _ _); (with_reducible rename Fr _ _ _ _ => kF); k_dflt (refine' ld kF ?k2 ?_; (case k2 => ((repeat' (first | (with_reducible assumption) | exact if_pos rfl | refine Eq.trans (if_neg (by decide)) ?_ | exact rfl)); done)); k_whole)) | walk1)) | fail "no step"))
  clear F N
  refine comp_seq (R1 := RowL) (R2 := RowL) (g := g) (fun ws => dedW (offW ws)) RowL.mono rfl rfl (by decide) rfl (by decide) rfl (fun Q' hQ' => ldCell rfl rfl rfl c.c2 d2 hQ') hr (by rw [sizeLine_eq]; omega) c.gh (fun v ws h tk C m₁ g₁ hv hmem gr q1 q2 q3 ns₁ hm₁ => ?_) (fun D h tk g₂ gr₂ hD => ?_)
  · clear k
    obtain ⟨a, n, ps, rfl, ea, rfl, rds⟩ := hv
    have hlen := hw _ hmem
    have hlen2 : (m2 ps).length = ps.length := by simp [m2]
    have hlen3 := offP_len ps ps.length (ps.foldl pushP [])
    have F : Fr base C h m₁ := ⟨ns₁, fun b o e => gr.heap b o (c.F.keep b o e), Nat.le_trans c.F.above (Nat.le_trans (Nat.le_of_lt c.F.ns.lt) q2)⟩
    have N : News base C h [] := News.nil
    (repeat' (first | (k_unfold; (try dsimp only)) | ((((((fail_if_success (with_reducible show wpAny _ _ (exec (Stmt.While _ _ _ _) _) _ _ _)); (fail_if_success (with_reducible show wpAny _ _ (exec (Stmt.For _ _ _ _ _) _) _ _ _)); (fail_if_success (with_reducible show wpAny _ _ (call (Value.ref _) _ _) _ _ _)); (fail_if_success (with_reducible show wpAny _ _ (eval (Expr.ListComp _ _ _ _) _) _ _ _)))); (fail_if_success (with_reducible show wpAny _ _ (call (Value.builtin "sorted") _ _) _ _ _)); (fail_if_success (with_reducible show wpAny _ _ (compareOp _ _ _) _ _ _)); (fail_if_success (with_reducible show wpAny _ _ (execs (Stmt.If _ _ _ _ :: _) _) _ _ _)); (fail_if_success (with_reducible show wpAny _ _ (execs (Stmt.Assign _ _ _ :: _) _) _ _ _)))); (first | (k_here; (with_reducible show wpAny _ _ (eval (Expr.Name _ _) (compEnvC _ _ _ _)) _ _ _); (with_reducible rename Fr _ _ _ _ => kF); k_dflt (refine' cname kF ?k2 ?_ ?k3 ?k4; (case k3 => exact rfl); (case k4 => exact rfl); (case k2 => ((repeat' (first | (with_reducible assumption) | exact if_pos rfl | refine Eq.trans (if_neg (by decide)) ?_ | exact rfl)); done)); k_whole)) | (k_here; (with_reducible show wpAny _ _ (eval (Expr.Name _ _) (envOf _ _ _ _ _)) _ _ _); (with_reducible rename Fr _ _ _ _ => kF); k_dflt (refine' ld kF ?k2 ?_; (case k2 => ((repeat' (first | (with_reducible assumption) | exact if_pos rfl | refine Eq.trans (if_neg (by decide)) ?_ | exact rfl)); done)); k_whole)) | walk1)) | ((((((fail_if_success (with_reducible show wpAny _ _ (exec (Stmt.While _ _ _ _) _) _ _ _)); (fail_if_success (with_reducible show wpAny _ _ (exec (Stmt.For _ _ _ _ _) _) _ _ _)); (fail_if_success (with_reducible show wpAny _ _ (call (Value.ref _) _ _) _ _ _)); (fail_if_success (with_reducible show wpAny _ _ (eval (Expr.ListComp _ _ _ _) _) _ _ _)))); (fail_if_success (with_reducible show wpAny _ _ (call (Value.builtin "sorted") _ _) _ _ _)); (fail_if_success (with_reducible show wpAny _ _ (compareOp _ _ _) _ _ _)); (fail_if_success (with_reducible show wpAny _ _ (execs (Stmt.If _ _ _ _ :: _) _) _ _ _)); (fail_if_success (with_reducible show wpAny _ _ (execs (Stmt.Assign _ _ _ :: _) _) _ _ _)))); dsimp only; (((((fail_if_success (with_reducible show wpAny _ _ (exec (Stmt.While _ _ _ _) _) _ _ _)); (fail_if_success (with_reducible show wpAny _ _ (exec (Stmt.For _ _ _ _ _) _) _ _ _)); (fail_if_success (with_reducible show wpAny _ _ (call (Value.ref _) _ _) _ _ _)); (fail_if_success (with_reducible show wpAny _ _ (eval (Expr.ListComp _ _ _ _) _) _ _ _)))); (fail_if_success (with_reducible show wpAny _ _ (call (Value.builtin "sorted") _ _) _ _ _)); (fail_if_success (with_reducible show wpAny _ _ (compareOp _ _ _) _ _ _)); (fail_if_success (with_reducible show wpAny _ _ (execs (Stmt.If _ _ _ _ :: _) _) _ _ _)); (fail_if_success (with_reducible show wpAny _ _ (execs (Stmt.Assign _ _ _ :: _) _) _ _ _)))); (first | (k_here; (with_reducible show wpAny _ _ (eval (Expr.Name _ _) (compEnvC _ _ _ _)) _ _ _); (with_reducible rename Fr _ _ _ _ => kF); k_dflt (refine' cname kF ?k2 ?_ ?k3 ?k4; (case k3 => exact rfl); (case k4 => exact rfl); (case k2 => ((repeat' (first | (with_reducible assumption) | exact if_pos rfl | refine Eq.trans (if_neg (by decide)) ?_ | exact rfl)); done)); k_whole)) | (k_here; (with_reducible show wpAny _ _ (eval (Expr.Name _ _) (envOf _ _ _ _ _)) _ _ _); (with_reducible rename Fr _ _ _ _ => kF); k_dflt (refine' ld kF ?k2 ?_; (case k2 => ((repeat' (first | (with_reducible assumption) | exact if_pos rfl | refine Eq.trans (if_neg (by decide)) ?_ | exact rfl)); done)); k_whole)) | walk1)) | fail "no step"))
    rename Fr _ _ _ _ => F2
    have lgh : Le g h := gr.view.trans gr.le
    refine off_c (am.le c.bg) lgh (room_law _) (PySem.IsL.isList (n := n) ea) rds (by omega) (fun h3 tk3 r n3 k3 r3 e3 => ?_)
    have F3 := F2.kept k3
    have N3 : News base C h3 [] := News.nil
    obtain ⟨g3, gr3, hg3⟩ := Grow.add lgh k3 [r] (by simpa using r3)
    clear F2 N
    (repeat' (first | (k_unfold; (try dsimp only)) | ((((((fail_if_success (with_reducible show wpAny _ _ (exec (Stmt.While _ _ _ _) _) _ _ _)); (fail_if_success (with_reducible show wpAny _ _ (exec (Stmt.For _ _ _ _ _) _) _ _ _)); (fail_if_success (with_reducible show wpAny _ _ (call (Value.ref _) _ _) _ _ _)); (fail_if_success (with_reducible show wpAny _ _ (eval (Expr.ListComp _ _ _ _) _) _ _ _)))); (fail_if_success (with_reducible show wpAny _ _ (call (Value.builtin "sorted") _ _) _ _ _)); (fail_if_success (with_reducible show wpAny _ _ (compareOp _ _ _) _ _ _)); (fail_if_success (with_reducible show wpAny _ _ (execs (Stmt.If _ _ _ _ :: _) _) _ _ _)); (fail_if_success (with_reducible show wpAny _ _ (execs (Stmt.Assign _ _ _ :: _) _) _ _ _)))); (first | (k_here; (with_reducible show wpAny _ _ (eval (Expr.Name _ _) (compEnvC _ _ _ _)) _ _ _); (with_reducible rename Fr _ _ _ _ => kF); k_dflt (refine' cname kF ?k2 ?_ ?k3 ?k4; (case k3 => exact rfl); (case k4 => exact rfl); (case k2 => ((repeat' (first | (with_reducible assumption) | exact if_pos rfl | refine Eq.trans (if_neg (by decide)) ?_ | exact rfl)); done)); k_whole)) | (k_here; (with_reducible show wpAny _ _ (eval (Expr.Name _ _) (envOf _ _ _ _ _)) _ _ _); (with_reducible rename Fr _ _ _ _ => kF); k_dflt (refine' ld kF ?k2 ?_; (case k2 => ((repeat' (first | (with_reducible assumption) | exact if_pos rfl | refine Eq.trans (if_neg (by decide)) ?_ | exact rfl)); done)); k_whole)) | walk1)) | ((((((fail_if_success (with_reducible show wpAny _ _ (exec (Stmt.While _ _ _ _) _) _ _ _)); (fail_if_success (with_reducible show wpAny _ _ (exec (Stmt.For _ _ _ _ _) _) _ _ _)); (fail_if_success (with_reducible show wpAny _ _ (call (Value.ref _) _ _) _ _ _)); (fail_if_success (with_reducible show wpAny _ _ (eval (Expr.ListComp _ _ _ _) _) _ _ _)))); (fail_if_success (with_reducible show wpAny _ _ (call (Value.builtin "sorted") _ _) _ _ _)); (fail_if_success (with_reducible show wpAny _ _ (compareOp _ _ _) _ _ _)); (fail_if_success (with_reducible show wpAny _ _ (execs (Stmt.If _ _ _ _ :: _) _) _ _ _)); (fail_if_success (with_reducible show wpAny _ _ (execs (Stmt.Assign _ _ _ :: _) _) _ _ _)))); dsimp only; (((((fail_if_success (with_reducible show wpAny _ _ (exec (Stmt.While _ _ _ _) _) _ _ _)); (fail_if_success (with_reducible show wpAny _ _ (exec (Stmt.For _ _ _ _ _) _) _ _ _)); (fail_if_success (with_reducible show wpAny _ _ (call (Value.ref _) _ _) _ _ _)); (fail_if_success (with_reducible show wpAny _ _ (eval (Expr.ListComp _ _ _ _) _) _ _ _)))); (fail_if_success (with_reducible show wpAny _ _ (call (Value.builtin "sorted") _ _) _ _ _)); (fail_if_success (with_reducible show wpAny _ _ (compareOp _ _ _) _ _ _)); (fail_if_success (with_reducible show wpAny _ _ (execs (Stmt.If _ _ _ _ :: _) _) _ _ _)); (fail_if_success (with_reducible show wpAny _ _ (execs (Stmt.Assign _ _ _ :: _) _) _ _ _)))); (first | (k_here; (with_reducible show wpAny _ _ (eval (Expr.Name _ _) (compEnvC _ _ _ _)) _ _ _); (with_reducible rename Fr _ _ _ _ => kF); k_dflt (refine' cname kF ?k2 ?_ ?k3 ?k4; (case k3 => exact rfl); (case k4 => exact rfl); (case k2 => ((repeat' (first | (with_reducible assumption) | exact if_pos rfl | refine Eq.trans (if_neg (by decide)) ?_ | exact rfl)); done)); k_whole)) | (k_here; (with_reducible show wpAny _ _ (eval (Expr.Name _ _) (envOf _ _ _ _ _)) _ _ _); (with_reducible rename Fr _ _ _ _ => kF); k_dflt (refine' ld kF ?k2 ?_; (case k2 => ((repeat' (first | (with_reducible assumption) | exact if_pos rfl | refine Eq.trans (if_neg (by decide)) ?_ | exact rfl)); done)); k_whole)) | walk1)) | fail "no step"))
    refine dedup_c ((am.le c.bg).le gr3.view) gr3.le (room_law _) (PySem.IsL.isList (n := n3) ((hg3 r (by simp)).trans e3)) (fun q hq => (rds q (offP_sub ps q hq)).le gr3.view) (by unfold offP; omega) (fun h4 tk4 r2 n4 k4 r4 e4 => ?_)
    refine eend_add gr.le q3 (fun b o _ e => k3 b o e) (ns₁.at' fun o e => k3 _ o e) k4 r4 e4 (fun g5 l5 l5h e5 => ?_)
    exact ⟨r2, n4, dedP (offP ps), rfl, e5, by rw [offW_eq, dedW_eq], fun q hq => (rds q (offP_sub ps q (dedP_pre' _ q hq))).le (gr.view.trans l5)⟩
  · have c2 := c.grow gr₂
    have F := c2.F
    have N : News base L h [] := News.nil
    (repeat' (first | (k_unfold; (try dsimp only)) | ((((((fail_if_success (with_reducible show wpAny _ _ (exec (Stmt.While _ _ _ _) _) _ _ _)); (fail_if_success (with_reducible show wpAny _ _ (exec (Stmt.For _ _ _ _ _) _) _ _ _)); (fail_if_success (with_reducible show wpAny _ _ (call (Value.ref _) _ _) _ _ _)); (fail_if_success (with_reducible show wpAny _ _ (eval (Expr.ListComp _ _ _ _) _) _ _ _)))); (fail_if_success (with_reducible show wpAny _ _ (call (Value.builtin "sorted") _ _) _ _ _)); (fail_if_success (with_reducible show wpAny _ _ (compareOp _ _ _) _ _ _)); (fail_if_success (with_reducible show wpAny _ _ (execs (Stmt.If _ _ _ _ :: _) _) _ _ _)); (fail_if_success (with_reducible show wpAny _ _ (execs (Stmt.Assign _ _ _ :: _) _) _ _ _)))); (first | (k_here; (with_reducible show wpAny _ _ (eval (Expr.Name _ _) (compEnvC _ _ _ _)) _ _ _); (with_reducible rename Fr _ _ _ _ => kF); k_dflt (refine' cname kF ?k2 ?_ ?k3 ?k4; (case k3 => exact rfl); (case k4 => exact rfl); (case k2 => ((repeat' (first | (with_reducible assumption) | exact if_pos rfl | refine Eq.trans (if_neg (by decide)) ?_ | exact rfl)); done)); k_whole)) | (k_here; (with_reducible show wpAny _ _ (eval (Expr.Name _ _) (envOf _ _ _ _ _)) _ _ _); (with_reducible rename Fr _ _ _ _ => kF); k_dflt (refine' ld kF ?k2 ?_; (case k2 => ((repeat' (first | (with_reducible assumption) | exact if_pos rfl | refine Eq.trans (if_neg (by decide)) ?_ | exact rfl)); done)); k_whole)) | walk1)) | ((((((fail_if_success (with_reducible show wpAny _ _ (exec (Stmt.While _ _ _ _) _) _ _ _)); (fail_if_success (with_reducible show wpAny _ _ (exec (Stmt.For _ _ _ _ _) _) _ _ _)); (fail_if_success (with_reducible show wpAny _ _ (call (Value.ref _) _ _) _ _ _)); (fail_if_success (with_reducible show wpAny _ _ (eval (Expr.ListComp _ _ _ _) _) _ _ _)))); (fail_if_success (with_reducible show wpAny _ _ (call (Value.builtin "sorted") _ _) _ _ _)); (fail_if_success (with_reducible show wpAny _ _ (compareOp _ _ _) _ _ _)); (fail_if_success (with_reducible show wpAny _ _ (execs (Stmt.If _ _ _ _ :: _) _) _ _ _)); (fail_if_success (with_reducible show wpAny _ _ (execs (Stmt.Assign _ _ _ :: _) _) _ _ _)))); dsimp only; (((((fail_if_success (with_reducible show wpAny _ _ (exec (Stmt.While _ _ _ _) _) _ _ _)); (fail_if_success (with_reducible show wpAny _ _ (exec (Stmt.For _ _ _ _ _) _) _ _ _)); (fail_if_success (with_reducible show wpAny _ _ (call (Value.ref _) _ _) _ _ _)); (fail_if_success (with_reducible show wpAny _ _ (eval (Expr.ListComp _ _ _ _) _) _ _ _)))); (fail_if_success (with_reducible show wpAny _ _ (call (Value.builtin "sorted") _ _) _ _ _)); (fail_if_success (with_reducible show wpAny _ _ (compareOp _ _ _) _ _ _)); (fail_if_success (with_reducible show wpAny _ _ (execs (Stmt.If _ _ _ _ :: _) _) _ _ _)); (fail_if_success (with_reducible show wpAny _ _ (execs (Stmt.Assign _ _ _ :: _) _) _ _ _)))); (first | (k_here; (with_reducible show wpAny _ _ (eval (Expr.Name _ _) (compEnvC _ _ _ _)) _ _ _); (with_reducible rename Fr _ _ _ _ => kF); k_dflt (refine' cname kF ?k2 ?_ ?k3 ?k4; (case k3 => exact rfl); (case k4 => exact rfl); (case k2 => ((repeat' (first | (with_reducible assumption) | exact if_pos rfl | refine Eq.trans (if_neg (by decide)) ?_ | exact rfl)); done)); k_whole)) | (k_here; (with_reducible show wpAny _ _ (eval (Expr.Name _ _) (envOf _ _ _ _ _)) _ _ _); (with_reducible rename Fr _ _ _ _ => kF); k_dflt (refine' ld kF ?k2 ?_; (case k2 => ((repeat' (first | (with_reducible assumption) | exact if_pos rfl | refine Eq.trans (if_neg (by decide)) ?_ | exact rfl)); done)); k_whole)) | walk1)) | fail "no step"))
    clear F N
    refine comp_seq (R1 := RowL) (R2 := RowL) (g := g₂) (fun ws => dedW (sortW ws)) RowL.mono rfl rfl (by decide) rfl (by decide) rfl (fun Q' hQ' => ldCell rfl rfl rfl c2.c1 d1 hQ') (SeqOf.le RowL.mono _ _ _ _ gr₂.view hr2) (by rw [sizeLine_eq]; omega) c2.gh (fun v ws h3 tk3 C m₁ g₁ hv hmem gr q1 q2 q3 ns₁ hm₁ => ?_) (fun D2 h3 tk3 g₃ gr₃ hD2 => ?_)
    · clear k
      obtain ⟨a, n, ps, rfl, ea, rfl, rds⟩ := hv
      have hlen := hw _ hmem
      have hlen2 : (m2 ps).length = ps.length := by simp [m2]
      have lB : Le g₂ (sub h g₂) := le_sub c2.gh
      have amB := (am.le c2.bg).le lB
      have FB : Fr (sub h g₂) C h3 m₁ := ⟨ns₁, fun b o e => gr.heap b o (sub_le b o e), by rw [sub_size]; exact q2⟩
      generalize sub h g₂ = B at *
      obtain ⟨XB, meanB, mgB, mbB, TB⟩ := id amB
      obtain ⟨rest, NR, hall⟩ := ledger_all FB
      have hkk : ∀ h' m' all, Fr B C h' m' → News B C h' all → (∀ p ∈ rest, p ∈ all) → ∀ b o, b ≠ C → h3.get? b = some o → h'.get? b = some o := fun _ _ _ F' N' sub => le_of_ledger FB hall F' N' sub
      clear X T
      (repeat' (first | (k_unfold; (try dsimp only)) | ((((((fail_if_success (with_reducible show wpAny _ _ (exec (Stmt.While _ _ _ _) _) _ _ _)); (fail_if_success (with_reducible show wpAny _ _ (exec (Stmt.For _ _ _ _ _) _) _ _ _)); (fail_if_success (with_reducible show wpAny _ _ (call (Value.ref _) _ _) _ _ _)); (fail_if_success (with_reducible show wpAny _ _ (eval (Expr.ListComp _ _ _ _) _) _ _ _)))); (fail_if_success (with_reducible show wpAny _ _ (call (Value.builtin "sorted") _ _) _ _ _)); (fail_if_success (with_reducible show wpAny _ _ (compareOp _ _ _) _ _ _)); (fail_if_success (with_reducible show wpAny _ _ (execs (Stmt.If _ _ _ _ :: _) _) _ _ _)); (fail_if_success (with_reducible show wpAny _ _ (execs (Stmt.Assign _ _ _ :: _) _) _ _ _)))); (first | (k_here; (with_reducible show wpAny _ _ (eval (Expr.Name _ _) (compEnvC _ _ _ _)) _ _ _); (with_reducible rename Fr _ _ _ _ => kF); k_dflt (refine' cname kF ?k2 ?_ ?k3 ?k4; (case k3 => exact rfl); (case k4 => exact rfl); (case k2 => ((repeat' (first | (with_reducible assumption) | exact if_pos rfl | refine Eq.trans (if_neg (by decide)) ?_ | exact rfl)); done)); k_whole)) | (k_here; (with_reducible show wpAny _ _ (eval (Expr.Name _ _) (envOf _ _ _ _ _)) _ _ _); (with_reducible rename Fr _ _ _ _ => kF); k_dflt (refine' ld kF ?k2 ?_; (case k2 => ((repeat' (first | (with_reducible assumption) | exact if_pos rfl | refine Eq.trans (if_neg (by decide)) ?_ | exact rfl)); done)); k_whole)) | walk1)) | ((((((fail_if_success (with_reducible show wpAny _ _ (exec (Stmt.While _ _ _ _) _) _ _ _)); (fail_if_success (with_reducible show wpAny _ _ (exec (Stmt.For _ _ _ _ _) _) _ _ _)); (fail_if_success (with_reducible show wpAny _ _ (call (Value.ref _) _ _) _ _ _)); (fail_if_success (with_reducible show wpAny _ _ (eval (Expr.ListComp _ _ _ _) _) _ _ _)))); (fail_if_success (with_reducible show wpAny _ _ (call (Value.builtin "sorted") _ _) _ _ _)); (fail_if_success (with_reducible show wpAny _ _ (compareOp _ _ _) _ _ _)); (fail_if_success (with_reducible show wpAny _ _ (execs (Stmt.If _ _ _ _ :: _) _) _ _ _)); (fail_if_success (with_reducible show wpAny _ _ (execs (Stmt.Assign _ _ _ :: _) _) _ _ _)))); dsimp only; (((((fail_if_success (with_reducible show wpAny _ _ (exec (Stmt.While _ _ _ _) _) _ _ _)); (fail_if_success (with_reducible show wpAny _ _ (exec (Stmt.For _ _ _ _ _) _) _ _ _)); (fail_if_success (with_reducible show wpAny _ _ (call (Value.ref _) _ _) _ _ _)); (fail_if_success (with_reducible show wpAny _ _ (eval (Expr.ListComp _ _ _ _) _) _ _ _)))); (fail_if_success (with_reducible show wpAny _ _ (call (Value.builtin "sorted") _ _) _ _ _)); (fail_if_success (with_reducible show wpAny _ _ (compareOp _ _ _) _ _ _)); (fail_if_success (with_reducible show wpAny _ _ (execs (Stmt.If _ _ _ _ :: _) _) _ _ _)); (fail_if_success (with_reducible show wpAny _ _ (execs (Stmt.Assign _ _ _ :: _) _) _ _ _)))); (first | (k_here; (with_reducible show wpAny _ _ (eval (Expr.Name _ _) (compEnvC _ _ _ _)) _ _ _); (with_reducible rename Fr _ _ _ _ => kF); k_dflt (refine' cname kF ?k2 ?_ ?k3 ?k4; (case k3 => exact rfl); (case k4 => exact rfl); (case k2 => ((repeat' (first | (with_reducible assumption) | exact if_pos rfl | refine Eq.trans (if_neg (by decide)) ?_ | exact rfl)); done)); k_whole)) | (k_here; (with_reducible show wpAny _ _ (eval (Expr.Name _ _) (envOf _ _ _ _ _)) _ _ _); (with_reducible rename Fr _ _ _ _ => kF); k_dflt (refine' ld kF ?k2 ?_; (case k2 => ((repeat' (first | (with_reducible assumption) | exact if_pos rfl | refine Eq.trans (if_neg (by decide)) ?_ | exact rfl)); done)); k_whole)) | walk1)) | fail "no step"))
      rename Fr _ _ _ _ => F2
      have hperm := sortP_perm (ps := ps) (by omega)
      have eB : B.get? a = _ := lB _ _ ea
      refine sorted_W F2 NR (PySem.IsL.isList (n := n) (F2.keep _ _ eB)) (by omega) (by omega) (fun q hq => (rds q hq).le lB) (by show 4 + 3 + 2 < cLine; decide) (fun D4 h4 c4 F4 N4 => ?_)
      have hk4 := hkk _ _ _ F4 N4 fun p hp => .tail _ hp
      have e4 := (N4 _ (.head _)).1
      have l4 : Le (vw h4 fun b => (B.get? b).isSome || b == D4) h4 := fun b o e => by
        rw [vw_get] at e
        split at e
        · exact e
        · cases e
      have lB4 : Le B (vw h4 fun b => (B.get? b).isSome || b == D4) := fun b o e => by rw [vw_get, e]; simpa using F4.keep b o e
      have e4' : (vw h4 fun b => (B.get? b).isSome || b == D4).get? D4 = _ := (by rw [vw_get]; simpa using e4 : _ = some (listOf ((sortP ps).map (·.1)).toArray c4))
      generalize (vw h4 fun b => (B.get? b).isSome || b == D4) = gD at *
      clear F2 NR
      (repeat' (first | (k_unfold; (try dsimp only)) | ((((((fail_if_success (with_reducible show wpAny _ _ (exec (Stmt.While _ _ _ _) _) _ _ _)); (fail_if_success (with_reducible show wpAny _ _ (exec (Stmt.For _ _ _ _ _) _) _ _ _)); (fail_if_success (with_reducible show wpAny _ _ (call (Value.ref _) _ _) _ _ _)); (fail_if_success (with_reducible show wpAny _ _ (eval (Expr.ListComp _ _ _ _) _) _ _ _)))); (fail_if_success (with_reducible show wpAny _ _ (call (Value.builtin "sorted") _ _) _ _ _)); (fail_if_success (with_reducible show wpAny _ _ (compareOp _ _ _) _ _ _)); (fail_if_success (with_reducible show wpAny _ _ (execs (Stmt.If _ _ _ _ :: _) _) _ _ _)); (fail_if_success (with_reducible show wpAny _ _ (execs (Stmt.Assign _ _ _ :: _) _) _ _ _)))); (first | (k_here; (with_reducible show wpAny _ _ (eval (Expr.Name _ _) (compEnvC _ _ _ _)) _ _ _); (with_reducible rename Fr _ _ _ _ => kF); k_dflt (refine' cname kF ?k2 ?_ ?k3 ?k4; (case k3 => exact rfl); (case k4 => exact rfl); (case k2 => ((repeat' (first | (with_reducible assumption) | exact if_pos rfl | refine Eq.trans (if_neg (by decide)) ?_ | exact rfl)); done)); k_whole)) | (k_here; (with_reducible show wpAny _ _ (eval (Expr.Name _ _) (envOf _ _ _ _ _)) _ _ _); (with_reducible rename Fr _ _ _ _ => kF); k_dflt (refine' ld kF ?k2 ?_; (case k2 => ((repeat' (first | (with_reducible assumption) | exact if_pos rfl | refine Eq.trans (if_neg (by decide)) ?_ | exact rfl)); done)); k_whole)) | walk1)) | ((((((fail_if_success (with_reducible show wpAny _ _ (exec (Stmt.While _ _ _ _) _) _ _ _)); (fail_if_success (with_reducible show wpAny _ _ (exec (Stmt.For _ _ _ _ _) _) _ _ _)); (fail_if_success (with_reducible show wpAny _ _ (call (Value.ref _) _ _) _ _ _)); (fail_if_success (with_reducible show wpAny _ _ (eval (Expr.ListComp _ _ _ _) _) _ _ _)))); (fail_if_success (with_reducible show wpAny _ _ (call (Value.builtin "sorted") _ _) _ _ _)); (fail_if_success (with_reducible show wpAny _ _ (compareOp _ _ _) _ _ _)); (fail_if_success (with_reducible show wpAny _ _ (execs (Stmt.If _ _ _ _ :: _) _) _ _ _)); (fail_if_success (with_reducible show wpAny _ _ (execs (Stmt.Assign _ _ _ :: _) _) _ _ _)))); dsimp only; (((((fail_if_success (with_reducible show wpAny _ _ (exec (Stmt.While _ _ _ _) _) _ _ _)); (fail_if_success (with_reducible show wpAny _ _ (exec (Stmt.For _ _ _ _ _) _) _ _ _)); (fail_if_success (with_reducible show wpAny _ _ (call (Value.ref _) _ _) _ _ _)); (fail_if_success (with_reducible show wpAny _ _ (eval (Expr.ListComp _ _ _ _) _) _ _ _)))); (fail_if_success (with_reducible show wpAny _ _ (call (Value.builtin "sorted") _ _) _ _ _)); (fail_if_success (with_reducible show wpAny _ _ (compareOp _ _ _) _ _ _)); (fail_if_success (with_reducible show wpAny _ _ (execs (Stmt.If _ _ _ _ :: _) _) _ _ _)); (fail_if_success (with_reducible show wpAny _ _ (execs (Stmt.Assign _ _ _ :: _) _) _ _ _)))); (first | (k_here; (with_reducible show wpAny _ _ (eval (Expr.Name _ _) (compEnvC _ _ _ _)) _ _ _); (with_reducible rename Fr _ _ _ _ => kF); k_dflt (refine' cname kF ?k2 ?_ ?k3 ?k4; (case k3 => exact rfl); (case k4 => exact rfl); (case k2 => ((repeat' (first | (with_reducible assumption) | exact if_pos rfl | refine Eq.trans (if_neg (by decide)) ?_ | exact rfl)); done)); k_whole)) | (k_here; (with_reducible show wpAny _ _ (eval (Expr.Name _ _) (envOf _ _ _ _ _)) _ _ _); (with_reducible rename Fr _ _ _ _ => kF); k_dflt (refine' ld kF ?k2 ?_; (case k2 => ((repeat' (first | (with_reducible assumption) | exact if_pos rfl | refine Eq.trans (if_neg (by decide)) ?_ | exact rfl)); done)); k_whole)) | walk1)) | fail "no step"))
      refine once_c (amB.le lB4) l4 (room_law _) (PySem.IsL.isList (n := c4) e4') (fun q hq => (rds q (hperm.mem_iff.mp hq)).le (lB.trans lB4)) (by rw [hperm.length_eq]; omega) (fun h5 tk5 r n5 k5 r5 e5 => ?_)
      refine eend_add gr.le q3 hk4 F4.ns k5 r5 e5 (fun g6 l6 l6h e6 => ?_)
      exact ⟨r, n5, dedP (sortP ps), rfl, e6, by rw [← dedW_eq]; exact congrArg dedW (sortP_2 ps), fun q hq => (rds q (hperm.mem_iff.mp (dedP_pre' _ q hq))).le (gr.view.trans l6)⟩
    · have c3 := c2.grow gr₃
      have F := c3.F
      have N : News base L h3 [] := News.nil
      have hmap : wss.map (fun ws => dedW (offW ws)) = wss.map fun ws => dedW (sortW ws) := List.map_congr_left hlaw
      rw [hmap] at hD
      (repeat' (first | (k_unfold; (try dsimp only)) | ((((((fail_if_success (with_reducible show wpAny _ _ (exec (Stmt.While _ _ _ _) _) _ _ _)); (fail_if_success (with_reducible show wpAny _ _ (exec (Stmt.For _ _ _ _ _) _) _ _ _)); (fail_if_success (with_reducible show wpAny _ _ (call (Value.ref _) _ _) _ _ _)); (fail_if_success (with_reducible show wpAny _ _ (eval (Expr.ListComp _ _ _ _) _) _ _ _)))); (fail_if_success (with_reducible show wpAny _ _ (call (Value.builtin "sorted") _ _) _ _ _)); (fail_if_success (with_reducible show wpAny _ _ (compareOp _ _ _) _ _ _)); (fail_if_success (with_reducible show wpAny _ _ (execs (Stmt.If _ _ _ _ :: _) _) _ _ _)); (fail_if_success (with_reducible show wpAny _ _ (execs (Stmt.Assign _ _ _ :: _) _) _ _ _)))); (first | (k_here; (with_reducible show wpAny _ _ (eval (Expr.Name _ _) (compEnvC _ _ _ _)) _ _ _); (with_reducible rename Fr _ _ _ _ => kF); k_dflt (refine' cname kF ?k2 ?_ ?k3 ?k4; (case k3 => exact rfl); (case k4 => exact rfl); (case k2 => ((repeat' (first | (with_reducible assumption) | exact if_pos rfl | refine Eq.trans (if_neg (by decide)) ?_ | exact rfl)); done)); k_whole)) | (k_here; (with_reducible show wpAny _ _ (eval (Expr.Name _ _) (envOf _ _ _ _ _)) _ _ _); (with_reducible rename Fr _ _ _ _ => kF); k_dflt (refine' ld kF ?k2 ?_; (case k2 => ((repeat' (first | (with_reducible assumption) | exact if_pos rfl | refine Eq.trans (if_neg (by decide)) ?_ | exact rfl)); done)); k_whole)) | walk1)) | ((((((fail_if_success (with_reducible show wpAny _ _ (exec (Stmt.While _ _ _ _) _) _ _ _)); (fail_if_success (with_reducible show wpAny _ _ (exec (Stmt.For _ _ _ _ _) _) _ _ _)); (fail_if_success (with_reducible show wpAny _ _ (call (Value.ref _) _ _) _ _ _)); (fail_if_success (with_reducible show wpAny _ _ (eval (Expr.ListComp _ _ _ _) _) _ _ _)))); (fail_if_success (with_reducible show wpAny _ _ (call (Value.builtin "sorted") _ _) _ _ _)); (fail_if_success (with_reducible show wpAny _ _ (compareOp _ _ _) _ _ _)); (fail_if_success (with_reducible show wpAny _ _ (execs (Stmt.If _ _ _ _ :: _) _) _ _ _)); (fail_if_success (with_reducible show wpAny _ _ (execs (Stmt.Assign _ _ _ :: _) _) _ _ _)))); dsimp only; (((((fail_if_success (with_reducible show wpAny _ _ (exec (Stmt.While _ _ _ _) _) _ _ _)); (fail_if_success (with_reducible show wpAny _ _ (exec (Stmt.For _ _ _ _ _) _) _ _ _)); (fail_if_success (with_reducible show wpAny _ _ (call (Value.ref _) _ _) _ _ _)); (fail_if_success (with_reducible show wpAny _ _ (eval (Expr.ListComp _ _ _ _) _) _ _ _)))); (fail_if_success (with_reducible show wpAny _ _ (call (Value.builtin "sorted") _ _) _ _ _)); (fail_if_success (with_reducible show wpAny _ _ (compareOp _ _ _) _ _ _)); (fail_if_success (with_reducible show wpAny _ _ (execs (Stmt.If _ _ _ _ :: _) _) _ _ _)); (fail_if_success (with_reducible show wpAny _ _ (execs (Stmt.Assign _ _ _ :: _) _) _ _ _)))); (first | (k_here; (with_reducible show wpAny _ _ (eval (Expr.Name _ _) (compEnvC _ _ _ _)) _ _ _); (with_reducible rename Fr _ _ _ _ => kF); k_dflt (refine' cname kF ?k2 ?_ ?k3 ?k4; (case k3 => exact rfl); (case k4 => exact rfl); (case k2 => ((repeat' (first | (with_reducible assumption) | exact if_pos rfl | refine Eq.trans (if_neg (by decide)) ?_ | exact rfl)); done)); k_whole)) | (k_here; (with_reducible show wpAny _ _ (eval (Expr.Name _ _) (envOf _ _ _ _ _)) _ _ _); (with_reducible rename Fr _ _ _ _ => kF); k_dflt (refine' ld kF ?k2 ?_; (case k2 => ((repeat' (first | (with_reducible assumption) | exact if_pos rfl | refine Eq.trans (if_neg (by decide)) ?_ | exact rfl)); done)); k_whole)) | walk1)) | fail "no step"))
      refine ne_rows ((RowsL.rd (SeqOf.le RowL.mono _ _ _ _ gr₃.view hD)).le c3.gh) ((RowsL.rd hD2).le c3.gh) (by show 4 + 3 + 6 < cLine; decide) ?_
      (repeat' (first | (k_unfold; (try dsimp only)) | ((((((fail_if_success (with_reducible show wpAny _ _ (exec (Stmt.While _ _ _ _) _) _ _ _)); (fail_if_success (with_reducible show wpAny _ _ (exec (Stmt.For _ _ _ _ _) _) _ _ _)); (fail_if_success (with_reducible show wpAny _ _ (call (Value.ref _) _ _) _ _ _)); (fail_if_success (with_reducible show wpAny _ _ (eval (Expr.ListComp _ _ _ _) _) _ _ _)))); (fail_if_success (with_reducible show wpAny _ _ (call (Value.builtin "sorted") _ _) _ _ _)); (fail_if_success (with_reducible show wpAny _ _ (compareOp _ _ _) _ _ _)); (fail_if_success (with_reducible show wpAny _ _ (execs (Stmt.If _ _ _ _ :: _) _) _ _ _)); (fail_if_success (with_reducible show wpAny _ _ (execs (Stmt.Assign _ _ _ :: _) _) _ _ _)))); (first | (k_here; (with_reducible show wpAny _ _ (eval (Expr.Name _ _) (compEnvC _ _ _ _)) _ _ _); (with_reducible rename Fr _ _ _ _ => kF); k_dflt (refine' cname kF ?k2 ?_ ?k3 ?k4; (case k3 => exact rfl); (case k4 => exact rfl); (case k2 => ((repeat' (first | (with_reducible assumption) | exact if_pos rfl | refine Eq.trans (if_neg (by decide)) ?_ | exact rfl)); done)); k_whole)) | (k_here; (with_reducible show wpAny _ _ (eval (Expr.Name _ _) (envOf _ _ _ _ _)) _ _ _); (with_reducible rename Fr _ _ _ _ => kF); k_dflt (refine' ld kF ?k2 ?_; (case k2 => ((repeat' (first | (with_reducible assumption) | exact if_pos rfl | refine Eq.trans (if_neg (by decide)) ?_ | exact rfl)); done)); k_whole)) | walk1)) | ((((((fail_if_success (with_reducible show wpAny _ _ (exec (Stmt.While _ _ _ _) _) _ _ _)); (fail_if_success (with_reducible show wpAny _ _ (exec (Stmt.For _ _ _ _ _) _) _ _ _)); (fail_if_success (with_reducible show wpAny _ _ (call (Value.ref _) _ _) _ _ _)); (fail_if_success (with_reducible show wpAny _ _ (eval (Expr.ListComp _ _ _ _) _) _ _ _)))); (fail_if_success (with_reducible show wpAny _ _ (call (Value.builtin "sorted") _ _) _ _ _)); (fail_if_success (with_reducible show wpAny _ _ (compareOp _ _ _) _ _ _)); (fail_if_success (with_reducible show wpAny _ _ (execs (Stmt.If _ _ _ _ :: _) _) _ _ _)); (fail_if_success (with_reducible show wpAny _ _ (execs (Stmt.Assign _ _ _ :: _) _) _ _ _)))); dsimp only; (((((fail_if_success (with_reducible show wpAny _ _ (exec (Stmt.While _ _ _ _) _) _ _ _)); (fail_if_success (with_reducible show wpAny _ _ (exec (Stmt.For _ _ _ _ _) _) _ _ _)); (fail_if_success (with_reducible show wpAny _ _ (call (Value.ref _) _ _) _ _ _)); (fail_if_success (with_reducible show wpAny _ _ (eval (Expr.ListComp _ _ _ _) _) _ _ _)))); (fail_if_success (with_reducible show wpAny _ _ (call (Value.builtin "sorted") _ _) _ _ _)); (fail_if_success (with_reducible show wpAny _ _ (compareOp _ _ _) _ _ _)); (fail_if_success (with_reducible show wpAny _ _ (execs (Stmt.If _ _ _ _ :: _) _) _ _ _)); (fail_if_success (with_reducible show wpAny _ _ (execs (Stmt.Assign _ _ _ :: _) _) _ _ _)))); (first | (k_here; (with_reducible show wpAny _ _ (eval (Expr.Name _ _) (compEnvC _ _ _ _)) _ _ _); (with_reducible rename Fr _ _ _ _ => kF); k_dflt (refine' cname kF ?k2 ?_ ?k3 ?k4; (case k3 => exact rfl); (case k4 => exact rfl); (case k2 => ((repeat' (first | (with_reducible assumption) | exact if_pos rfl | refine Eq.trans (if_neg (by decide)) ?_ | exact rfl)); done)); k_whole)) | (k_here; (with_reducible show wpAny _ _ (eval (Expr.Name _ _) (envOf _ _ _ _ _)) _ _ _); (with_reducible rename Fr _ _ _ _ => kF); k_dflt (refine' ld kF ?k2 ?_; (case k2 => ((repeat' (first | (with_reducible assumption) | exact if_pos rfl | refine Eq.trans (if_neg (by decide)) ?_ | exact rfl)); done)); k_whole)) | walk1)) | fail "no step"))
      exact k _ _ _ c3 (gr₂.view.trans gr₃.view)
end

section
open PySem PySem.W PyProof.Rows PySem.Calls PySem.SeqAt

theorem add_A {prog : Program} {w : World} {A : Around} {E : Value → Shared → Prop} {s : Shared} {h₀ : Heap} {L : Addr} {m : Str → Option Value} {news : List (Addr × Obj)} {l b : Addr} {xs ys : Array Value} {Q : Value → Shared → Prop} (F : Fr h₀ L s.heap m) (N : News h₀ L s.heap news) (hl : s.heap.IsList l xs) (hb : s.heap.IsList b ys) (hz : xs.size + ys.size ≤ sizeLine)
    (h : ∀ D h', Fr h₀ L h' m → News h₀ L h' ((D, listOf (xs.toList ++ ys.toList).toArray 0) :: news) → (∀ p ∈ news, p.1 < D) → Q (.ref D) { s with heap := h' }) :
    wpAny (model prog w) A (binaryOp .Add (.ref l) (.ref b)) Q E s :=
  add_L F N (xs := xs.toList) (ys := ys.toList) (by simpa using hl) (by simpa using hb) (by simpa using hz) h

theorem law_6 {w : World} {s : Shared} {Q : Flow → Shared → Prop} {base g : Heap} {mean : ExcName → Option Value} {mg mb : Str → Option Value} {fa L : Addr} {cv : Value} {o1 o2 : Obj} {m : Str → Option Value}
    {name qual : Str} {params : Arguments} {body : List Stmt} {scope : Scope} {dV kV doc pm cdv ct oc : Value} {an od : Option Addr} {osl : Array (Option Value)}
    (X : (cap.heap_1 w.params).In base) (T : Top hd.view_39 (looseW hd.view_39 []) mean mg mb base)
    (ho : (cap.heap_1 w.params).lookup 200 = some ⟨oc, od, .func (fnOf name qual params body scope dV kV doc pm an cdv ct), osl⟩) {vn vy : Value} {wss : List WW}
    (c : LC base g L o1 o2 s.heap m) (hm : m (Str.ofString "names") = some vn) (hm2 : m (Str.ofString "ways") = some vy) (hr : RowsL g vn wss) (hr2 : RowsL g vy wss) (hn : wss.length ≤ 100) (hw : ∀ ws ∈ wss, 2 ≤ ws.length ∧ ws.length < 64) (hlaw : ∀ ws ∈ wss, dedW (ws ++ ws.reverse) = dedW ws)
    (k : ∀ h' tk' g', LC base g' L o1 o2 h' m → Le g g' → wpAny (model Challenge.rw_ny0132_01.row.prog w) (callerA.deeper (envOfC qual scope L fa cv)) (execs (body.drop 7) (envOfC qual scope L fa cv)) Q (fun _ _ => False) { s with heap := h', toks := tk' }) :
    wpAny (model Challenge.rw_ny0132_01.row.prog w) (callerA.deeper (envOfC qual scope L fa cv)) (execs (body.drop 6) (envOfC qual scope L fa cv)) Q (fun _ _ => False) s := by
  have am : Amb w base := ⟨X, mean, mg, mb, T⟩
  revert X; k_fill; intro X
  have key : ∀ o', (cap.heap_1 w.params).lookup 200 = some o' → o' = ⟨oc, od, .func (fnOf name qual params body scope dV kV doc pm an cdv ct), osl⟩ := fun o' h => Option.some.inj (h.symm.trans ho)
  obtain ⟨rfl, rfl, rfl⟩ := fn_inj (key _ (by k_is))
  clear key ho
  show wpAny _ _ _ _ _ _
  dsimp only [List.drop]
  have F := c.F
  have N : News base L s.heap [] := News.nil
  refine wpAny_execs_cons ?_
  (repeat' (first | (k_unfold; (try dsimp only)) | ((((((fail_if_success (with_reducible show wpAny _ _ (exec (Stmt.While _ _ _ _) _) _ _ _)); (fail_if_success (with_reducible show wpAny _ _ (exec (Stmt.For _ _ _ _ _) _) _ _ _)); (fail_if_success (with_reducible show wpAny _ _ (call (Value.ref _) _ _) _ _ _)); (fail_if_success (with_reducible show wpAny _ _ (eval (Expr.ListComp _ _ _ _) _) _ _ _)))); (fail_if_success (with_reducible show wpAny _ _ (call (Value.builtin "sorted") _ _) _ _ _)); (fail_if_success (with_reducible show wpAny _ _ (compareOp _ _ _) _ _ _)); (fail_if_success (with_reducible show wpAny _ _ (execs (Stmt.If _ _ _ _ :: _) _) _ _ _)); (fail_if_success (with_reducible show wpAny _ _ (execs (Stmt.Assign _ _ _ :: _) _) _ _ _)))); (first | (k_here; (with_reducible show wpAny _ _ (eval (Expr.Name _ _) (compEnvC _ _ _ _)) _ _ _); (with_reducible rename Fr _ _ _ _ => kF); k_dflt (refine' cname kF ?k2 ?_ ?k3 ?k4; (case k3 => exact rfl); (case k4 => exact rfl); (case k2 => ((repeat' (first | (with_reducible assumption) | exact if_pos rfl | refine Eq.trans (if_neg (by decide)) ?_ | exact rfl)); done)); k_whole)) | (k_here; (with_reducible show wpAny _ _ (eval (Expr.Name _ _) (envOf _ _ _ _ _)) _ _ _); (with_reducible rename Fr _ _ _ _ => kF); k_dflt (refine' ld kF ?k2 ?_; (case k2 => ((repeat' (first | (with_reducible assumption) | exact if_pos rfl | refine Eq.trans (if_neg (by decide)) ?_ | exact rfl)); done)); k_whole)) | ((with_reducible show wpAny _ _ (binaryOp Operator.Add (Value.ref _) (Value.ref _)) _ _ _); k_here; k_dflt (refine' add_A ?k1 ?k2 ?k3 ?k4 ?z ?_; (case k1 => k_asm); (case k2 => k_asm); (case k3 => is_list); (case k4 => is_list); (case z => (rw [krv_pick]; simp only [List.size_toArray, List.length_reverse, List.length_map, Array.length_toList]; rw [sizeLine_eq]; omega)); k_whole); intro D4 h4 F' N' lt4) | walk1)) | ((((((fail_if_success (with_reducible show wpAny _ _ (exec (Stmt.While _ _ _ _) _) _ _ _)); (fail_if_success (with_reducible show wpAny _ _ (exec (Stmt.For _ _ _ _ _) _) _ _ _)); (fail_if_success (with_reducible show wpAny _ _ (call (Value.ref _) _ _) _ _ _)); (fail_if_success (with_reducible show wpAny _ _ (eval (Expr.ListComp _ _ _ _) _) _ _ _)))); (fail_if_success (with_reducible show wpAny _ _ (call (Value.builtin "sorted") _ _) _ _ _)); (fail_if_success (with_reducible show wpAny _ _ (compareOp _ _ _) _ _ _)); (fail_if_success (with_reducible show wpAny _ _ (execs (Stmt.If _ _ _ _ :: _) _) _ _ _)); (fail_if_success (with_reducible show wpAny _ _ (execs (Stmt.Assign _ _ _ :: _) _) _ _ _)))); dsimp only; (((((fail_if_success (with_reducible show wpAny _ _ (exec (Stmt.While _ _ _ _) _) _ _ _)); (fail_if_success (with_reducible show wpAny _ _ (exec (Stmt.For _ _ _ _ _) _) _ _ _)); (fail_if_success (with_reducible show wpAny _ _ (call (Value.ref _) _ _) _ _ _)); (fail_if_success (with_reducible show wpAny _ _ (eval (Expr.ListComp _ _ _ _) _) _ _ _)))); (fail_if_success (with_reducible show wpAny _ _ (call (Value.builtin "sorted") _ _) _ _ _)); (fail_if_success (with_reducible show wpAny _ _ (compareOp _ _ _) _ _ _)); (fail_if_success (with_reducible show wpAny _ _ (execs (Stmt.If _ _ _ _ :: _) _) _ _ _)); (fail_if_success (with_reducible show wpAny _ _ (execs (Stmt.Assign _ _ _ :: _) _) _ _ _)))); (first | (k_here; (with_reducible show wpAny _ _ (eval (Expr.Name _ _) (compEnvC _ _ _ _)) _ _ _); (with_reducible rename Fr _ _ _ _ => kF); k_dflt (refine' cname kF ?k2 ?_ ?k3 ?k4; (case k3 => exact rfl); (case k4 => exact rfl); (case k2 => ((repeat' (first | (with_reducible assumption) | exact if_pos rfl | refine Eq.trans (if_neg (by decide)) ?_ | exact rfl)); done)); k_whole)) | (k_here; (with_reducible show wpAny _ _ (eval (Expr.Name _ _) (envOf _ _ _ _ _)) _ _ _); (with_reducible rename Fr _ _ _ _ => kF); k_dflt (refine' ld kF ?k2 ?_; (case k2 => ((repeat' (first | (with_reducible assumption) | exact if_pos rfl | refine Eq.trans (if_neg (by decide)) ?_ | exact rfl)); done)); k_whole)) | ((with_reducible show wpAny _ _ (binaryOp Operator.Add (Value.ref _) (Value.ref _)) _ _ _); k_here; k_dflt (refine' add_A ?k1 ?k2 ?k3 ?k4 ?z ?_; (case k1 => k_asm); (case k2 => k_asm); (case k3 => is_list); (case k4 => is_list); (case z => (rw [krv_pick]; simp only [List.size_toArray, List.length_reverse, List.length_map, Array.length_toList]; rw [sizeLine_eq]; omega)); k_whole); intro D4 h4 F' N' lt4) | walk1)) | fail "no step"))
  clear F N
  refine comp_seq (R1 := RowL) (R2 := RowL) (g := g) (fun ws => dedW (ws ++ ws.reverse)) RowL.mono rfl rfl (by decide) rfl (by decide) rfl (fun Q' hQ' => ldC c.F hm hQ' rfl rfl) hr (by rw [sizeLine_eq]; omega) c.gh (fun v ws h3 tk3 C m₁ g₁ hv hmem gr q1 q2 q3 ns₁ hm₁ => ?_) (fun D h tk g₂ gr₂ hD => ?_)
  · clear k
    obtain ⟨a, n, ps, rfl, ea, rfl, rds⟩ := hv
    have hlen := hw _ hmem
    have hlen2 : (m2 ps).length = ps.length := by simp [m2]
    have lB : Le g (sub s.heap g) := le_sub c.gh
    have amB := (am.le c.bg).le lB
    have FB : Fr (sub s.heap g) C h3 m₁ := ⟨ns₁, fun b o e => gr.heap b o (sub_le b o e), by rw [sub_size]; exact q2⟩
    generalize sub s.heap g = B at *
    obtain ⟨XB, meanB, mgB, mbB, TB⟩ := id amB
    obtain ⟨rest, NR, hall⟩ := ledger_all FB
    have hkk : ∀ h' m' all, Fr B C h' m' → News B C h' all → (∀ p ∈ rest, p ∈ all) → ∀ b o, b ≠ C → h3.get? b = some o → h'.get? b = some o := fun _ _ _ F' N' sub => le_of_ledger FB hall F' N' sub
    clear X T
    have eB : B.get? a = _ := lB _ _ ea
    have lBl : B.IsList a (ps.map (·.1)).toArray := PySem.IsL.isList (n := n) eB
    (repeat' (first | (k_unfold; (try dsimp only)) | ((((((fail_if_success (with_reducible show wpAny _ _ (exec (Stmt.While _ _ _ _) _) _ _ _)); (fail_if_success (with_reducible show wpAny _ _ (exec (Stmt.For _ _ _ _ _) _) _ _ _)); (fail_if_success (with_reducible show wpAny _ _ (call (Value.ref _) _ _) _ _ _)); (fail_if_success (with_reducible show wpAny _ _ (eval (Expr.ListComp _ _ _ _) _) _ _ _)))); (fail_if_success (with_reducible show wpAny _ _ (call (Value.builtin "sorted") _ _) _ _ _)); (fail_if_success (with_reducible show wpAny _ _ (compareOp _ _ _) _ _ _)); (fail_if_success (with_reducible show wpAny _ _ (execs (Stmt.If _ _ _ _ :: _) _) _ _ _)); (fail_if_success (with_reducible show wpAny _ _ (execs (Stmt.Assign _ _ _ :: _) _) _ _ _)))); (first | (k_here; (with_reducible show wpAny _ _ (eval (Expr.Name _ _) (compEnvC _ _ _ _)) _ _ _); (with_reducible rename Fr _ _ _ _ => kF); k_dflt (refine' cname kF ?k2 ?_ ?k3 ?k4; (case k3 => exact rfl); (case k4 => exact rfl); (case k2 => ((repeat' (first | (with_reducible assumption) | exact if_pos rfl | refine Eq.trans (if_neg (by decide)) ?_ | exact rfl)); done)); k_whole)) | (k_here; (with_reducible show wpAny _ _ (eval (Expr.Name _ _) (envOf _ _ _ _ _)) _ _ _); (with_reducible rename Fr _ _ _ _ => kF); k_dflt (refine' ld kF ?k2 ?_; (case k2 => ((repeat' (first | (with_reducible assumption) | exact if_pos rfl | refine Eq.trans (if_neg (by decide)) ?_ | exact rfl)); done)); k_whole)) | ((with_reducible show wpAny _ _ (binaryOp Operator.Add (Value.ref _) (Value.ref _)) _ _ _); k_here; k_dflt (refine' add_A ?k1 ?k2 ?k3 ?k4 ?z ?_; (case k1 => k_asm); (case k2 => k_asm); (case k3 => is_list); (case k4 => is_list); (case z => (rw [krv_pick]; simp only [List.size_toArray, List.length_reverse, List.length_map, Array.length_toList]; rw [sizeLine_eq]; omega)); k_whole); intro D4 h4 F' N' lt4) | walk1)) | ((((((fail_if_success (with_reducible show wpAny _ _ (exec (Stmt.While _ _ _ _) _) _ _ _)); (fail_if_success (with_reducible show wpAny _ _ (exec (Stmt.For _ _ _ _ _) _) _ _ _)); (fail_if_success (with_reducible show wpAny _ _ (call (Value.ref _) _ _) _ _ _)); (fail_if_success (with_reducible show wpAny _ _ (eval (Expr.ListComp _ _ _ _) _) _ _ _)))); (fail_if_success (with_reducible show wpAny _ _ (call (Value.builtin "sorted") _ _) _ _ _)); (fail_if_success (with_reducible show wpAny _ _ (compareOp _ _ _) _ _ _)); (fail_if_success (with_reducible show wpAny _ _ (execs (Stmt.If _ _ _ _ :: _) _) _ _ _)); (fail_if_success (with_reducible show wpAny _ _ (execs (Stmt.Assign _ _ _ :: _) _) _ _ _)))); dsimp only; (((((fail_if_success (with_reducible show wpAny _ _ (exec (Stmt.While _ _ _ _) _) _ _ _)); (fail_if_success (with_reducible show wpAny _ _ (exec (Stmt.For _ _ _ _ _) _) _ _ _)); (fail_if_success (with_reducible show wpAny _ _ (call (Value.ref _) _ _) _ _ _)); (fail_if_success (with_reducible show wpAny _ _ (eval (Expr.ListComp _ _ _ _) _) _ _ _)))); (fail_if_success (with_reducible show wpAny _ _ (call (Value.builtin "sorted") _ _) _ _ _)); (fail_if_success (with_reducible show wpAny _ _ (compareOp _ _ _) _ _ _)); (fail_if_success (with_reducible show wpAny _ _ (execs (Stmt.If _ _ _ _ :: _) _) _ _ _)); (fail_if_success (with_reducible show wpAny _ _ (execs (Stmt.Assign _ _ _ :: _) _) _ _ _)))); (first | (k_here; (with_reducible show wpAny _ _ (eval (Expr.Name _ _) (compEnvC _ _ _ _)) _ _ _); (with_reducible rename Fr _ _ _ _ => kF); k_dflt (refine' cname kF ?k2 ?_ ?k3 ?k4; (case k3 => exact rfl); (case k4 => exact rfl); (case k2 => ((repeat' (first | (with_reducible assumption) | exact if_pos rfl | refine Eq.trans (if_neg (by decide)) ?_ | exact rfl)); done)); k_whole)) | (k_here; (with_reducible show wpAny _ _ (eval (Expr.Name _ _) (envOf _ _ _ _ _)) _ _ _); (with_reducible rename Fr _ _ _ _ => kF); k_dflt (refine' ld kF ?k2 ?_; (case k2 => ((repeat' (first | (with_reducible assumption) | exact if_pos rfl | refine Eq.trans (if_neg (by decide)) ?_ | exact rfl)); done)); k_whole)) | ((with_reducible show wpAny _ _ (binaryOp Operator.Add (Value.ref _) (Value.ref _)) _ _ _); k_here; k_dflt (refine' add_A ?k1 ?k2 ?k3 ?k4 ?z ?_; (case k1 => k_asm); (case k2 => k_asm); (case k3 => is_list); (case k4 => is_list); (case z => (rw [krv_pick]; simp only [List.size_toArray, List.length_reverse, List.length_map, Array.length_toList]; rw [sizeLine_eq]; omega)); k_whole); intro D4 h4 F' N' lt4) | walk1)) | fail "no step"))
    rename Fr _ _ _ _ => F4
    rename News _ _ _ _ => N4
    rw [krv_pick] at N4
    rw [show ((ps.map (·.1)).toArray.toList ++ (ps.map (·.1)).toArray.toList.reverse.toArray.toList) = (ps ++ ps.reverse).map (·.1) from by simp] at N4
    have hk4 := hkk _ _ _ F4 N4 fun p hp => .tail _ (.tail _ hp)
    have e4 := (N4 _ (.head _)).1
    have l4 : Le (vw h4 fun b => (B.get? b).isSome || b == D4) h4 := fun b o e => by
      rw [vw_get] at e
      split at e
      · exact e
      · cases e
    have lB4 : Le B (vw h4 fun b => (B.get? b).isSome || b == D4) := fun b o e => by rw [vw_get, e]; simpa using F4.keep b o e
    have e4' : (vw h4 fun b => (B.get? b).isSome || b == D4).get? D4 = _ := (by rw [vw_get]; simpa using e4 : _ = some (listOf ((ps ++ ps.reverse).map (·.1)).toArray 0))
    generalize (vw h4 fun b => (B.get? b).isSome || b == D4) = gD at *
    have rds2 : ∀ q ∈ ps ++ ps.reverse, Rd g q.1 (dW q.2) := fun q hq => by
      rcases List.mem_append.mp hq with z | z
      · exact rds q z
      · exact rds q (List.mem_reverse.mp z)
    refine dedup_c (amB.le lB4) l4 (room_law _) (PySem.IsL.isList (n := 0) e4') (fun q hq => (rds2 q hq).le (lB.trans lB4)) (by simp; omega) (fun h5 tk5 r n5 k5 r5 e5 => ?_)
    refine eend_add gr.le q3 hk4 F4.ns k5 r5 e5 (fun g6 l6 l6h e6 => ?_)
    exact ⟨r, n5, dedP (ps ++ ps.reverse), rfl, e6, by rw [← dedW_eq]; simp [m2], fun q hq => (rds2 q (dedP_pre' _ q hq)).le (gr.view.trans l6)⟩
  · have c2 := c.grow gr₂
    have F := c2.F
    have N : News base L h [] := News.nil
    (repeat' (first | (k_unfold; (try dsimp only)) | ((((((fail_if_success (with_reducible show wpAny _ _ (exec (Stmt.While _ _ _ _) _) _ _ _)); (fail_if_success (with_reducible show wpAny _ _ (exec (Stmt.For _ _ _ _ _) _) _ _ _)); (fail_if_success (with_reducible show wpAny _ _ (call (Value.ref _) _ _) _ _ _)); (fail_if_success (with_reducible show wpAny _ _ (eval (Expr.ListComp _ _ _ _) _) _ _ _)))); (fail_if_success (with_reducible show wpAny _ _ (call (Value.builtin "sorted") _ _) _ _ _)); (fail_if_success (with_reducible show wpAny _ _ (compareOp _ _ _) _ _ _)); (fail_if_success (with_reducible show wpAny _ _ (execs (Stmt.If _ _ _ _ :: _) _) _ _ _)); (fail_if_success (with_reducible show wpAny _ _ (execs (Stmt.Assign _ _ _ :: _) _) _ _ _)))); (first | (k_here; (with_reducible show wpAny _ _ (eval (Expr.Name _ _) (compEnvC _ _ _ _)) _ _ _); (with_reducible rename Fr _ _ _ _ => kF); k_dflt (refine' cname kF ?k2 ?_ ?k3 ?k4; (case k3 => exact rfl); (case k4 => exact rfl); (case k2 => ((repeat' (first | (with_reducible assumption) | exact if_pos rfl | refine Eq.trans (if_neg (by decide)) ?_ | exact rfl)); done)); k_whole)) | (k_here; (with_reducible show wpAny _ _ (eval (Expr.Name _ _) (envOf _ _ _ _ _)) _ _ _); (with_reducible rename Fr _ _ _ _ => kF); k_dflt (refine' ld kF ?k2 ?_; (case k2 => ((repeat' (first | (with_reducible assumption) | exact if_pos rfl | refine Eq.trans (if_neg (by decide)) ?_ | exact rfl)); done)); k_whole)) | ((with_reducible show wpAny _ _ (binaryOp Operator.Add (Value.ref _) (Value.ref _)) _ _ _); k_here; k_dflt (refine' add_A ?k1 ?k2 ?k3 ?k4 ?z ?_; (case k1 => k_asm); (case k2 => k_asm); (case k3 => is_list); (case k4 => is_list); (case z => (rw [krv_pick]; simp only [List.size_toArray, List.length_reverse, List.length_map, Array.length_toList]; rw [sizeLine_eq]; omega)); k_whole); intro D4 h4 F' N' lt4) | walk1)) | ((((((fail_if_success (with_reducible show wpAny _ _ (exec (Stmt.While _ _ _ _) _) _ _ _)); (fail_if_success (with_reducible show wpAny _ _ (exec (Stmt.For _ _ _ _ _) _) _ _ _)); (fail_if_success (with_reducible show wpAny _ _ (call (Value.ref _) _ _) _ _ _)); (fail_if_success (with_reducible show wpAny _ _ (eval (Expr.ListComp _ _ _ _) _) _ _ _)))); (fail_if_success (with_reducible show wpAny _ _ (call (Value.builtin "sorted") _ _) _ _ _)); (fail_if_success (with_reducible show wpAny _ _ (compareOp _ _ _) _ _ _)); (fail_if_success (with_reducible show wpAny _ _ (execs (Stmt.If _ _ _ _ :: _) _) _ _ _)); (fail_if_success (with_reducible show wpAny _ _ (execs (Stmt.Assign _ _ _ :: _) _) _ _ _)))); dsimp only; (((((fail_if_success (with_reducible show wpAny _ _ (exec (Stmt.While _ _ _ _) _) _ _ _)); (fail_if_success (with_reducible show wpAny _ _ (exec (Stmt.For _ _ _ _ _) _) _ _ _)); (fail_if_success (with_reducible show wpAny _ _ (call (Value.ref _) _ _) _ _ _)); (fail_if_success (with_reducible show wpAny _ _ (eval (Expr.ListComp _ _ _ _) _) _ _ _)))); (fail_if_success (with_reducible show wpAny _ _ (call (Value.builtin "sorted") _ _) _ _ _)); (fail_if_success (with_reducible show wpAny _ _ (compareOp _ _ _) _ _ _)); (fail_if_success (with_reducible show wpAny _ _ (execs (Stmt.If _ _ _ _ :: _) _) _ _ _)); (fail_if_success (with_reducible show wpAny _ _ (execs (Stmt.Assign _ _ _ :: _) _) _ _ _)))); (first | (k_here; (with_reducible show wpAny _ _ (eval (Expr.Name _ _) (compEnvC _ _ _ _)) _ _ _); (with_reducible rename Fr _ _ _ _ => kF); k_dflt (refine' cname kF ?k2 ?_ ?k3 ?k4; (case k3 => exact rfl); (case k4 => exact rfl); (case k2 => ((repeat' (first | (with_reducible assumption) | exact if_pos rfl | refine Eq.trans (if_neg (by decide)) ?_ | exact rfl)); done)); k_whole)) | (k_here; (with_reducible show wpAny _ _ (eval (Expr.Name _ _) (envOf _ _ _ _ _)) _ _ _); (with_reducible rename Fr _ _ _ _ => kF); k_dflt (refine' ld kF ?k2 ?_; (case k2 => ((repeat' (first | (with_reducible assumption) | exact if_pos rfl | refine Eq.trans (if_neg (by decide)) ?_ | exact rfl)); done)); k_whole)) | ((with_reducible show wpAny _ _ (binaryOp Operator.Add (Value.ref _) (Value.ref _)) _ _ _); k_here; k_dflt (refine' add_A ?k1 ?k2 ?k3 ?k4 ?z ?_; (case k1 => k_asm); (case k2 => k_asm); (case k3 => is_list); (case k4 => is_list); (case z => (rw [krv_pick]; simp only [List.size_toArray, List.length_reverse, List.length_map, Array.length_toList]; rw [sizeLine_eq]; omega)); k_whole); intro D4 h4 F' N' lt4) | walk1)) | fail "no step"))
    clear F N
    refine comp_seq (R1 := RowL) (R2 := RowL) (g := g₂) (fun ws => dedW ws) RowL.mono rfl rfl (by decide) rfl (by decide) rfl (fun Q' hQ' => ldC c2.F hm2 hQ' rfl rfl) (SeqOf.le RowL.mono _ _ _ _ gr₂.view hr2) (by rw [sizeLine_eq]; omega) c2.gh (fun v ws h3 tk3 C m₁ g₁ hv hmem gr q1 q2 q3 ns₁ hm₁ => ?_) (fun D2 h3 tk3 g₃ gr₃ hD2 => ?_)
    · clear k
      obtain ⟨a, n, ps, rfl, ea, rfl, rds⟩ := hv
      have hlen := hw _ hmem
      have hlen2 : (m2 ps).length = ps.length := by simp [m2]
      have F : Fr base C h3 m₁ := ⟨ns₁, fun b o e => gr.heap b o (c2.F.keep b o e), Nat.le_trans c2.F.above (Nat.le_trans (Nat.le_of_lt c2.F.ns.lt) q2)⟩
      have N : News base C h3 [] := News.nil
      (repeat' (first | (k_unfold; (try dsimp only)) | ((((((fail_if_success (with_reducible show wpAny _ _ (exec (Stmt.While _ _ _ _) _) _ _ _)); (fail_if_success (with_reducible show wpAny _ _ (exec (Stmt.For _ _ _ _ _) _) _ _ _)); (fail_if_success (with_reducible show wpAny _ _ (call (Value.ref _) _ _) _ _ _)); (fail_if_success (with_reducible show wpAny _ _ (eval (Expr.ListComp _ _ _ _) _) _ _ _)))); (fail_if_success (with_reducible show wpAny _ _ (call (Value.builtin "sorted") _ _) _ _ _)); (fail_if_success (with_reducible show wpAny _ _ (compareOp _ _ _) _ _ _)); (fail_if_success (with_reducible show wpAny _ _ (execs (Stmt.If _ _ _ _ :: _) _) _ _ _)); (fail_if_success (with_reducible show wpAny _ _ (execs (Stmt.Assign _ _ _ :: _) _) _ _ _)))); (first | (k_here; (with_reducible show wpAny _ _ (eval (Expr.Name _ _) (compEnvC _ _ _ _)) _ _ _); (with_reducible rename Fr _ _ _ _ => kF); k_dflt (refine' cname kF ?k2 ?_ ?k3 ?k4; (case k3 => exact rfl); (case k4 => exact rfl); (case k2 => ((repeat' (first | (with_reducible assumption) | exact if_pos rfl | refine Eq.trans (if_neg (by decide)) ?_ | exact rfl)); done)); k_whole)) | (k_here; (with_reducible show wpAny _ _ (eval (Expr.Name _ _) (envOf _ _ _ _ _)) _ _ _); (with_reducible rename Fr _ _ _ _ => kF); k_dflt (refine' ld kF ?k2 ?_; (case k2 => ((repeat' (first | (with_reducible assumption) | exact if_pos rfl | refine Eq.trans (if_neg (by decide)) ?_ | exact rfl)); done)); k_whole)) | ((with_reducible show wpAny _ _ (binaryOp Operator.Add (Value.ref _) (Value.ref _)) _ _ _); k_here; k_dflt (refine' add_A ?k1 ?k2 ?k3 ?k4 ?z ?_; (case k1 => k_asm); (case k2 => k_asm); (case k3 => is_list); (case k4 => is_list); (case z => (rw [krv_pick]; simp only [List.size_toArray, List.length_reverse, List.length_map, Array.length_toList]; rw [sizeLine_eq]; omega)); k_whole); intro D4 h4 F' N' lt4) | walk1)) | ((((((fail_if_success (with_reducible show wpAny _ _ (exec (Stmt.While _ _ _ _) _) _ _ _)); (fail_if_success (with_reducible show wpAny _ _ (exec (Stmt.For _ _ _ _ _) _) _ _ _)); (fail_if_success (with_reducible show wpAny _ _ (call (Value.ref _) _ _) _ _ _)); (fail_if_success (with_reducible show wpAny _ _ (eval (Expr.ListComp _ _ _ _) _) _ _ _)))); (fail_if_success (with_reducible show wpAny _ _ (call (Value.builtin "sorted") _ _) _ _ _)); (fail_if_success (with_reducible show wpAny _ _ (compareOp _ _ _) _ _ _)); (fail_if_success (with_reducible show wpAny _ _ (execs (Stmt.If _ _ _ _ :: _) _) _ _ _)); (fail_if_success (with_reducible show wpAny _ _ (execs (Stmt.Assign _ _ _ :: _) _) _ _ _)))); dsimp only; (((((fail_if_success (with_reducible show wpAny _ _ (exec (Stmt.While _ _ _ _) _) _ _ _)); (fail_if_success (with_reducible show wpAny _ _ (exec (Stmt.For _ _ _ _ _) _) _ _ _)); (fail_if_success (with_reducible show wpAny _ _ (call (Value.ref _) _ _) _ _ _)); (fail_if_success (with_reducible show wpAny _ _ (eval (Expr.ListComp _ _ _ _) _) _ _ _)))); (fail_if_success (with_reducible show wpAny _ _ (call (Value.builtin "sorted") _ _) _ _ _)); (fail_if_success (with_reducible show wpAny _ _ (compareOp _ _ _) _ _ _)); (fail_if_success (with_reducible show wpAny _ _ (execs (Stmt.If _ _ _ _ :: _) _) _ _ _)); (fail_if_success (with_reducible show wpAny _ _ (execs (Stmt.Assign _ _ _ :: _) _) _ _ _)))); (first | (k_here; (with_reducible show wpAny _ _ (eval (Expr.Name _ _) (compEnvC _ _ _ _)) _ _ _); (with_reducible rename Fr _ _ _ _ => kF); k_dflt (refine' cname kF ?k2 ?_ ?k3 ?k4; (case k3 => exact rfl); (case k4 => exact rfl); (case k2 => ((repeat' (first | (with_reducible assumption) | exact if_pos rfl | refine Eq.trans (if_neg (by decide)) ?_ | exact rfl)); done)); k_whole)) | (k_here; (with_reducible show wpAny _ _ (eval (Expr.Name _ _) (envOf _ _ _ _ _)) _ _ _); (with_reducible rename Fr _ _ _ _ => kF); k_dflt (refine' ld kF ?k2 ?_; (case k2 => ((repeat' (first | (with_reducible assumption) | exact if_pos rfl | refine Eq.trans (if_neg (by decide)) ?_ | exact rfl)); done)); k_whole)) | ((with_reducible show wpAny _ _ (binaryOp Operator.Add (Value.ref _) (Value.ref _)) _ _ _); k_here; k_dflt (refine' add_A ?k1 ?k2 ?k3 ?k4 ?z ?_; (case k1 => k_asm); (case k2 => k_asm); (case k3 => is_list); (case k4 => is_list); (case z => (rw [krv_pick]; simp only [List.size_toArray, List.length_reverse, List.length_map, Array.length_toList]; rw [sizeLine_eq]; omega)); k_whole); intro D4 h4 F' N' lt4) | walk1)) | fail "no step"))
      have lgh : Le g₂ h3 := gr.view.trans gr.le
      refine once_c (am.le c2.bg) lgh (room_law _) (PySem.IsL.isList (n := n) ea) rds (by omega) (fun h5 tk5 r n5 k5 r5 e5 => ?_)
      refine eend_add gr.le q3 (fun b o _ e => e) ns₁ k5 r5 e5 (fun g6 l6 l6h e6 => ?_)
      exact ⟨r, n5, dedP ps, rfl, e6, by rw [← dedW_eq], fun q hq => (rds q (dedP_pre' _ q hq)).le (gr.view.trans l6)⟩
    · have c3 := c2.grow gr₃
      have F := c3.F
      have N : News base L h3 [] := News.nil
      have hmap : wss.map (fun ws => dedW (ws ++ ws.reverse)) = wss.map fun ws => dedW ws := List.map_congr_left hlaw
      rw [hmap] at hD
      (repeat' (first | (k_unfold; (try dsimp only)) | ((((((fail_if_success (with_reducible show wpAny _ _ (exec (Stmt.While _ _ _ _) _) _ _ _)); (fail_if_success (with_reducible show wpAny _ _ (exec (Stmt.For _ _ _ _ _) _) _ _ _)); (fail_if_success (with_reducible show wpAny _ _ (call (Value.ref _) _ _) _ _ _)); (fail_if_success (with_reducible show wpAny _ _ (eval (Expr.ListComp _ _ _ _) _) _ _ _)))); (fail_if_success (with_reducible show wpAny _ _ (call (Value.builtin "sorted") _ _) _ _ _)); (fail_if_success (with_reducible show wpAny _ _ (compareOp _ _ _) _ _ _)); (fail_if_success (with_reducible show wpAny _ _ (execs (Stmt.If _ _ _ _ :: _) _) _ _ _)); (fail_if_success (with_reducible show wpAny _ _ (execs (Stmt.Assign _ _ _ :: _) _) _ _ _)))); (first | (k_here; (with_reducible show wpAny _ _ (eval (Expr.Name _ _) (compEnvC _ _ _ _)) _ _ _); (with_reducible rename Fr _ _ _ _ => kF); k_dflt (refine' cname kF ?k2 ?_ ?k3 ?k4; (case k3 => exact rfl); (case k4 => exact rfl); (case k2 => ((repeat' (first | (with_reducible assumption) | exact if_pos rfl | refine Eq.trans (if_neg (by decide)) ?_ | exact rfl)); done)); k_whole)) | (k_here; (with_reducible show wpAny _ _ (eval (Expr.Name _ _) (envOf _ _ _ _ _)) _ _ _); (with_reducible rename Fr _ _ _ _ => kF); k_dflt (refine' ld kF ?k2 ?_; (case k2 => ((repeat' (first | (with_reducible assumption) | exact if_pos rfl | refine Eq.trans (if_neg (by decide)) ?_ | exact rfl)); done)); k_whole)) | ((with_reducible show wpAny _ _ (binaryOp Operator.Add (Value.ref _) (Value.ref _)) _ _ _); k_here; k_dflt (refine' add_A ?k1 ?k2 ?k3 ?k4 ?z ?_; (case k1 => k_asm); (case k2 => k_asm); (case k3 => is_list); (case k4 => is_list); (case z => (rw [krv_pick]; simp only [List.size_toArray, List.length_reverse, List.length_map, Array.length_toList]; rw [sizeLine_eq]; omega)); k_whole); intro D4 h4 F' N' lt4) | walk1)) | ((((((fail_if_success (with_reducible show wpAny _ _ (exec (Stmt.While _ _ _ _) _) _ _ _)); (fail_if_success (with_reducible show wpAny _ _ (exec (Stmt.For _ _ _ _ _) _) _ _ _)); (fail_if_success (with_reducible show wpAny _ _ (call (Value.ref _) _ _) _ _ _)); (fail_if_success (with_reducible show wpAny _ _ (eval (Expr.ListComp _ _ _ _) _) _ _ _)))); (fail_if_success (with_reducible show wpAny _ _ (call (Value.builtin "sorted") _ _) _ _ _)); (fail_if_success (with_reducible show wpAny _ _ (compareOp _ _ _) _ _ _)); (fail_if_success (with_reducible show wpAny _ _ (execs (Stmt.If _ _ _ _ :: _) _) _ _ _)); (fail_if_success (with_reducible show wpAny _ _ (execs (Stmt.Assign _ _ _ :: _) _) _ _ _)))); dsimp only; (((((fail_if_success (with_reducible show wpAny _ _ (exec (Stmt.While _ _ _ _) _) _ _ _)); (fail_if_success (with_reducible show wpAny _ _ (exec (Stmt.For _ _ _ _ _) _) _ _ _)); (fail_if_success (with_reducible show wpAny _ _ (call (Value.ref _) _ _) _ _ _)); (fail_if_success (with_reducible show wpAny _ _ (eval (Expr.ListComp _ _ _ _) _) _ _ _)))); (fail_if_success (with_reducible show wpAny _ _ (call (Value.builtin "sorted") _ _) _ _ _)); (fail_if_success (with_reducible show wpAny _ _ (compareOp _ _ _) _ _ _)); (fail_if_success (with_reducible show wpAny _ _ (execs (Stmt.If _ _ _ _ :: _) _) _ _ _)); (fail_if_success (with_reducible show wpAny _ _ (execs (Stmt.Assign _ _ _ :: _) _) _ _ _)))); (first | (k_here; (with_reducible show wpAny _ _ (eval (Expr.Name _ _) (compEnvC _ _ _ _)) _ _ _); (with_reducible rename Fr _ _ _ _ => kF); k_dflt (refine' cname kF ?k2 ?_ ?k3 ?k4; (case k3 => exact rfl); (case k4 => exact rfl); (case k2 => ((repeat' (first | (with_reducible assumption) | exact if_pos rfl | refine Eq.trans (if_neg (by decide)) ?_ | exact rfl)); done)); k_whole)) | (k_here; (with_reducible show wpAny _ _ (eval (Expr.Name _ _) (envOf _ _ _ _ _)) _ _ _); (with_reducible rename Fr _ _ _ _ => kF); k_dflt (refine' ld kF ?k2 ?_; (case k2 => ((repeat' (first | (with_reducible assumption) | exact if_pos rfl | refine Eq.trans (if_neg (by decide)) ?_ | exact rfl)); done)); k_whole)) | ((with_reducible show wpAny _ _ (binaryOp Operator.Add (Value.ref _) (Value.ref _)) _ _ _); k_here; k_dflt (refine' add_A ?k1 ?k2 ?k3 ?k4 ?z ?_; (case k1 => k_asm); (case k2 => k_asm); (case k3 => is_list); (case k4 => is_list); (case z => (rw [krv_pick]; simp only [List.size_toArray, List.length_reverse, List.length_map, Array.length_toList]; rw [sizeLine_eq]; omega)); k_whole); intro D4 h4 F' N' lt4) | walk1)) | fail "no step"))
      refine ne_rows ((RowsL.rd (SeqOf.le RowL.mono _ _ _ _ gr₃.view hD)).le c3.gh) ((RowsL.rd hD2).le c3.gh) (by show 4 + 3 + 6 < cLine; decide) ?_
      walk1
      rw [if_neg Bool.false_ne_true]
      refine wpAny_execs_nil ?_
      dsimp only
      clear hD hD2 hr hr2 hlaw hmap
      dsimp only [List.drop] at k
      with_reducible exact k _ _ _ c3 (gr₂.view.trans gr₃.view)
end

section
open PySem PySem.W PyProof.Rows PySem.Calls PyProof.Rows.LCg
section
variable {prog : Program} {w : World} {A : Around} {E : Value → Shared → Prop} {s : Shared}
theorem comp_pairsU {elt iter : Expr} {j k : Str} {p1 p2 tp : Pos} {x1} {scope : Scope} {cl : List (Str × Addr)} {pos pos2 : Pos} {env : Env} {use : Option (Value → Sem Unit)} {ax Lx : Addr} {oL : Obj} {items : Array Value} {Q : Value → Shared → Prop}
    (J : Nat → List Value → Prop) (hh : A.handled = none) (hclos : closureFor scope env = pure cl) (hcell : ∀ y ∈ scope.names, y.2 ≠ .cell) (hkind : scope.kind = .function)
    (hnames : ∀ y ∈ scope.names, y.2 = .local → scope.names.lookup y.1 = some .local) (hj : scope.names.lookup j = some .local) (hk : scope.names.lookup k = some .local)
    (src : ∀ Q' : Value → Shared → Prop, Q' (.ref ax) s → wpAny (model prog w) A (eval iter env) Q' E s) (hl : s.heap.IsList ax items) (hsz : items.size ≤ sizeLine)
    (hLx : s.heap.get? Lx = some oL) (hLax : Lx ≠ ax)
    (hpair : ∀ (i : Nat) (v : Value), items[i]? = some v → ∃ (ap : Addr) (x y : Value), v = Value.ref ap ∧ ap ≠ Lx ∧ s.heap.IsList ap #[x, y]) (h0 : J 0 [])
    (step : ∀ i ap x y ys h tk C m, items[i]? = some (.ref ap) → s.heap.IsList ap #[x, y] → J i ys → s.heap.objs.size ≤ C → (∀ b o, b ≠ Lx → s.heap.get? b = some o → h.get? b = some o) → (∃ sl, h.get? Lx = some { oL with slots := sl }) → h.Ns C m → m j = some x → m k = some y →
        wpAny (model prog w) A (eval elt (compEnvC scope cl C env)) (fun y s₄ => PEnd s h C Lx oL (J (i + 1) (ys ++ [y])) s₄) Nope { s with heap := h, toks := tk })
    (hjk : j ≠ k)
    (fin : ∀ D C h tk ys m', J items.size ys → h.get? D = some (lst ys) → (∀ b o, b ≠ Lx → s.heap.get? b = some o → h.get? b = some o) → (∃ sl, h.get? Lx = some { oL with slots := sl }) → s.heap.get? D = none → s.heap.get? C = none → C ≠ D → h.Ns C m' → compPost (model prog w) A E use Q (.ref D) C (.ok .next) { s with heap := h, toks := tk })
    (hs : ∀ x, foldedSetIterable iter env x = pure x := by intro _; rfl) :
    wpAny (model prog w) A (comprehension (.ListComp elt [⟨.Tuple [.Name j p1, .Name k p2] x1 tp, iter, [], 0⟩] scope pos) scope env pos2 (newList []) false (eval iter env) use) Q E s := by
  refine wpAny_comprehension_free (use := use) rfl hs hclos hkind hnames (src _ (wpAny_pyIter_list hl ?_))
  have hlt : ax < s.heap.objs.size := by obtain ⟨_, e, _⟩ := hl; exact Heap.lt_size e
  have hLlt : Lx < s.heap.objs.size := Heap.lt_size hLx
  have W := Walks.list (prog := prog) (w := w) (A := A) hh s.heap.objs.size ax (Nat.ne_of_lt hlt) items
  refine wpAny_newObj_type (wpAny_newFunctionEnv hcell (by intro y hy; simp at hy) (fun h₁ hns₁ hsb₁ => ?_) hkind)
  dsimp only at hns₁ hsb₁ ⊢
  generalize hH1 : s.heap.push { cls := .type "list_iterator", data := .fields #[.ref ax, .int 0 0] } = H1 at hns₁ hsb₁ ⊢
  generalize hH2 : H1.push { cls := .type "list", dict := none, data := .seq ([] : List Value).toArray } = H2 at hns₁ hsb₁ ⊢
  have hD : H1.objs.size = s.heap.objs.size + 1 := by rw [← hH1, Heap.size_push]
  have hC : H2.objs.size = s.heap.objs.size + 1 + 1 := by rw [← hH2, Heap.size_push, hD]
  have p1' : Le s.heap H1 := fun b o e => hH1 ▸ Heap.get?_push_of_some _ e
  have p2' : Le H1 H2 := fun b o e => hH2 ▸ Heap.get?_push_of_some _ e
  have p3 : ∀ b o, H2.get? b = some o → h₁.get? b = some o := fun b o e => hsb₁.extBut b o (Nat.ne_of_lt (Heap.lt_size e)) (Heap.get?_push_of_some _ e)
  have old : Le s.heap h₁ := fun b o e => p3 b o (p2' b o (p1' b o e))
  have gI : H1.get? s.heap.objs.size = some { cls := .type "list_iterator", data := .fields #[.ref ax, .int 0 0] } := hH1 ▸ Heap.get?_push_size _ rfl
  have gD : H2.get? H1.objs.size = some (lst []) := hH2 ▸ Heap.get?_push_size _ rfl
  generalize hI : s.heap.objs.size = I at *
  generalize hDD : H1.objs.size = D at *
  generalize hCC : H2.objs.size = C at *
  have hacc : h₁.get? D = some (lst []) := p3 _ _ gD
  have hst₁ : h₁.IsListIter I ax 0 ∧ h₁.IsList ax items := ⟨⟨_, p3 _ _ (p2' _ _ gI), rfl, rfl⟩, hl.at fun o e => old _ o e⟩
  have nLI : Lx ≠ I := Nat.ne_of_lt hLlt
  have below : ∀ b, b < I → b ≠ I ∧ b ≠ D ∧ b ≠ C := fun b this => by
    rw [hC, hD]
    exact ⟨Nat.ne_of_lt this, Nat.ne_of_lt (Nat.lt_succ_of_lt this), Nat.ne_of_lt (Nat.lt_succ_of_lt (Nat.lt_succ_of_lt this))⟩
  have nLD : Lx ≠ D := (below _ hLlt).2.1
  have nLC : Lx ≠ C := (below _ hLlt).2.2
  have nID : I ≠ D := by rw [hD]; exact Nat.ne_of_lt (Nat.lt_succ_self _)
  have nIC : I ≠ C := by rw [hC]; exact Nat.ne_of_lt (Nat.lt_succ_of_lt (Nat.lt_succ_self _))
  have nDC : D ≠ C := by rw [hC, hD]; exact Nat.ne_of_lt (Nat.lt_succ_self _)
  have bel : ∀ b o, s.heap.get? b = some o → b ≠ I ∧ b ≠ D ∧ b ≠ C := fun b o e => below b (hI ▸ Heap.lt_size e)
  have loop : ∀ s₃ : Shared, s₃ = { s with heap := h₁, toks := s.toks + ([] : List (Str × Value)).length } →
      codeAny (model prog w) A (.compLoop (.ListComp elt [⟨.Tuple [.Name j p1, .Name k p2] x1 tp, iter, [], 0⟩] scope pos) 0 (.ref I) (.ref D) (compEnvC scope cl C env))
        (compPost (model prog w) A E use Q (.ref D) C) s₃ := by
    rintro s₃ rfl
    refine compLoop_gen
      (fun n s' => ∃ h' tk i ys m', s' = { s with heap := h', toks := tk } ∧ i ≤ items.size ∧ n = items.size + 1 - i ∧ ys.length ≤ i ∧ (h'.IsListIter I ax i ∧ h'.IsList ax items) ∧ h'.Ns C m' ∧ (∀ b o, b ≠ Lx → s.heap.get? b = some o → h'.get? b = some o) ∧ (∃ sl, h'.get? Lx = some { oL with slots := sl }) ∧ h'.get? D = some (lst ys) ∧ J i ys) ?_ (items.size + 1)
      ⟨h₁, _, 0, [], _, rfl, Nat.zero_le _, rfl, Nat.zero_le _, hst₁, hns₁, fun b o _ e => old b o e, ⟨oL.slots, old _ _ hLx⟩, hacc, h0⟩
    rintro n s' ⟨h', tk, i, ys, m', rfl, hi, rfl, hyl, hst', ns', old', ⟨sl', hL'⟩, hD', hJ⟩
    by_cases hlt' : i < items.size
    · refine W.item i _ _ _ hlt' hst' fun v h₂ tk₂ hPv hst₂ hk₂ => ?_
      have kk : ∀ b o, b ≠ I → h'.get? b = some o → h₂.get? b = some o := fun b o q e => hk₂ b o (by simpa using q) e
      obtain ⟨ap, x, y, rfl, hapL, hap⟩ := hpair i v hPv
      refine wpAny_letOwnedTupleGo_listiter (T := ap) hst₂.1 ?_
      have hap₂ : h₂.IsList ap #[x, y] := hap.at fun o e => kk _ o (bel _ o e).1 (old' _ o hapL e)
      refine assign_pair (s := { s with heap := h₂, toks := tk₂ }) hh hap₂ (ns'.at' fun o e => kk _ o (Ne.symm nIC) e) hkind hj hk fun h₃ tk₃ ns₃ hk₃ => ?_
      refine wpAny_tests_nil ?_
      rw [if_pos rfl]
      have L₃ : h₃.get? Lx = some { oL with slots := sl' } := hk₃ _ _ nLC (kk _ _ nLI hL')
      refine wpAny_mono (step i ap x y ys h₃ tk₃ C _ hPv hap hJ (by rw [hC]; exact Nat.le_trans (Nat.le_succ _) (Nat.le_succ _)) (fun b o q e => hk₃ b o (bel b o e).2.2 (kk b o (bel b o e).1 (old' b o q e))) ⟨sl', L₃⟩ ns₃ (by simp [hjk]) (by simp)) (fun u s₄ q => ?_) fun _ _ x => x
      obtain ⟨h₄, tk₄, m₄, rfl, ns₄, k₄, ⟨sl₄, L₄⟩, hJ₄⟩ := q
      have hD₄ : h₄.get? D = some (lst ys) := k₄ _ _ nDC (Ne.symm nLD) (hk₃ _ _ nDC (kk _ _ (Ne.symm nID) hD'))
      refine append_at (hsz := by show ys.toArray.size ≤ sizeLine; rw [List.size_toArray]; exact Nat.le_trans hyl (Nat.le_trans hi hsz)) hD₄ fun h₅ hs₅ hD₅ => ?_
      have all : ∀ b o, b ≠ C → b ≠ D → b ≠ Lx → h₂.get? b = some o → h₅.get? b = some o := fun b o q1 q2 q3 e => hs₅.extBut b o q2 (k₄ b o q1 q3 (hk₃ b o q1 e))
      refine ⟨items.size + 1 - (i + 1), by omega, h₅, tk₄, i + 1, ys ++ [u], m₄, rfl, hlt', rfl, by simp; omega, ⟨?_, ?_⟩, ns₄.sameBut hs₅ (Ne.symm nDC), fun b o q e => all b o (bel b o e).2.2 (bel b o e).2.1 q (kk b o (bel b o e).1 (old' b o q e)), ⟨sl₄, hs₅.extBut _ _ nLD L₄⟩, hD₅.trans (congrArg some (lst_snoc ys u)), hJ₄⟩
      · obtain ⟨oI, e1, e2⟩ := hst₂.1
        exact ⟨oI, all _ _ nIC nID (Ne.symm nLI) e1, e2⟩
      · exact hst₂.2.at fun o e => all _ o (below _ hlt).2.2 (below _ hlt).2.1 (Ne.symm hLax) e
    · obtain rfl : i = items.size := Nat.le_antisymm hi (Nat.not_lt.mp hlt')
      refine W.done _ _ _ hst' fun h₂ tk₂ hk₂ => ?_
      have kk : ∀ b o, b ≠ I → h'.get? b = some o → h₂.get? b = some o := fun b o q e => hk₂ b o (by simpa using q) e
      exact fin D C h₂ tk₂ ys m' hJ (kk _ _ (Ne.symm nID) hD') (fun b o q e => kk b o (bel b o e).1 (old' b o q e)) ⟨sl', kk _ _ nLI hL'⟩ (Heap.get?_none_of_le (by rw [hI, hD]; exact Nat.le_succ _)) (Heap.get?_none_of_le (by rw [hI, hC]; exact Nat.le_trans (Nat.le_succ _) (Nat.le_succ _))) (Ne.symm nDC) (ns'.at' fun o e => kk _ o (Ne.symm nIC) e)
  exact codeAny_compStart_list (loop _ rfl) (W.self 0 _ _ _ hst₁ (loop _ rfl))

theorem LC.store {base g : Heap} {L : Addr} {o1 o2 : Obj} {m : Str → Option Value} {env : Env} {x : Str} {v : Value} {Q : Unit → Shared → Prop} (c : LC base g L o1 o2 s.heap m) (hL : env.locals = L) (hx : env.kindOf x = some .local) (hp : (env.scope.kind == .class || (env.scope.kind == .module && env.locals != env.globals)) = false)
    (h : ∀ h' tk, LC base g L o1 o2 h' (fun y => if y = x then some v else m y) → Q () { s with heap := h', toks := tk }) : wpAny (model prog w) A (storeName env x v) Q E s := by
  subst hL
  refine wpAny_storeName_local hx c.F.ns (fun h₂ hn₂ hs₂ => ?_) hp
  have kk : ∀ b o, b ≠ env.locals → s.heap.get? b = some o → h₂.get? b = some o := fun b o q e => hs₂.extBut b o q e
  refine h h₂ _ ⟨⟨hn₂, fun b o e => kk b o (fun q => ?_) (c.F.keep b o e), c.F.above⟩, kk _ _ ne2 c.c1, kk _ _ ne1 c.c2, c.bg, fun b o e => kk b o (fun q => ?_) (c.gh b o e), c.oL, c.og1, c.og2⟩
  · rw [q, (LC.base_none c.F).1] at e; cases e
  · rw [q, c.oL] at e; cases e

noncomputable def PairR (g : Heap) (v : Value) (p : Nat × Nat) : Prop := ∃ ap n t u, v = .ref ap ∧ g.get? ap = some (W.listOf #[.int (p.1 : Int) t, .int (p.2 : Int) u] n)
theorem PairR.mono : Mono PairR := by
  rintro g g' v p l ⟨ap, n, t, u, e1, e2⟩
  exact ⟨ap, n, t, u, e1, l _ _ e2⟩

/-- a comprehension over pairs, its element a truth value; the frame's slots may change -/
theorem pairs_core {elt iter : Expr} {j k : Str} {p1 p2 tp : Pos} {x1} {scope : Scope} {cl : List (Str × Addr)} {pos pos2 : Pos} {env : Env} {use : Option (Value → Sem Unit)} {base g : Heap} {L : Addr} {o1 o2 : Obj} {m : Str → Option Value} {vp : Value} {prs : List (Nat × Nat)} {Q : Value → Shared → Prop}
    (f : Nat × Nat → Bool) (hh : A.handled = none) (hclos : closureFor scope env = pure cl) (hcell : ∀ y ∈ scope.names, y.2 ≠ .cell) (hkind : scope.kind = .function)
    (hnames : ∀ y ∈ scope.names, y.2 = .local → scope.names.lookup y.1 = some .local) (hj : scope.names.lookup j = some .local) (hk : scope.names.lookup k = some .local)
    (src : ∀ Q' : Value → Shared → Prop, Q' vp s → wpAny (model prog w) A (eval iter env) Q' E s) (c : LC base g L o1 o2 s.heap m) (hr : SeqOf PairR g vp prs) (hsz : prs.length ≤ sizeLine) (hjk : j ≠ k)
    (step : ∀ a b t u h tk C oL m', (a, b) ∈ prs → s.heap.objs.size ≤ C → s.heap.get? L = some oL → (∀ b o, b ≠ L → s.heap.get? b = some o → h.get? b = some o) → (∃ sl, h.get? L = some { oL with slots := sl }) → h.Ns C m' → m' j = some (.int (a : Int) t) → m' k = some (.int (b : Int) u) →
        wpAny (model prog w) A (eval elt (compEnvC scope cl C env)) (fun y s₄ => PEnd s h C L oL (y = .bool (f (a, b))) s₄) Nope { s with heap := h, toks := tk })
    (fin : ∀ D C h tk oL m', h.get? D = some (lst ((prs.map f).map Value.bool)) → s.heap.get? L = some oL → (∀ b o, b ≠ L → s.heap.get? b = some o → h.get? b = some o) → (∃ sl, h.get? L = some { oL with slots := sl }) → s.heap.get? D = none → s.heap.get? C = none → C ≠ D → h.Ns C m' → compPost (model prog w) A E use Q (.ref D) C (.ok .next) { s with heap := h, toks := tk })
    (hs : ∀ x, foldedSetIterable iter env x = pure x := by intro _; rfl) :
    wpAny (model prog w) A (comprehension (.ListComp elt [⟨.Tuple [.Name j p1, .Name k p2] x1 tp, iter, [], 0⟩] scope pos) scope env pos2 (newList []) false (eval iter env) use) Q E s := by
  obtain ⟨a, n, us, rfl, e2, e3, e4⟩ := hr
  obtain ⟨oL, es, ep, eL, rL⟩ := id c.F.ns
  have hLa : L ≠ a := fun q => by rw [← q, c.oL] at e2; cases e2
  refine comp_pairsU (ax := a) (Lx := L) (oL := oL) (items := us.toArray) (fun i ys => ys = ((prs.take i).map f).map Value.bool) hh hclos hcell hkind hnames hj hk src (PySem.IsL.isList (n := n) (c.gh _ _ e2)) (by simpa [e3] using hsz) eL hLa (fun i v hv => ?_) rfl (fun i ap x y ys h tk C m' hv hl hJ hC old sl ns hx hy => ?_) hjk (fun D C h tk ys m' hJ hD old sl hDn hCn hCD ns => ?_) hs
  · have hv' : us[i]? = some v := by simpa using hv
    have hi : i < prs.length := by
      rw [← e3]
      rcases Nat.lt_or_ge i us.length with q | q
      · exact q
      · rw [List.getElem?_eq_none q] at hv'; cases hv'
    obtain ⟨ap, n', t, u, rfl, ea⟩ := e4 i v prs[i] hv' (by simp [hi])
    exact ⟨ap, _, _, rfl, (fun q => by rw [q, c.oL] at ea; cases ea), PySem.IsL.isList (n := n') (c.gh _ _ ea)⟩
  · have hv' : us[i]? = some (.ref ap) := by simpa using hv
    have hi : i < prs.length := by
      rw [← e3]
      rcases Nat.lt_or_ge i us.length with q | q
      · exact q
      · rw [List.getElem?_eq_none q] at hv'; cases hv'
    obtain ⟨ap', n', t, u, e5, ea⟩ := e4 i _ prs[i] hv' (by simp [hi])
    cases e5
    obtain ⟨o, eo, co, no, dO⟩ := hl
    rw [c.gh _ _ ea] at eo
    cases eo
    cases dO
    refine wpAny_mono (step prs[i].1 prs[i].2 t u h tk C oL m' (List.getElem_mem hi) hC eL old sl ns hx hy) (fun y s₄ q => ?_) fun _ _ x => x
    obtain ⟨h', tk', m₄, q1, q2, q3, q4, rfl⟩ := q
    refine ⟨h', tk', m₄, q1, q2, q3, q4, ?_⟩
    rw [hJ, List.take_succ_eq_append_getElem hi, List.map_append, List.map_append]; rfl
  · have e0 : prs.take us.toArray.size = prs := by simp [e3]
    rw [hJ, e0] at hD
    exact fin D C h tk oL m' hD eL old sl hDn hCn hCD ns
end
end

section
open PySem PySem.W PyProof.Rows PySem.Calls PySem.SeqAt
noncomputable def prs : List (Nat × Nat) := [(0, 2), (0, 3), (1, 2), (1, 3), (2, 0), (3, 0), (2, 1), (3, 1)]
theorem law_7 {w : World} {s : Shared} {Q : Flow → Shared → Prop} {base g : Heap} {mean : ExcName → Option Value} {mg mb : Str → Option Value} {fa L : Addr} {cv : Value} {o1 o2 : Obj} {m : Str → Option Value}
    {name qual : Str} {params : Arguments} {body : List Stmt} {scope : Scope} {dV kV doc pm cdv ct oc : Value} {an od : Option Addr} {osl : Array (Option Value)}
    (X : (cap.heap_1 w.params).In base) (T : Top hd.view_39 (looseW hd.view_39 []) mean mg mb base)
    (ho : (cap.heap_1 w.params).lookup 200 = some ⟨oc, od, .func (fnOf name qual params body scope dV kV doc pm an cdv ct), osl⟩)
    (c : LC base g L o1 o2 s.heap m) (d1 : ∃ v, o1.data = .cell v) (d2 : ∃ v, o2.data = .cell v)
    (k : ∀ h' tk' g' v, LC base g' L o1 o2 h' (fun y => if y = Str.ofString "pairs" then some v else m y) → Le g g' → SeqOf PairR g' v prs → wpAny (model Challenge.rw_ny0132_01.row.prog w) (callerA.deeper (envOfC qual scope L fa cv)) (execs (body.drop 8) (envOfC qual scope L fa cv)) Q (fun _ _ => False) { s with heap := h', toks := tk' }) :
    wpAny (model Challenge.rw_ny0132_01.row.prog w) (callerA.deeper (envOfC qual scope L fa cv)) (execs (body.drop 7) (envOfC qual scope L fa cv)) Q (fun _ _ => False) s := by
  have am : Amb w base := ⟨X, mean, mg, mb, T⟩
  revert X; k_fill; intro X
  have key : ∀ o', (cap.heap_1 w.params).lookup 200 = some o' → o' = ⟨oc, od, .func (fnOf name qual params body scope dV kV doc pm an cdv ct), osl⟩ := fun o' h => Option.some.inj (h.symm.trans ho)
  obtain ⟨rfl, rfl, rfl⟩ := fn_inj (key _ (by k_is))
  clear key ho
  show wpAny _ _ _ _ _ _
  dsimp only [List.drop]
  dsimp only [List.drop] at k
  refine wpAny_execs_cons ?_
  refine wpAny_Assign_Name ?_
  obtain ⟨rest, N, hv, hrest⟩ := c.ledger
  have F := c.F
  (repeat' (first | (k_unfold; (try dsimp only)) | ((((((fail_if_success (with_reducible show wpAny _ _ (exec (Stmt.While _ _ _ _) _) _ _ _)); (fail_if_success (with_reducible show wpAny _ _ (exec (Stmt.For _ _ _ _ _) _) _ _ _)); (fail_if_success (with_reducible show wpAny _ _ (call (Value.ref _) _ _) _ _ _)); (fail_if_success (with_reducible show wpAny _ _ (eval (Expr.ListComp _ _ _ _) _) _ _ _)))); (fail_if_success (with_reducible show wpAny _ _ (storeName _ _ _) _ _ _)))); (first | (k_here; (with_reducible show wpAny _ _ (eval (Expr.Name _ _) (compEnvC _ _ _ _)) _ _ _); (with_reducible rename Fr _ _ _ _ => kF); k_dflt (refine' cname kF ?k2 ?_ ?k3 ?k4; (case k3 => exact rfl); (case k4 => exact rfl); (case k2 => ((repeat' (first | (with_reducible assumption) | exact if_pos rfl | refine Eq.trans (if_neg (by decide)) ?_ | exact rfl)); done)); k_whole)) | (k_here; (with_reducible show wpAny _ _ (eval (Expr.Name _ _) (envOf _ _ _ _ _)) _ _ _); (with_reducible rename Fr _ _ _ _ => kF); k_dflt (refine' ld kF ?k2 ?_; (case k2 => ((repeat' (first | (with_reducible assumption) | exact if_pos rfl | refine Eq.trans (if_neg (by decide)) ?_ | exact rfl)); done)); k_whole)) | walk1)) | ((((((fail_if_success (with_reducible show wpAny _ _ (exec (Stmt.While _ _ _ _) _) _ _ _)); (fail_if_success (with_reducible show wpAny _ _ (exec (Stmt.For _ _ _ _ _) _) _ _ _)); (fail_if_success (with_reducible show wpAny _ _ (call (Value.ref _) _ _) _ _ _)); (fail_if_success (with_reducible show wpAny _ _ (eval (Expr.ListComp _ _ _ _) _) _ _ _)))); (fail_if_success (with_reducible show wpAny _ _ (storeName _ _ _) _ _ _)))); dsimp only; (((((fail_if_success (with_reducible show wpAny _ _ (exec (Stmt.While _ _ _ _) _) _ _ _)); (fail_if_success (with_reducible show wpAny _ _ (exec (Stmt.For _ _ _ _ _) _) _ _ _)); (fail_if_success (with_reducible show wpAny _ _ (call (Value.ref _) _ _) _ _ _)); (fail_if_success (with_reducible show wpAny _ _ (eval (Expr.ListComp _ _ _ _) _) _ _ _)))); (fail_if_success (with_reducible show wpAny _ _ (storeName _ _ _) _ _ _)))); (first | (k_here; (with_reducible show wpAny _ _ (eval (Expr.Name _ _) (compEnvC _ _ _ _)) _ _ _); (with_reducible rename Fr _ _ _ _ => kF); k_dflt (refine' cname kF ?k2 ?_ ?k3 ?k4; (case k3 => exact rfl); (case k4 => exact rfl); (case k2 => ((repeat' (first | (with_reducible assumption) | exact if_pos rfl | refine Eq.trans (if_neg (by decide)) ?_ | exact rfl)); done)); k_whole)) | (k_here; (with_reducible show wpAny _ _ (eval (Expr.Name _ _) (envOf _ _ _ _ _)) _ _ _); (with_reducible rename Fr _ _ _ _ => kF); k_dflt (refine' ld kF ?k2 ?_; (case k2 => ((repeat' (first | (with_reducible assumption) | exact if_pos rfl | refine Eq.trans (if_neg (by decide)) ?_ | exact rfl)); done)); k_whole)) | walk1)) | fail "no step"))
  rename Fr _ _ _ _ => F'
  rename News _ _ _ _ => N'
  have c' := c.of hv F' N' (by repeat (first | exact .head _ | refine List.Mem.tail _ ?_)) (by repeat (first | exact .head _ | refine List.Mem.tail _ ?_)) (fun p hp => by repeat (first | exact hp | refine List.Mem.tail _ ?_))
  obtain ⟨g', cg, lg, hall⟩ := c'.all
  have isnew : ∀ (a : Addr) (its : Array Value) (n : Nat), (a, W.listOf its n) ∈ _ → g'.get? a = some (W.listOf its n) := fun a its n hm => by
    have z := N' _ hm
    rw [hall a z.2.1 (fun q => ?_) (fun q => ?_)]
    · exact z.1
    · have z1 : _ = _ := z.1
      dsimp only at z1
      rw [q, c'.c2] at z1
      obtain ⟨v, dv⟩ := d2
      cases z1; cases dv
    · have z1 : _ = _ := z.1
      dsimp only at z1
      rw [q, c'.c1] at z1
      obtain ⟨v, dv⟩ := d1
      cases z1; cases dv
  refine LC.store cg rfl rfl rfl fun h4 tk4 c4 => ?_
  dsimp only
  refine k _ _ _ _ c4 lg ⟨_, 0, [_, _, _, _, _, _, _, _], rfl, isnew _ _ _ (.head _), rfl, fun i u x h1 h2 => ?_⟩
  match i, h1, h2 with
  | 0, h1, h2 => cases h1; cases h2; exact ⟨_, _, _, _, rfl, isnew _ _ _ (by repeat (first | exact .head _ | refine List.Mem.tail _ ?_))⟩
  | 1, h1, h2 => cases h1; cases h2; exact ⟨_, _, _, _, rfl, isnew _ _ _ (by repeat (first | exact .head _ | refine List.Mem.tail _ ?_))⟩
  | 2, h1, h2 => cases h1; cases h2; exact ⟨_, _, _, _, rfl, isnew _ _ _ (by repeat (first | exact .head _ | refine List.Mem.tail _ ?_))⟩
  | 3, h1, h2 => cases h1; cases h2; exact ⟨_, _, _, _, rfl, isnew _ _ _ (by repeat (first | exact .head _ | refine List.Mem.tail _ ?_))⟩
  | 4, h1, h2 => cases h1; cases h2; exact ⟨_, _, _, _, rfl, isnew _ _ _ (by repeat (first | exact .head _ | refine List.Mem.tail _ ?_))⟩
  | 5, h1, h2 => cases h1; cases h2; exact ⟨_, _, _, _, rfl, isnew _ _ _ (by repeat (first | exact .head _ | refine List.Mem.tail _ ?_))⟩
  | 6, h1, h2 => cases h1; cases h2; exact ⟨_, _, _, _, rfl, isnew _ _ _ (by repeat (first | exact .head _ | refine List.Mem.tail _ ?_))⟩
  | 7, h1, h2 => cases h1; cases h2; exact ⟨_, _, _, _, rfl, isnew _ _ _ (by repeat (first | exact .head _ | refine List.Mem.tail _ ?_))⟩
  | i + 8, h1, h2 => simp at h1
end

section
open PySem PySem.W PyProof.Rows PySem.Calls PySem.SeqAt
open PyProof.Rows.LCg
section
variable {prog : Program} {w : World} {A : Around} {E : Value → Shared → Prop} {s : Shared}
theorem LC.slots {base g h h' : Heap} {L : Addr} {o1 o2 oL : Obj} {m : Str → Option Value} (c : LC base g L o1 o2 h m) (eL : h.get? L = some oL) (old : ∀ b o, b ≠ L → h.get? b = some o → h'.get? b = some o) (sl : ∃ sl, h'.get? L = some { oL with slots := sl }) : LC base g L o1 o2 h' m := by
  obtain ⟨sl, e⟩ := sl
  obtain ⟨o, es, ep, eo, r⟩ := c.F.ns
  rw [eL] at eo; cases eo
  refine ⟨⟨⟨_, es, ep, e, r⟩, fun b o e => old b o (fun q => ?_) (c.F.keep b o e), c.F.above⟩, old _ _ ne2 c.c1, old _ _ ne1 c.c2, c.bg, fun b o e => old b o (fun q => ?_) (c.gh b o e), c.oL, c.og1, c.og2⟩
  · rw [q, (LC.base_none c.F).1] at e; cases e
  · rw [q, c.oL] at e; cases e
theorem sub_none {h g : Heap} {b : Addr} (e : g.get? b = none) : (sub h g).get? b = none := by
  unfold sub; rw [vw_get, e]; simp

theorem pairs_assign {elt iter : Expr} {j k y : Str} {p1 p2 tp py : Pos} {x1} {scope : Scope} {cl : List (Str × Addr)} {pos spos : Pos} {env : Env} {base g : Heap} {L : Addr} {o1 o2 : Obj} {m : Str → Option Value} {vp : Value} {prs : List (Nat × Nat)} {Q : Flow → Shared → Prop}
    (f : Nat × Nat → Bool) (hsw : swapsWith (.ListComp elt [⟨.Tuple [.Name j p1, .Name k p2] x1 tp, iter, [], 0⟩] scope pos) (some (.Name y py)) spos.line env = pure true)
    (hLe : env.locals = L) (hy : env.kindOf y = some .local) (hp : (env.scope.kind == .class || (env.scope.kind == .module && env.locals != env.globals)) = false)
    (hh : A.handled = none) (hclos : closureFor scope env = pure cl) (hcell : ∀ y ∈ scope.names, y.2 ≠ .cell) (hkind : scope.kind = .function)
    (hnames : ∀ y ∈ scope.names, y.2 = .local → scope.names.lookup y.1 = some .local) (hj : scope.names.lookup j = some .local) (hk : scope.names.lookup k = some .local)
    (src : ∀ Q' : Value → Shared → Prop, Q' vp s → wpAny (model prog w) A (eval iter env) Q' E s) (c : LC base g L o1 o2 s.heap m) (hr : SeqOf PairR g vp prs) (hsz : prs.length ≤ sizeLine) (hjk : j ≠ k)
    (step : ∀ a b t u h tk C oL m', (a, b) ∈ prs → s.heap.objs.size ≤ C → s.heap.get? L = some oL → (∀ b o, b ≠ L → s.heap.get? b = some o → h.get? b = some o) → (∃ sl, h.get? L = some { oL with slots := sl }) → h.Ns C m' → m' j = some (.int (a : Int) t) → m' k = some (.int (b : Int) u) →
        wpAny (model prog w) A (eval elt (compEnvC scope cl C env)) (fun y s₄ => PEnd s h C L oL (y = .bool (f (a, b))) s₄) Nope { s with heap := h, toks := tk })
    (fin : ∀ D h tk g', LC base g' L o1 o2 h (fun z => if z = y then some (.ref D) else m z) → Le g g' → g'.get? D = some (lst ((prs.map f).map Value.bool)) → Q .next { s with heap := h, toks := tk })
    (hs : ∀ x, foldedSetIterable iter env x = pure x := by intro _; rfl) :
    wpAny (model prog w) A (exec (.Assign [.Name y py] (.ListComp elt [⟨.Tuple [.Name j p1, .Name k p2] x1 tp, iter, [], 0⟩] scope pos) spos) env) Q E s := by
  rw [exec_Assign_Name_used _ _ _ _ hsw]
  refine wpAny_bind (wpAny_standAt (wpAny_bind ?_))
  show wpAny _ A (do let _ ← comprehension (.ListComp elt [⟨.Tuple [.Name j p1, .Name k p2] x1 tp, iter, [], 0⟩] scope pos) scope env _ (newList []) false (eval iter env) (some (assign (.Name y py) env))) _ _ s
  refine wpAny_bind (wpAny_mono (pairs_core (use := some (assign (.Name y py) env)) (Q := fun _ s' => Q .next s') f hh hclos hcell hkind hnames hj hk src c hr hsz hjk step (fun D C h tk oL m' hD eL old sl hDn hCn hCD ns => ?_) hs) (fun _ s' hq => wpAny_pure (wpAny_pure hq)) fun _ _ e => e)
  have c' := c.slots eL old sl
  subst hLe
  have nCL : C ≠ env.locals := fun q => by rw [q] at hCn; rw [hCn] at eL; cases eL
  have nDL : D ≠ env.locals := fun q => by rw [q] at hDn; rw [hDn] at eL; cases eL
  show wpAny _ A (assign (.Name y py) env (.ref D)) _ _ _
  refine wpAny_assign_Name (wpAny_storeName_local hy c'.F.ns (fun h₂ hn₂ hs₂ => ?_) hp)
  refine ⟨m', ns.sameBut hs₂ nCL, fun h₃ hs₃ => ?_⟩
  have kk : ∀ b o, b ≠ env.locals → b ≠ C → h.get? b = some o → h₃.get? b = some o := fun b o q1 q2 e => hs₃.extBut b o q2 (hs₂.extBut b o q1 e)
  have nC : ∀ b o, s.heap.get? b = some o → b ≠ C := fun b o e q => by rw [q, hCn] at e; cases e
  have c3 : LC base g env.locals o1 o2 h₃ (fun z => if z = y then some (.ref D) else m z) := by
    refine ⟨⟨hn₂.sameBut hs₃ (Ne.symm nCL), fun b o e => kk b o (fun q => ?_) (nC b o (c.F.keep b o e)) (c'.F.keep b o e), c.F.above⟩, kk _ _ ne2 (nC _ _ c.c1) c'.c1, kk _ _ ne1 (nC _ _ c.c2) c'.c2, c.bg, fun b o e => kk b o (fun q => ?_) (nC b o (c.gh b o e)) (c'.gh b o e), c.oL, c.og1, c.og2⟩
    · rw [q, (LC.base_none c.F).1] at e; cases e
    · rw [q, c.oL] at e; cases e
  obtain ⟨g', cg, lg, hall⟩ := c3.all
  refine fin D h₃ _ g' cg lg ?_
  rw [hall D nDL (fun q => ?_) (fun q => ?_)]
  · exact kk _ _ nDL (Ne.symm hCD) hD
  · rw [q, c.c2] at hDn; cases hDn
  · rw [q, c.c1] at hDn; cases hDn

theorem pairs_eval {elt iter : Expr} {j k : Str} {p1 p2 tp : Pos} {x1} {scope : Scope} {cl : List (Str × Addr)} {pos : Pos} {env : Env} {base g : Heap} {L : Addr} {o1 o2 : Obj} {m : Str → Option Value} {vp : Value} {prs : List (Nat × Nat)} {Q : Value → Shared → Prop}
    (f : Nat × Nat → Bool) (hh : A.handled = none) (hclos : closureFor scope env = pure cl) (hcell : ∀ y ∈ scope.names, y.2 ≠ .cell) (hkind : scope.kind = .function)
    (hnames : ∀ y ∈ scope.names, y.2 = .local → scope.names.lookup y.1 = some .local) (hj : scope.names.lookup j = some .local) (hk : scope.names.lookup k = some .local)
    (src : ∀ Q' : Value → Shared → Prop, Q' vp s → wpAny (model prog w) A (eval iter env) Q' E s) (c : LC base g L o1 o2 s.heap m) (hr : SeqOf PairR g vp prs) (hsz : prs.length ≤ sizeLine) (hjk : j ≠ k)
    (step : ∀ a b t u h tk C oL m', (a, b) ∈ prs → s.heap.objs.size ≤ C → s.heap.get? L = some oL → (∀ b o, b ≠ L → s.heap.get? b = some o → h.get? b = some o) → (∃ sl, h.get? L = some { oL with slots := sl }) → h.Ns C m' → m' j = some (.int (a : Int) t) → m' k = some (.int (b : Int) u) →
        wpAny (model prog w) A (eval elt (compEnvC scope cl C env)) (fun y s₄ => PEnd s h C L oL (y = .bool (f (a, b))) s₄) Nope { s with heap := h, toks := tk })
    (fin : ∀ D h tk, LC base g L o1 o2 h m → h.get? D = some (lst ((prs.map f).map Value.bool)) → Q (.ref D) { s with heap := h, toks := tk })
    (hs : ∀ x, foldedSetIterable iter env x = pure x := by intro _; rfl) :
    wpAny (model prog w) A (eval (.ListComp elt [⟨.Tuple [.Name j p1, .Name k p2] x1 tp, iter, [], 0⟩] scope pos) env) Q E s := by
  rw [eval_ListComp]
  refine pairs_core (use := none) f hh hclos hcell hkind hnames hj hk src c hr hsz hjk step (fun D C h tk oL m' hD eL old sl hDn hCn hCD ns => ?_) hs
  refine ⟨m', ns, fun h₃ hs₃ => ?_⟩
  have nC : ∀ b o, s.heap.get? b = some o → b ≠ C := fun b o e q => by rw [q, hCn] at e; cases e
  obtain ⟨sl, e⟩ := sl
  exact fin D h₃ tk (c.slots eL (fun b o q e => hs₃.extBut b o (nC b o e) (old b o q e)) ⟨sl, hs₃.extBut _ _ (nC _ _ eL) e⟩) (hs₃.extBut _ _ (Ne.symm hCD) hD)
end
end

section
open PySem PySem.W PyProof.Rows PySem.Calls PySem.SeqAt
open PyProof.Rows.LCg

noncomputable def sameF (wss : List WW) (p : Nat × Nat) : Bool := sortW (dedW (wss.getD p.1 [])) == sortW (dedW (wss.getD p.2 []))

theorem law_8 {w : World} {s : Shared} {Q : Flow → Shared → Prop} {base g : Heap} {mean : ExcName → Option Value} {mg mb : Str → Option Value} {fa L : Addr} {cv : Value} {o1 o2 : Obj} {m : Str → Option Value}
    {name qual : Str} {params : Arguments} {body : List Stmt} {scope : Scope} {dV kV doc pm cdv ct oc : Value} {an od : Option Addr} {osl : Array (Option Value)}
    (X : (cap.heap_1 w.params).In base) (T : Top hd.view_39 (looseW hd.view_39 []) mean mg mb base)
    (ho : (cap.heap_1 w.params).lookup 200 = some ⟨oc, od, .func (fnOf name qual params body scope dV kV doc pm an cdv ct), osl⟩) {vd vp : Value} {wss : List WW} {prs : List (Nat × Nat)}
    (c : LC base g L o1 o2 s.heap m) (d1 : o1.data = .cell (some vd)) (hm : m (Str.ofString "pairs") = some vp) (hr : SeqOf PairR g vp prs) (hr2 : RowsL g vd wss) (hn : prs.length ≤ 100) (hlt : ∀ p ∈ prs, p.1 < wss.length ∧ p.2 < wss.length) (hlw : wss.length ≤ 100) (hw : ∀ ws ∈ wss, 2 ≤ (dedW ws).length ∧ ws.length < 64)
    (k : ∀ h' tk' g' D, LC base g' L o1 o2 h' (fun y => if y = Str.ofString "same" then some (.ref D) else m y) → Le g g' → g'.get? D = some (lst ((prs.map (sameF wss)).map Value.bool)) → wpAny (model Challenge.rw_ny0132_01.row.prog w) (callerA.deeper (envOfC qual scope L fa cv)) (execs (body.drop 9) (envOfC qual scope L fa cv)) Q (fun _ _ => False) { s with heap := h', toks := tk' }) :
    wpAny (model Challenge.rw_ny0132_01.row.prog w) (callerA.deeper (envOfC qual scope L fa cv)) (execs (body.drop 8) (envOfC qual scope L fa cv)) Q (fun _ _ => False) s := by
  have am : Amb w base := ⟨X, mean, mg, mb, T⟩
  revert X; k_fill; intro X
  have key : ∀ o', (cap.heap_1 w.params).lookup 200 = some o' → o' = ⟨oc, od, .func (fnOf name qual params body scope dV kV doc pm an cdv ct), osl⟩ := fun o' h => Option.some.inj (h.symm.trans ho)
  obtain ⟨rfl, rfl, rfl⟩ := fn_inj (key _ (by k_is))
  clear key ho
  show wpAny _ _ _ _ _ _
  dsimp only [List.drop]
  dsimp only [List.drop] at k
  refine wpAny_execs_cons ?_
  refine pairs_assign (L := L) (sameF wss) rfl rfl rfl rfl rfl rfl (by decide) rfl (by decide) rfl rfl (fun Q' hQ' => ldC c.F hm hQ' rfl rfl) c hr (by rw [sizeLine_eq]; omega) (by decide) (fun a b t u h tk C oL m₁ hab hC eL old sl ns hj hk => ?_) (fun D h tk g' c' lg hD => ?_)
  · clear k
    obtain ⟨dv, kn, us, rfl, ed, ln, hn'⟩ := hr2
    have hab' := hlt _ hab
    dsimp only at hab'
    obtain ⟨la, na, psa, ua, ea, ma, rda⟩ := hn' a (us[a]'(by omega)) (wss[a]'(by omega)) (by simp) (by simp)
    obtain ⟨lb, nb, psb, ub, eb, mb', rdb⟩ := hn' b (us[b]'(by omega)) (wss[b]'(by omega)) (by simp) (by simp)
    have wa := hw _ (List.getElem_mem (by omega : a < wss.length))
    have wb := hw _ (List.getElem_mem (by omega : b < wss.length))
    rw [← ma] at wa
    rw [← mb'] at wb
    have la2 : (m2 psa).length = psa.length := by simp [m2]
    have lb2 : (m2 psb).length = psb.length := by simp [m2]
    have hf : sameF wss (a, b) = (sortW (dedW (m2 psa)) == sortW (dedW (m2 psb))) := by
      unfold sameF
      rw [ma, mb']
      simp [List.getD_eq_getElem?_getD, hab'.1, hab'.2]
    have lB : Le g (sub s.heap g) := le_sub c.gh
    have amB := (am.le c.bg).le lB
    have oBL : (sub s.heap g).get? L = none := sub_none c.oL
    have oB1 : (sub s.heap g).get? (L + 1 + 1) = none := sub_none c.og1
    have FB : Fr (sub s.heap g) C h m₁ := ⟨ns, fun b o e => old b o (fun q => by rw [q, oBL] at e; cases e) (sub_le b o e), by rw [sub_size]; exact hC⟩
    generalize sub s.heap g = B at *
    obtain ⟨XB, meanB, mgB, mbB, TB⟩ := id amB
    obtain ⟨rest, NR, hall⟩ := ledger_all FB
    have hkk : ∀ h' m' all, Fr B C h' m' → News B C h' all → (∀ p ∈ rest, p ∈ all) → ∀ b o, b ≠ C → h.get? b = some o → h'.get? b = some o := fun _ _ _ F' N' sub => le_of_ledger FB hall F' N' sub
    have nC1 : @Ne Nat (L + 1 + 1) C := Nat.ne_of_lt (Nat.lt_of_lt_of_le (Heap.lt_size c.c1) hC)
    have nCL : @Ne Nat L C := Nat.ne_of_lt (Nat.lt_of_lt_of_le (Heap.lt_size eL) hC)
    have NC : News B C h ((L + 1 + 1, o1) :: rest) := fun p hp => by
      rcases List.mem_cons.mp hp with rfl | hp
      · exact ⟨old _ _ ne2 c.c1, nC1, oB1⟩
      · exact NR p hp
    clear X T NR
    have hda := dedP_len psa []
    have hdb := dedP_len psb []
    have qa : (dedP psa).length = (dedW (m2 psa)).length := by rw [dedW_eq]; simp [m2]
    have qb : (dedP psb).length = (dedW (m2 psb)).length := by rw [dedW_eq]; simp [m2]
    have hpa := sortP_perm (ps := dedP psa) (by omega)
    have hpb := sortP_perm (ps := dedP psb) (by omega)
    have hda' : (dedP psa).length ≤ psa.length := by simp only [List.length_nil, Nat.zero_add] at hda; exact hda
    have hdb' : (dedP psb).length ≤ psb.length := by simp only [List.length_nil, Nat.zero_add] at hdb; exact hdb
    have rdA : ∀ q ∈ dedP psa, Rd B q.1 (dW q.2) := fun q hq => (rda q (dedP_pre' _ q hq)).le lB
    have rdB : ∀ q ∈ dedP psb, Rd B q.1 (dW q.2) := fun q hq => (rdb q (dedP_pre' _ q hq)).le lB
    have edB := lB _ _ ed
    have eaB := lB _ _ ea
    have ebB := lB _ _ eb
    (repeat' (first | (k_unfold; (try dsimp only)) | ((((((fail_if_success (with_reducible show wpAny _ _ (exec (Stmt.While _ _ _ _) _) _ _ _)); (fail_if_success (with_reducible show wpAny _ _ (exec (Stmt.For _ _ _ _ _) _) _ _ _)); (fail_if_success (with_reducible show wpAny _ _ (call (Value.ref _) _ _) _ _ _)); (fail_if_success (with_reducible show wpAny _ _ (eval (Expr.ListComp _ _ _ _) _) _ _ _)))); (fail_if_success (with_reducible show wpAny _ _ (call (Value.builtin "sorted") _ _) _ _ _)); (fail_if_success (with_reducible show wpAny _ _ (compareOp _ _ _) _ _ _)); (fail_if_success (with_reducible show wpAny _ _ (subscriptTail _ _ _ _) _ _ _)))); (first | (k_here; (with_reducible show wpAny _ _ (eval (Expr.Name _ _) (compEnvC _ _ _ _)) _ _ _); (with_reducible rename Fr _ _ _ _ => kF); k_dflt (refine' cname kF ?k2 ?_ ?k3 ?k4; (case k3 => exact rfl); (case k4 => exact rfl); (case k2 => ((repeat' (first | (with_reducible assumption) | exact if_pos rfl | refine Eq.trans (if_neg (by decide)) ?_ | exact rfl)); done)); k_whole)) | (k_here; (with_reducible show wpAny _ _ (eval (Expr.Name _ _) (envOf _ _ _ _ _)) _ _ _); (with_reducible rename Fr _ _ _ _ => kF); k_dflt (refine' ld kF ?k2 ?_; (case k2 => ((repeat' (first | (with_reducible assumption) | exact if_pos rfl | refine Eq.trans (if_neg (by decide)) ?_ | exact rfl)); done)); k_whole)) | walk1)) | ((((((fail_if_success (with_reducible show wpAny _ _ (exec (Stmt.While _ _ _ _) _) _ _ _)); (fail_if_success (with_reducible show wpAny _ _ (exec (Stmt.For _ _ _ _ _) _) _ _ _)); (fail_if_success (with_reducible show wpAny _ _ (call (Value.ref _) _ _) _ _ _)); (fail_if_success (with_reducible show wpAny _ _ (eval (Expr.ListComp _ _ _ _) _) _ _ _)))); (fail_if_success (with_reducible show wpAny _ _ (call (Value.builtin "sorted") _ _) _ _ _)); (fail_if_success (with_reducible show wpAny _ _ (compareOp _ _ _) _ _ _)); (fail_if_success (with_reducible show wpAny _ _ (subscriptTail _ _ _ _) _ _ _)))); dsimp only; (((((fail_if_success (with_reducible show wpAny _ _ (exec (Stmt.While _ _ _ _) _) _ _ _)); (fail_if_success (with_reducible show wpAny _ _ (exec (Stmt.For _ _ _ _ _) _) _ _ _)); (fail_if_success (with_reducible show wpAny _ _ (call (Value.ref _) _ _) _ _ _)); (fail_if_success (with_reducible show wpAny _ _ (eval (Expr.ListComp _ _ _ _) _) _ _ _)))); (fail_if_success (with_reducible show wpAny _ _ (call (Value.builtin "sorted") _ _) _ _ _)); (fail_if_success (with_reducible show wpAny _ _ (compareOp _ _ _) _ _ _)); (fail_if_success (with_reducible show wpAny _ _ (subscriptTail _ _ _ _) _ _ _)))); (first | (k_here; (with_reducible show wpAny _ _ (eval (Expr.Name _ _) (compEnvC _ _ _ _)) _ _ _); (with_reducible rename Fr _ _ _ _ => kF); k_dflt (refine' cname kF ?k2 ?_ ?k3 ?k4; (case k3 => exact rfl); (case k4 => exact rfl); (case k2 => ((repeat' (first | (with_reducible assumption) | exact if_pos rfl | refine Eq.trans (if_neg (by decide)) ?_ | exact rfl)); done)); k_whole)) | (k_here; (with_reducible show wpAny _ _ (eval (Expr.Name _ _) (envOf _ _ _ _ _)) _ _ _); (with_reducible rename Fr _ _ _ _ => kF); k_dflt (refine' ld kF ?k2 ?_; (case k2 => ((repeat' (first | (with_reducible assumption) | exact if_pos rfl | refine Eq.trans (if_neg (by decide)) ?_ | exact rfl)); done)); k_whole)) | walk1)) | fail "no step"))
    rename Fr _ _ _ _ => F1
    rename News _ _ _ _ => N1
    refine item_B (vs := us) (k := a) (PySem.IsL.isList (n := kn) (F1.keep _ _ edB)) (by omega) (v := .ref la) (by rw [← ua]; simp) ?_
    (repeat' (first | (k_unfold; (try dsimp only)) | ((((((fail_if_success (with_reducible show wpAny _ _ (exec (Stmt.While _ _ _ _) _) _ _ _)); (fail_if_success (with_reducible show wpAny _ _ (exec (Stmt.For _ _ _ _ _) _) _ _ _)); (fail_if_success (with_reducible show wpAny _ _ (call (Value.ref _) _ _) _ _ _)); (fail_if_success (with_reducible show wpAny _ _ (eval (Expr.ListComp _ _ _ _) _) _ _ _)))); (fail_if_success (with_reducible show wpAny _ _ (call (Value.builtin "sorted") _ _) _ _ _)); (fail_if_success (with_reducible show wpAny _ _ (compareOp _ _ _) _ _ _)); (fail_if_success (with_reducible show wpAny _ _ (subscriptTail _ _ _ _) _ _ _)))); (first | (k_here; (with_reducible show wpAny _ _ (eval (Expr.Name _ _) (compEnvC _ _ _ _)) _ _ _); (with_reducible rename Fr _ _ _ _ => kF); k_dflt (refine' cname kF ?k2 ?_ ?k3 ?k4; (case k3 => exact rfl); (case k4 => exact rfl); (case k2 => ((repeat' (first | (with_reducible assumption) | exact if_pos rfl | refine Eq.trans (if_neg (by decide)) ?_ | exact rfl)); done)); k_whole)) | (k_here; (with_reducible show wpAny _ _ (eval (Expr.Name _ _) (envOf _ _ _ _ _)) _ _ _); (with_reducible rename Fr _ _ _ _ => kF); k_dflt (refine' ld kF ?k2 ?_; (case k2 => ((repeat' (first | (with_reducible assumption) | exact if_pos rfl | refine Eq.trans (if_neg (by decide)) ?_ | exact rfl)); done)); k_whole)) | walk1)) | ((((((fail_if_success (with_reducible show wpAny _ _ (exec (Stmt.While _ _ _ _) _) _ _ _)); (fail_if_success (with_reducible show wpAny _ _ (exec (Stmt.For _ _ _ _ _) _) _ _ _)); (fail_if_success (with_reducible show wpAny _ _ (call (Value.ref _) _ _) _ _ _)); (fail_if_success (with_reducible show wpAny _ _ (eval (Expr.ListComp _ _ _ _) _) _ _ _)))); (fail_if_success (with_reducible show wpAny _ _ (call (Value.builtin "sorted") _ _) _ _ _)); (fail_if_success (with_reducible show wpAny _ _ (compareOp _ _ _) _ _ _)); (fail_if_success (with_reducible show wpAny _ _ (subscriptTail _ _ _ _) _ _ _)))); dsimp only; (((((fail_if_success (with_reducible show wpAny _ _ (exec (Stmt.While _ _ _ _) _) _ _ _)); (fail_if_success (with_reducible show wpAny _ _ (exec (Stmt.For _ _ _ _ _) _) _ _ _)); (fail_if_success (with_reducible show wpAny _ _ (call (Value.ref _) _ _) _ _ _)); (fail_if_success (with_reducible show wpAny _ _ (eval (Expr.ListComp _ _ _ _) _) _ _ _)))); (fail_if_success (with_reducible show wpAny _ _ (call (Value.builtin "sorted") _ _) _ _ _)); (fail_if_success (with_reducible show wpAny _ _ (compareOp _ _ _) _ _ _)); (fail_if_success (with_reducible show wpAny _ _ (subscriptTail _ _ _ _) _ _ _)))); (first | (k_here; (with_reducible show wpAny _ _ (eval (Expr.Name _ _) (compEnvC _ _ _ _)) _ _ _); (with_reducible rename Fr _ _ _ _ => kF); k_dflt (refine' cname kF ?k2 ?_ ?k3 ?k4; (case k3 => exact rfl); (case k4 => exact rfl); (case k2 => ((repeat' (first | (with_reducible assumption) | exact if_pos rfl | refine Eq.trans (if_neg (by decide)) ?_ | exact rfl)); done)); k_whole)) | (k_here; (with_reducible show wpAny _ _ (eval (Expr.Name _ _) (envOf _ _ _ _ _)) _ _ _); (with_reducible rename Fr _ _ _ _ => kF); k_dflt (refine' ld kF ?k2 ?_; (case k2 => ((repeat' (first | (with_reducible assumption) | exact if_pos rfl | refine Eq.trans (if_neg (by decide)) ?_ | exact rfl)); done)); k_whole)) | walk1)) | fail "no step"))
    rename Fr _ _ _ _ => F2
    rename News _ _ _ _ => N2
    refine once_c amB F2.keep (room_law _) (PySem.IsL.isList (n := na) eaB) (fun q hq => (rda q hq).le lB) (by omega) (fun h3 tk3 r3 n3 k3 q3 e3 => ?_)
    have F3 := F2.kept k3
    have N3 := News.addNew F2 N2 k3 q3 e3
    clear F2 N2
    (repeat' (first | (k_unfold; (try dsimp only)) | ((((((fail_if_success (with_reducible show wpAny _ _ (exec (Stmt.While _ _ _ _) _) _ _ _)); (fail_if_success (with_reducible show wpAny _ _ (exec (Stmt.For _ _ _ _ _) _) _ _ _)); (fail_if_success (with_reducible show wpAny _ _ (call (Value.ref _) _ _) _ _ _)); (fail_if_success (with_reducible show wpAny _ _ (eval (Expr.ListComp _ _ _ _) _) _ _ _)))); (fail_if_success (with_reducible show wpAny _ _ (call (Value.builtin "sorted") _ _) _ _ _)); (fail_if_success (with_reducible show wpAny _ _ (compareOp _ _ _) _ _ _)); (fail_if_success (with_reducible show wpAny _ _ (subscriptTail _ _ _ _) _ _ _)))); (first | (k_here; (with_reducible show wpAny _ _ (eval (Expr.Name _ _) (compEnvC _ _ _ _)) _ _ _); (with_reducible rename Fr _ _ _ _ => kF); k_dflt (refine' cname kF ?k2 ?_ ?k3 ?k4; (case k3 => exact rfl); (case k4 => exact rfl); (case k2 => ((repeat' (first | (with_reducible assumption) | exact if_pos rfl | refine Eq.trans (if_neg (by decide)) ?_ | exact rfl)); done)); k_whole)) | (k_here; (with_reducible show wpAny _ _ (eval (Expr.Name _ _) (envOf _ _ _ _ _)) _ _ _); (with_reducible rename Fr _ _ _ _ => kF); k_dflt (refine' ld kF ?k2 ?_; (case k2 => ((repeat' (first | (with_reducible assumption) | exact if_pos rfl | refine Eq.trans (if_neg (by decide)) ?_ | exact rfl)); done)); k_whole)) | walk1)) | ((((((fail_if_success (with_reducible show wpAny _ _ (exec (Stmt.While _ _ _ _) _) _ _ _)); (fail_if_success (with_reducible show wpAny _ _ (exec (Stmt.For _ _ _ _ _) _) _ _ _)); (fail_if_success (with_reducible show wpAny _ _ (call (Value.ref _) _ _) _ _ _)); (fail_if_success (with_reducible show wpAny _ _ (eval (Expr.ListComp _ _ _ _) _) _ _ _)))); (fail_if_success (with_reducible show wpAny _ _ (call (Value.builtin "sorted") _ _) _ _ _)); (fail_if_success (with_reducible show wpAny _ _ (compareOp _ _ _) _ _ _)); (fail_if_success (with_reducible show wpAny _ _ (subscriptTail _ _ _ _) _ _ _)))); dsimp only; (((((fail_if_success (with_reducible show wpAny _ _ (exec (Stmt.While _ _ _ _) _) _ _ _)); (fail_if_success (with_reducible show wpAny _ _ (exec (Stmt.For _ _ _ _ _) _) _ _ _)); (fail_if_success (with_reducible show wpAny _ _ (call (Value.ref _) _ _) _ _ _)); (fail_if_success (with_reducible show wpAny _ _ (eval (Expr.ListComp _ _ _ _) _) _ _ _)))); (fail_if_success (with_reducible show wpAny _ _ (call (Value.builtin "sorted") _ _) _ _ _)); (fail_if_success (with_reducible show wpAny _ _ (compareOp _ _ _) _ _ _)); (fail_if_success (with_reducible show wpAny _ _ (subscriptTail _ _ _ _) _ _ _)))); (first | (k_here; (with_reducible show wpAny _ _ (eval (Expr.Name _ _) (compEnvC _ _ _ _)) _ _ _); (with_reducible rename Fr _ _ _ _ => kF); k_dflt (refine' cname kF ?k2 ?_ ?k3 ?k4; (case k3 => exact rfl); (case k4 => exact rfl); (case k2 => ((repeat' (first | (with_reducible assumption) | exact if_pos rfl | refine Eq.trans (if_neg (by decide)) ?_ | exact rfl)); done)); k_whole)) | (k_here; (with_reducible show wpAny _ _ (eval (Expr.Name _ _) (envOf _ _ _ _ _)) _ _ _); (with_reducible rename Fr _ _ _ _ => kF); k_dflt (refine' ld kF ?k2 ?_; (case k2 => ((repeat' (first | (with_reducible assumption) | exact if_pos rfl | refine Eq.trans (if_neg (by decide)) ?_ | exact rfl)); done)); k_whole)) | walk1)) | fail "no step"))
    rename Fr _ _ _ _ => F4
    rename News _ _ _ _ => N4
    refine sorted_W F4 N4 (PySem.IsL.isList (n := n3) (N4 _ (.head _)).1) (by omega) (by omega) rdA (by show 4 + 3 + 2 < cLine; decide) (fun D5 h5 c5 F5 N5 => ?_)
    clear F4 N4
    (repeat' (first | (k_unfold; (try dsimp only)) | ((((((fail_if_success (with_reducible show wpAny _ _ (exec (Stmt.While _ _ _ _) _) _ _ _)); (fail_if_success (with_reducible show wpAny _ _ (exec (Stmt.For _ _ _ _ _) _) _ _ _)); (fail_if_success (with_reducible show wpAny _ _ (call (Value.ref _) _ _) _ _ _)); (fail_if_success (with_reducible show wpAny _ _ (eval (Expr.ListComp _ _ _ _) _) _ _ _)))); (fail_if_success (with_reducible show wpAny _ _ (call (Value.builtin "sorted") _ _) _ _ _)); (fail_if_success (with_reducible show wpAny _ _ (compareOp _ _ _) _ _ _)); (fail_if_success (with_reducible show wpAny _ _ (subscriptTail _ _ _ _) _ _ _)))); (first | (k_here; (with_reducible show wpAny _ _ (eval (Expr.Name _ _) (compEnvC _ _ _ _)) _ _ _); (with_reducible rename Fr _ _ _ _ => kF); k_dflt (refine' cname kF ?k2 ?_ ?k3 ?k4; (case k3 => exact rfl); (case k4 => exact rfl); (case k2 => ((repeat' (first | (with_reducible assumption) | exact if_pos rfl | refine Eq.trans (if_neg (by decide)) ?_ | exact rfl)); done)); k_whole)) | (k_here; (with_reducible show wpAny _ _ (eval (Expr.Name _ _) (envOf _ _ _ _ _)) _ _ _); (with_reducible rename Fr _ _ _ _ => kF); k_dflt (refine' ld kF ?k2 ?_; (case k2 => ((repeat' (first | (with_reducible assumption) | exact if_pos rfl | refine Eq.trans (if_neg (by decide)) ?_ | exact rfl)); done)); k_whole)) | walk1)) | ((((((fail_if_success (with_reducible show wpAny _ _ (exec (Stmt.While _ _ _ _) _) _ _ _)); (fail_if_success (with_reducible show wpAny _ _ (exec (Stmt.For _ _ _ _ _) _) _ _ _)); (fail_if_success (with_reducible show wpAny _ _ (call (Value.ref _) _ _) _ _ _)); (fail_if_success (with_reducible show wpAny _ _ (eval (Expr.ListComp _ _ _ _) _) _ _ _)))); (fail_if_success (with_reducible show wpAny _ _ (call (Value.builtin "sorted") _ _) _ _ _)); (fail_if_success (with_reducible show wpAny _ _ (compareOp _ _ _) _ _ _)); (fail_if_success (with_reducible show wpAny _ _ (subscriptTail _ _ _ _) _ _ _)))); dsimp only; (((((fail_if_success (with_reducible show wpAny _ _ (exec (Stmt.While _ _ _ _) _) _ _ _)); (fail_if_success (with_reducible show wpAny _ _ (exec (Stmt.For _ _ _ _ _) _) _ _ _)); (fail_if_success (with_reducible show wpAny _ _ (call (Value.ref _) _ _) _ _ _)); (fail_if_success (with_reducible show wpAny _ _ (eval (Expr.ListComp _ _ _ _) _) _ _ _)))); (fail_if_success (with_reducible show wpAny _ _ (call (Value.builtin "sorted") _ _) _ _ _)); (fail_if_success (with_reducible show wpAny _ _ (compareOp _ _ _) _ _ _)); (fail_if_success (with_reducible show wpAny _ _ (subscriptTail _ _ _ _) _ _ _)))); (first | (k_here; (with_reducible show wpAny _ _ (eval (Expr.Name _ _) (compEnvC _ _ _ _)) _ _ _); (with_reducible rename Fr _ _ _ _ => kF); k_dflt (refine' cname kF ?k2 ?_ ?k3 ?k4; (case k3 => exact rfl); (case k4 => exact rfl); (case k2 => ((repeat' (first | (with_reducible assumption) | exact if_pos rfl | refine Eq.trans (if_neg (by decide)) ?_ | exact rfl)); done)); k_whole)) | (k_here; (with_reducible show wpAny _ _ (eval (Expr.Name _ _) (envOf _ _ _ _ _)) _ _ _); (with_reducible rename Fr _ _ _ _ => kF); k_dflt (refine' ld kF ?k2 ?_; (case k2 => ((repeat' (first | (with_reducible assumption) | exact if_pos rfl | refine Eq.trans (if_neg (by decide)) ?_ | exact rfl)); done)); k_whole)) | walk1)) | fail "no step"))
    rename Fr _ _ _ _ => F6
    rename News _ _ _ _ => N6
    refine item_B (vs := us) (k := b) (PySem.IsL.isList (n := kn) (F6.keep _ _ edB)) (by omega) (v := .ref lb) (by rw [← ub]; simp) ?_
    (repeat' (first | (k_unfold; (try dsimp only)) | ((((((fail_if_success (with_reducible show wpAny _ _ (exec (Stmt.While _ _ _ _) _) _ _ _)); (fail_if_success (with_reducible show wpAny _ _ (exec (Stmt.For _ _ _ _ _) _) _ _ _)); (fail_if_success (with_reducible show wpAny _ _ (call (Value.ref _) _ _) _ _ _)); (fail_if_success (with_reducible show wpAny _ _ (eval (Expr.ListComp _ _ _ _) _) _ _ _)))); (fail_if_success (with_reducible show wpAny _ _ (call (Value.builtin "sorted") _ _) _ _ _)); (fail_if_success (with_reducible show wpAny _ _ (compareOp _ _ _) _ _ _)); (fail_if_success (with_reducible show wpAny _ _ (subscriptTail _ _ _ _) _ _ _)))); (first | (k_here; (with_reducible show wpAny _ _ (eval (Expr.Name _ _) (compEnvC _ _ _ _)) _ _ _); (with_reducible rename Fr _ _ _ _ => kF); k_dflt (refine' cname kF ?k2 ?_ ?k3 ?k4; (case k3 => exact rfl); (case k4 => exact rfl); (case k2 => ((repeat' (first | (with_reducible assumption) | exact if_pos rfl | refine Eq.trans (if_neg (by decide)) ?_ | exact rfl)); done)); k_whole)) | (k_here; (with_reducible show wpAny _ _ (eval (Expr.Name _ _) (envOf _ _ _ _ _)) _ _ _); (with_reducible rename Fr _ _ _ _ => kF); k_dflt (refine' ld kF ?k2 ?_; (case k2 => ((repeat' (first | (with_reducible assumption) | exact if_pos rfl | refine Eq.trans (if_neg (by decide)) ?_ | exact rfl)); done)); k_whole)) | walk1)) | ((((((fail_if_success (with_reducible show wpAny _ _ (exec (Stmt.While _ _ _ _) _) _ _ _)); (fail_if_success (with_reducible show wpAny _ _ (exec (Stmt.For _ _ _ _ _) _) _ _ _)); (fail_if_success (with_reducible show wpAny _ _ (call (Value.ref _) _ _) _ _ _)); (fail_if_success (with_reducible show wpAny _ _ (eval (Expr.ListComp _ _ _ _) _) _ _ _)))); (fail_if_success (with_reducible show wpAny _ _ (call (Value.builtin "sorted") _ _) _ _ _)); (fail_if_success (with_reducible show wpAny _ _ (compareOp _ _ _) _ _ _)); (fail_if_success (with_reducible show wpAny _ _ (subscriptTail _ _ _ _) _ _ _)))); dsimp only; (((((fail_if_success (with_reducible show wpAny _ _ (exec (Stmt.While _ _ _ _) _) _ _ _)); (fail_if_success (with_reducible show wpAny _ _ (exec (Stmt.For _ _ _ _ _) _) _ _ _)); (fail_if_success (with_reducible show wpAny _ _ (call (Value.ref _) _ _) _ _ _)); (fail_if_success (with_reducible show wpAny _ _ (eval (Expr.ListComp _ _ _ _) _) _ _ _)))); (fail_if_success (with_reducible show wpAny _ _ (call (Value.builtin "sorted") _ _) _ _ _)); (fail_if_success (with_reducible show wpAny _ _ (compareOp _ _ _) _ _ _)); (fail_if_success (with_reducible show wpAny _ _ (subscriptTail _ _ _ _) _ _ _)))); (first | (k_here; (with_reducible show wpAny _ _ (eval (Expr.Name _ _) (compEnvC _ _ _ _)) _ _ _); (with_reducible rename Fr _ _ _ _ => kF); k_dflt (refine' cname kF ?k2 ?_ ?k3 ?k4; (case k3 => exact rfl); (case k4 => exact rfl); (case k2 => ((repeat' (first | (with_reducible assumption) | exact if_pos rfl | refine Eq.trans (if_neg (by decide)) ?_ | exact rfl)); done)); k_whole)) | (k_here; (with_reducible show wpAny _ _ (eval (Expr.Name _ _) (envOf _ _ _ _ _)) _ _ _); (with_reducible rename Fr _ _ _ _ => kF); k_dflt (refine' ld kF ?k2 ?_; (case k2 => ((repeat' (first | (with_reducible assumption) | exact if_pos rfl | refine Eq.trans (if_neg (by decide)) ?_ | exact rfl)); done)); k_whole)) | walk1)) | fail "no step"))
    rename Fr _ _ _ _ => F7
    rename News _ _ _ _ => N7
    refine once_c amB F7.keep (room_law _) (PySem.IsL.isList (n := nb) ebB) (fun q hq => (rdb q hq).le lB) (by omega) (fun h8 tk8 r8 n8 k8 q8 e8 => ?_)
    have F8 := F7.kept k8
    have N8 := News.addNew F7 N7 k8 q8 e8
    clear F7 N7
    (repeat' (first | (k_unfold; (try dsimp only)) | ((((((fail_if_success (with_reducible show wpAny _ _ (exec (Stmt.While _ _ _ _) _) _ _ _)); (fail_if_success (with_reducible show wpAny _ _ (exec (Stmt.For _ _ _ _ _) _) _ _ _)); (fail_if_success (with_reducible show wpAny _ _ (call (Value.ref _) _ _) _ _ _)); (fail_if_success (with_reducible show wpAny _ _ (eval (Expr.ListComp _ _ _ _) _) _ _ _)))); (fail_if_success (with_reducible show wpAny _ _ (call (Value.builtin "sorted") _ _) _ _ _)); (fail_if_success (with_reducible show wpAny _ _ (compareOp _ _ _) _ _ _)); (fail_if_success (with_reducible show wpAny _ _ (subscriptTail _ _ _ _) _ _ _)))); (first | (k_here; (with_reducible show wpAny _ _ (eval (Expr.Name _ _) (compEnvC _ _ _ _)) _ _ _); (with_reducible rename Fr _ _ _ _ => kF); k_dflt (refine' cname kF ?k2 ?_ ?k3 ?k4; (case k3 => exact rfl); (case k4 => exact rfl); (case k2 => ((repeat' (first | (with_reducible assumption) | exact if_pos rfl | refine Eq.trans (if_neg (by decide)) ?_ | exact rfl)); done)); k_whole)) | (k_here; (with_reducible show wpAny _ _ (eval (Expr.Name _ _) (envOf _ _ _ _ _)) _ _ _); (with_reducible rename Fr _ _ _ _ => kF); k_dflt (refine' ld kF ?k2 ?_; (case k2 => ((repeat' (first | (with_reducible assumption) | exact if_pos rfl | refine Eq.trans (if_neg (by decide)) ?_ | exact rfl)); done)); k_whole)) | walk1)) | ((((((fail_if_success (with_reducible show wpAny _ _ (exec (Stmt.While _ _ _ _) _) _ _ _)); (fail_if_success (with_reducible show wpAny _ _ (exec (Stmt.For _ _ _ _ _) _) _ _ _)); (fail_if_success (with_reducible show wpAny _ _ (call (Value.ref _) _ _) _ _ _)); (fail_if_success (with_reducible show wpAny _ _ (eval (Expr.ListComp _ _ _ _) _) _ _ _)))); (fail_if_success (with_reducible show wpAny _ _ (call (Value.builtin "sorted") _ _) _ _ _)); (fail_if_success (with_reducible show wpAny _ _ (compareOp _ _ _) _ _ _)); (fail_if_success (with_reducible show wpAny _ _ (subscriptTail _ _ _ _) _ _ _)))); dsimp only; (((((fail_if_success (with_reducible show wpAny _ _ (exec (Stmt.While _ _ _ _) _) _ _ _)); (fail_if_success (with_reducible show wpAny _ _ (exec (Stmt.For _ _ _ _ _) _) _ _ _)); (fail_if_success (with_reducible show wpAny _ _ (call (Value.ref _) _ _) _ _ _)); (fail_if_success (with_reducible show wpAny _ _ (eval (Expr.ListComp _ _ _ _) _) _ _ _)))); (fail_if_success (with_reducible show wpAny _ _ (call (Value.builtin "sorted") _ _) _ _ _)); (fail_if_success (with_reducible show wpAny _ _ (compareOp _ _ _) _ _ _)); (fail_if_success (with_reducible show wpAny _ _ (subscriptTail _ _ _ _) _ _ _)))); (first | (k_here; (with_reducible show wpAny _ _ (eval (Expr.Name _ _) (compEnvC _ _ _ _)) _ _ _); (with_reducible rename Fr _ _ _ _ => kF); k_dflt (refine' cname kF ?k2 ?_ ?k3 ?k4; (case k3 => exact rfl); (case k4 => exact rfl); (case k2 => ((repeat' (first | (with_reducible assumption) | exact if_pos rfl | refine Eq.trans (if_neg (by decide)) ?_ | exact rfl)); done)); k_whole)) | (k_here; (with_reducible show wpAny _ _ (eval (Expr.Name _ _) (envOf _ _ _ _ _)) _ _ _); (with_reducible rename Fr _ _ _ _ => kF); k_dflt (refine' ld kF ?k2 ?_; (case k2 => ((repeat' (first | (with_reducible assumption) | exact if_pos rfl | refine Eq.trans (if_neg (by decide)) ?_ | exact rfl)); done)); k_whole)) | walk1)) | fail "no step"))
    rename Fr _ _ _ _ => F9
    rename News _ _ _ _ => N9
    refine sorted_W F9 N9 (PySem.IsL.isList (n := n8) (N9 _ (.head _)).1) (by omega) (by omega) rdB (by show 4 + 3 + 2 < cLine; decide) (fun D10 h10 c10 F10 N10 => ?_)
    clear F9 N9
    (repeat' (first | (k_unfold; (try dsimp only)) | ((((((fail_if_success (with_reducible show wpAny _ _ (exec (Stmt.While _ _ _ _) _) _ _ _)); (fail_if_success (with_reducible show wpAny _ _ (exec (Stmt.For _ _ _ _ _) _) _ _ _)); (fail_if_success (with_reducible show wpAny _ _ (call (Value.ref _) _ _) _ _ _)); (fail_if_success (with_reducible show wpAny _ _ (eval (Expr.ListComp _ _ _ _) _) _ _ _)))); (fail_if_success (with_reducible show wpAny _ _ (call (Value.builtin "sorted") _ _) _ _ _)); (fail_if_success (with_reducible show wpAny _ _ (compareOp _ _ _) _ _ _)); (fail_if_success (with_reducible show wpAny _ _ (subscriptTail _ _ _ _) _ _ _)))); (first | (k_here; (with_reducible show wpAny _ _ (eval (Expr.Name _ _) (compEnvC _ _ _ _)) _ _ _); (with_reducible rename Fr _ _ _ _ => kF); k_dflt (refine' cname kF ?k2 ?_ ?k3 ?k4; (case k3 => exact rfl); (case k4 => exact rfl); (case k2 => ((repeat' (first | (with_reducible assumption) | exact if_pos rfl | refine Eq.trans (if_neg (by decide)) ?_ | exact rfl)); done)); k_whole)) | (k_here; (with_reducible show wpAny _ _ (eval (Expr.Name _ _) (envOf _ _ _ _ _)) _ _ _); (with_reducible rename Fr _ _ _ _ => kF); k_dflt (refine' ld kF ?k2 ?_; (case k2 => ((repeat' (first | (with_reducible assumption) | exact if_pos rfl | refine Eq.trans (if_neg (by decide)) ?_ | exact rfl)); done)); k_whole)) | walk1)) | ((((((fail_if_success (with_reducible show wpAny _ _ (exec (Stmt.While _ _ _ _) _) _ _ _)); (fail_if_success (with_reducible show wpAny _ _ (exec (Stmt.For _ _ _ _ _) _) _ _ _)); (fail_if_success (with_reducible show wpAny _ _ (call (Value.ref _) _ _) _ _ _)); (fail_if_success (with_reducible show wpAny _ _ (eval (Expr.ListComp _ _ _ _) _) _ _ _)))); (fail_if_success (with_reducible show wpAny _ _ (call (Value.builtin "sorted") _ _) _ _ _)); (fail_if_success (with_reducible show wpAny _ _ (compareOp _ _ _) _ _ _)); (fail_if_success (with_reducible show wpAny _ _ (subscriptTail _ _ _ _) _ _ _)))); dsimp only; (((((fail_if_success (with_reducible show wpAny _ _ (exec (Stmt.While _ _ _ _) _) _ _ _)); (fail_if_success (with_reducible show wpAny _ _ (exec (Stmt.For _ _ _ _ _) _) _ _ _)); (fail_if_success (with_reducible show wpAny _ _ (call (Value.ref _) _ _) _ _ _)); (fail_if_success (with_reducible show wpAny _ _ (eval (Expr.ListComp _ _ _ _) _) _ _ _)))); (fail_if_success (with_reducible show wpAny _ _ (call (Value.builtin "sorted") _ _) _ _ _)); (fail_if_success (with_reducible show wpAny _ _ (compareOp _ _ _) _ _ _)); (fail_if_success (with_reducible show wpAny _ _ (subscriptTail _ _ _ _) _ _ _)))); (first | (k_here; (with_reducible show wpAny _ _ (eval (Expr.Name _ _) (compEnvC _ _ _ _)) _ _ _); (with_reducible rename Fr _ _ _ _ => kF); k_dflt (refine' cname kF ?k2 ?_ ?k3 ?k4; (case k3 => exact rfl); (case k4 => exact rfl); (case k2 => ((repeat' (first | (with_reducible assumption) | exact if_pos rfl | refine Eq.trans (if_neg (by decide)) ?_ | exact rfl)); done)); k_whole)) | (k_here; (with_reducible show wpAny _ _ (eval (Expr.Name _ _) (envOf _ _ _ _ _)) _ _ _); (with_reducible rename Fr _ _ _ _ => kF); k_dflt (refine' ld kF ?k2 ?_; (case k2 => ((repeat' (first | (with_reducible assumption) | exact if_pos rfl | refine Eq.trans (if_neg (by decide)) ?_ | exact rfl)); done)); k_whole)) | walk1)) | fail "no step"))
    have RA : RowL h10 (.ref D5) (sortW (dedW (m2 psa))) := ⟨D5, c5, sortP (dedP psa), rfl, (N10 _ (.tail _ (.tail _ (.head _)))).1, by rw [dedW_eq]; exact sortP_2 _, fun q hq => (rdA q (hpa.mem_iff.mp hq)).le F10.keep⟩
    have RB : RowL h10 (.ref D10) (sortW (dedW (m2 psb))) := ⟨D10, c10, sortP (dedP psb), rfl, (N10 _ (.head _)).1, by rw [dedW_eq]; exact sortP_2 _, fun q hq => (rdB q (hpb.mem_iff.mp hq)).le F10.keep⟩
    refine eq_rowW RA.rd RB.rd (by show 4 + 3 + 6 < cLine; decide) ?_
    have hk10 := hkk _ _ _ F10 N10 fun p hp => by repeat (first | exact hp | refine List.Mem.tail _ ?_)
    obtain ⟨sl, esl⟩ := sl
    exact ⟨h10, _, _, rfl, F10.ns, fun b o q1 _ e => hk10 b o q1 e, ⟨sl, hk10 _ _ nCL esl⟩, by rw [hf]⟩
  · with_reducible exact k _ _ _ _ c' lg hD

theorem rd_bools {h : Heap} {D : Addr} {bs : List Bool} (e : h.get? D = some (lst (bs.map Value.bool))) : Rd h (.ref D) (dB bs) := by
  refine rd_list (n := (bs.map Value.bool).length) e (rdAll_of (by simp) fun i v d h1 h2 => ?_)
  have h1' : ∃ b, bs[i]? = some b ∧ Value.bool b = v := by simpa using h1
  obtain ⟨b, hb, rfl⟩ := h1'
  have h2' : PyData.bool b = d := by simpa [hb] using h2
  rw [← h2']
  exact ⟨_, .bool b⟩

theorem law_9 {w : World} {s : Shared} {Q : Flow → Shared → Prop} {base g : Heap} {mean : ExcName → Option Value} {mg mb : Str → Option Value} {fa L : Addr} {cv : Value} {o1 o2 : Obj} {m : Str → Option Value}
    {name qual : Str} {params : Arguments} {body : List Stmt} {scope : Scope} {dV kV doc pm cdv ct oc : Value} {an od : Option Addr} {osl : Array (Option Value)}
    (X : (cap.heap_1 w.params).In base) (T : Top hd.view_39 (looseW hd.view_39 []) mean mg mb base)
    (ho : (cap.heap_1 w.params).lookup 200 = some ⟨oc, od, .func (fnOf name qual params body scope dV kV doc pm an cdv ct), osl⟩) {vh vp : Value} {D : Addr} {wss : List WW} {prs : List (Nat × Nat)} {f : Nat × Nat → Bool}
    (c : LC base g L o1 o2 s.heap m) (d2 : o2.data = .cell (some vh)) (hm : m (Str.ofString "pairs") = some vp) (hr : SeqOf PairR g vp prs) (hr2 : RowsL g vh wss) (hn : prs.length ≤ 100) (hlt : ∀ p ∈ prs, p.1 < wss.length ∧ p.2 < wss.length) (hlw : wss.length ≤ 100) (hw : ∀ ws ∈ wss, ws.length < 64)
    (hm2 : m (Str.ofString "same") = some (.ref D)) (hD : g.get? D = some (lst ((prs.map f).map Value.bool))) (hf : ∀ p ∈ prs, ∀ psa psb : List PP, m2 psa = wss.getD p.1 [] → m2 psb = wss.getD p.2 [] → cmpP psa psb = f p)
    (hQ : ∀ h' tk m', Fr base L h' m' → Q (.ret (.bool true)) { s with heap := h', toks := tk }) :
    wpAny (model Challenge.rw_ny0132_01.row.prog w) (callerA.deeper (envOfC qual scope L fa cv)) (execs (body.drop 9) (envOfC qual scope L fa cv)) Q (fun _ _ => False) s := by
  have am : Amb w base := ⟨X, mean, mg, mb, T⟩
  revert X; k_fill; intro X
  have key : ∀ o', (cap.heap_1 w.params).lookup 200 = some o' → o' = ⟨oc, od, .func (fnOf name qual params body scope dV kV doc pm an cdv ct), osl⟩ := fun o' h => Option.some.inj (h.symm.trans ho)
  obtain ⟨rfl, rfl, rfl⟩ := fn_inj (key _ (by k_is))
  clear key ho
  show wpAny _ _ _ _ _ _
  dsimp only [List.drop]
  have F := c.F
  have N : News base L s.heap [] := News.nil
  (repeat' (first | (k_unfold; (try dsimp only)) | ((((((fail_if_success (with_reducible show wpAny _ _ (exec (Stmt.While _ _ _ _) _) _ _ _)); (fail_if_success (with_reducible show wpAny _ _ (exec (Stmt.For _ _ _ _ _) _) _ _ _)); (fail_if_success (with_reducible show wpAny _ _ (call (Value.ref _) _ _) _ _ _)); (fail_if_success (with_reducible show wpAny _ _ (eval (Expr.ListComp _ _ _ _) _) _ _ _)))); (fail_if_success (with_reducible show wpAny _ _ (call (Value.builtin "sorted") _ _) _ _ _)); (fail_if_success (with_reducible show wpAny _ _ (compareOp _ _ _) _ _ _)); (fail_if_success (with_reducible show wpAny _ _ (subscriptTail _ _ _ _) _ _ _)))); (first | (k_here; (with_reducible show wpAny _ _ (eval (Expr.Name _ _) (compEnvC _ _ _ _)) _ _ _); (with_reducible rename Fr _ _ _ _ => kF); k_dflt (refine' cname kF ?k2 ?_ ?k3 ?k4; (case k3 => exact rfl); (case k4 => exact rfl); (case k2 => ((repeat' (first | (with_reducible assumption) | exact if_pos rfl | refine Eq.trans (if_neg (by decide)) ?_ | exact rfl)); done)); k_whole)) | (k_here; (with_reducible show wpAny _ _ (eval (Expr.Name _ _) (envOf _ _ _ _ _)) _ _ _); (with_reducible rename Fr _ _ _ _ => kF); k_dflt (refine' ld kF ?k2 ?_; (case k2 => ((repeat' (first | (with_reducible assumption) | exact if_pos rfl | refine Eq.trans (if_neg (by decide)) ?_ | exact rfl)); done)); k_whole)) | walk1)) | ((((((fail_if_success (with_reducible show wpAny _ _ (exec (Stmt.While _ _ _ _) _) _ _ _)); (fail_if_success (with_reducible show wpAny _ _ (exec (Stmt.For _ _ _ _ _) _) _ _ _)); (fail_if_success (with_reducible show wpAny _ _ (call (Value.ref _) _ _) _ _ _)); (fail_if_success (with_reducible show wpAny _ _ (eval (Expr.ListComp _ _ _ _) _) _ _ _)))); (fail_if_success (with_reducible show wpAny _ _ (call (Value.builtin "sorted") _ _) _ _ _)); (fail_if_success (with_reducible show wpAny _ _ (compareOp _ _ _) _ _ _)); (fail_if_success (with_reducible show wpAny _ _ (subscriptTail _ _ _ _) _ _ _)))); dsimp only; (((((fail_if_success (with_reducible show wpAny _ _ (exec (Stmt.While _ _ _ _) _) _ _ _)); (fail_if_success (with_reducible show wpAny _ _ (exec (Stmt.For _ _ _ _ _) _) _ _ _)); (fail_if_success (with_reducible show wpAny _ _ (call (Value.ref _) _ _) _ _ _)); (fail_if_success (with_reducible show wpAny _ _ (eval (Expr.ListComp _ _ _ _) _) _ _ _)))); (fail_if_success (with_reducible show wpAny _ _ (call (Value.builtin "sorted") _ _) _ _ _)); (fail_if_success (with_reducible show wpAny _ _ (compareOp _ _ _) _ _ _)); (fail_if_success (with_reducible show wpAny _ _ (subscriptTail _ _ _ _) _ _ _)))); (first | (k_here; (with_reducible show wpAny _ _ (eval (Expr.Name _ _) (compEnvC _ _ _ _)) _ _ _); (with_reducible rename Fr _ _ _ _ => kF); k_dflt (refine' cname kF ?k2 ?_ ?k3 ?k4; (case k3 => exact rfl); (case k4 => exact rfl); (case k2 => ((repeat' (first | (with_reducible assumption) | exact if_pos rfl | refine Eq.trans (if_neg (by decide)) ?_ | exact rfl)); done)); k_whole)) | (k_here; (with_reducible show wpAny _ _ (eval (Expr.Name _ _) (envOf _ _ _ _ _)) _ _ _); (with_reducible rename Fr _ _ _ _ => kF); k_dflt (refine' ld kF ?k2 ?_; (case k2 => ((repeat' (first | (with_reducible assumption) | exact if_pos rfl | refine Eq.trans (if_neg (by decide)) ?_ | exact rfl)); done)); k_whole)) | walk1)) | fail "no step"))
  clear F N
  refine pairs_eval (L := L) f rfl rfl (by decide) rfl (by decide) rfl rfl (fun Q' hQ' => ldC c.F hm hQ' rfl rfl) c hr (by rw [sizeLine_eq]; omega) (by decide) (fun a b t u h tk C oL m₁ hab hC eL old sl ns hj hk => ?_) (fun D2 h tk c' hD2 => ?_)
  · clear hQ
    obtain ⟨dv, kn, us, rfl, ed, ln, hn'⟩ := hr2
    have hab' := hlt _ hab
    dsimp only at hab'
    obtain ⟨la, na, psa, ua, ea, ma, rda⟩ := hn' a (us[a]'(by omega)) (wss[a]'(by omega)) (by simp) (by simp)
    obtain ⟨lb, nb, psb, ub, eb, mb', rdb⟩ := hn' b (us[b]'(by omega)) (wss[b]'(by omega)) (by simp) (by simp)
    have wa := hw _ (List.getElem_mem (by omega : a < wss.length))
    have wb := hw _ (List.getElem_mem (by omega : b < wss.length))
    rw [← ma] at wa
    rw [← mb'] at wb
    have la2 : (m2 psa).length = psa.length := by simp [m2]
    have lb2 : (m2 psb).length = psb.length := by simp [m2]
    have hcmp : cmpP psa psb = f (a, b) := hf (a, b) hab psa psb (by rw [ma]; simp [List.getD_eq_getElem?_getD, hab'.1]) (by rw [mb']; simp [List.getD_eq_getElem?_getD, hab'.2])
    have lB : Le g (sub s.heap g) := le_sub c.gh
    have amB := (am.le c.bg).le lB
    have oBL : (sub s.heap g).get? L = none := sub_none c.oL
    have oB1 : (sub s.heap g).get? (L + 1) = none := sub_none c.og2
    have FB : Fr (sub s.heap g) C h m₁ := ⟨ns, fun b o e => old b o (fun q => by rw [q, oBL] at e; cases e) (sub_le b o e), by rw [sub_size]; exact hC⟩
    generalize sub s.heap g = B at *
    obtain ⟨XB, meanB, mgB, mbB, TB⟩ := id amB
    obtain ⟨rest, NR, hall⟩ := ledger_all FB
    have hkk : ∀ h' m' all, Fr B C h' m' → News B C h' all → (∀ p ∈ rest, p ∈ all) → ∀ b o, b ≠ C → h.get? b = some o → h'.get? b = some o := fun _ _ _ F' N' sub => le_of_ledger FB hall F' N' sub
    have nC1 : @Ne Nat (L + 1) C := Nat.ne_of_lt (Nat.lt_of_lt_of_le (Heap.lt_size c.c2) hC)
    have nCL : @Ne Nat L C := Nat.ne_of_lt (Nat.lt_of_lt_of_le (Heap.lt_size eL) hC)
    have NC : News B C h ((L + 1, o2) :: rest) := fun p hp => by
      rcases List.mem_cons.mp hp with rfl | hp
      · exact ⟨old _ _ ne1 c.c2, nC1, oB1⟩
      · exact NR p hp
    clear X T NR
    have edB := lB _ _ ed
    have eaB := lB _ _ ea
    have ebB := lB _ _ eb
    obtain ⟨sl, esl⟩ := sl
    obtain ⟨oL', es, ep, eo, rL⟩ := c.F.ns
    rw [eL] at eo
    cases eo
    (repeat' (first | (k_unfold; (try dsimp only)) | ((((((fail_if_success (with_reducible show wpAny _ _ (exec (Stmt.While _ _ _ _) _) _ _ _)); (fail_if_success (with_reducible show wpAny _ _ (exec (Stmt.For _ _ _ _ _) _) _ _ _)); (fail_if_success (with_reducible show wpAny _ _ (call (Value.ref _) _ _) _ _ _)); (fail_if_success (with_reducible show wpAny _ _ (eval (Expr.ListComp _ _ _ _) _) _ _ _)))); (fail_if_success (with_reducible show wpAny _ _ (call (Value.builtin "sorted") _ _) _ _ _)); (fail_if_success (with_reducible show wpAny _ _ (compareOp _ _ _) _ _ _)); (fail_if_success (with_reducible show wpAny _ _ (subscriptTail _ _ _ _) _ _ _)))); (first | (k_here; (with_reducible show wpAny _ _ (eval (Expr.Name _ _) (compEnvC _ _ _ _)) _ _ _); (with_reducible rename Fr _ _ _ _ => kF); k_dflt (refine' cname kF ?k2 ?_ ?k3 ?k4; (case k3 => exact rfl); (case k4 => exact rfl); (case k2 => ((repeat' (first | (with_reducible assumption) | exact if_pos rfl | refine Eq.trans (if_neg (by decide)) ?_ | exact rfl)); done)); k_whole)) | (k_here; (with_reducible show wpAny _ _ (eval (Expr.Name _ _) (envOf _ _ _ _ _)) _ _ _); (with_reducible rename Fr _ _ _ _ => kF); k_dflt (refine' ld kF ?k2 ?_; (case k2 => ((repeat' (first | (with_reducible assumption) | exact if_pos rfl | refine Eq.trans (if_neg (by decide)) ?_ | exact rfl)); done)); k_whole)) | walk1)) | ((((((fail_if_success (with_reducible show wpAny _ _ (exec (Stmt.While _ _ _ _) _) _ _ _)); (fail_if_success (with_reducible show wpAny _ _ (exec (Stmt.For _ _ _ _ _) _) _ _ _)); (fail_if_success (with_reducible show wpAny _ _ (call (Value.ref _) _ _) _ _ _)); (fail_if_success (with_reducible show wpAny _ _ (eval (Expr.ListComp _ _ _ _) _) _ _ _)))); (fail_if_success (with_reducible show wpAny _ _ (call (Value.builtin "sorted") _ _) _ _ _)); (fail_if_success (with_reducible show wpAny _ _ (compareOp _ _ _) _ _ _)); (fail_if_success (with_reducible show wpAny _ _ (subscriptTail _ _ _ _) _ _ _)))); dsimp only; (((((fail_if_success (with_reducible show wpAny _ _ (exec (Stmt.While _ _ _ _) _) _ _ _)); (fail_if_success (with_reducible show wpAny _ _ (exec (Stmt.For _ _ _ _ _) _) _ _ _)); (fail_if_success (with_reducible show wpAny _ _ (call (Value.ref _) _ _) _ _ _)); (fail_if_success (with_reducible show wpAny _ _ (eval (Expr.ListComp _ _ _ _) _) _ _ _)))); (fail_if_success (with_reducible show wpAny _ _ (call (Value.builtin "sorted") _ _) _ _ _)); (fail_if_success (with_reducible show wpAny _ _ (compareOp _ _ _) _ _ _)); (fail_if_success (with_reducible show wpAny _ _ (subscriptTail _ _ _ _) _ _ _)))); (first | (k_here; (with_reducible show wpAny _ _ (eval (Expr.Name _ _) (compEnvC _ _ _ _)) _ _ _); (with_reducible rename Fr _ _ _ _ => kF); k_dflt (refine' cname kF ?k2 ?_ ?k3 ?k4; (case k3 => exact rfl); (case k4 => exact rfl); (case k2 => ((repeat' (first | (with_reducible assumption) | exact if_pos rfl | refine Eq.trans (if_neg (by decide)) ?_ | exact rfl)); done)); k_whole)) | (k_here; (with_reducible show wpAny _ _ (eval (Expr.Name _ _) (envOf _ _ _ _ _)) _ _ _); (with_reducible rename Fr _ _ _ _ => kF); k_dflt (refine' ld kF ?k2 ?_; (case k2 => ((repeat' (first | (with_reducible assumption) | exact if_pos rfl | refine Eq.trans (if_neg (by decide)) ?_ | exact rfl)); done)); k_whole)) | walk1)) | fail "no step"))
    rename Fr _ _ _ _ => F1
    rename News _ _ _ _ => N1
    refine item_B (vs := us) (k := a) (PySem.IsL.isList (n := kn) (F1.keep _ _ edB)) (by omega) (v := .ref la) (by rw [← ua]; simp) ?_
    (repeat' (first | (k_unfold; (try dsimp only)) | ((((((fail_if_success (with_reducible show wpAny _ _ (exec (Stmt.While _ _ _ _) _) _ _ _)); (fail_if_success (with_reducible show wpAny _ _ (exec (Stmt.For _ _ _ _ _) _) _ _ _)); (fail_if_success (with_reducible show wpAny _ _ (call (Value.ref _) _ _) _ _ _)); (fail_if_success (with_reducible show wpAny _ _ (eval (Expr.ListComp _ _ _ _) _) _ _ _)))); (fail_if_success (with_reducible show wpAny _ _ (call (Value.builtin "sorted") _ _) _ _ _)); (fail_if_success (with_reducible show wpAny _ _ (compareOp _ _ _) _ _ _)); (fail_if_success (with_reducible show wpAny _ _ (subscriptTail _ _ _ _) _ _ _)))); (first | (k_here; (with_reducible show wpAny _ _ (eval (Expr.Name _ _) (compEnvC _ _ _ _)) _ _ _); (with_reducible rename Fr _ _ _ _ => kF); k_dflt (refine' cname kF ?k2 ?_ ?k3 ?k4; (case k3 => exact rfl); (case k4 => exact rfl); (case k2 => ((repeat' (first | (with_reducible assumption) | exact if_pos rfl | refine Eq.trans (if_neg (by decide)) ?_ | exact rfl)); done)); k_whole)) | (k_here; (with_reducible show wpAny _ _ (eval (Expr.Name _ _) (envOf _ _ _ _ _)) _ _ _); (with_reducible rename Fr _ _ _ _ => kF); k_dflt (refine' ld kF ?k2 ?_; (case k2 => ((repeat' (first | (with_reducible assumption) | exact if_pos rfl | refine Eq.trans (if_neg (by decide)) ?_ | exact rfl)); done)); k_whole)) | walk1)) | ((((((fail_if_success (with_reducible show wpAny _ _ (exec (Stmt.While _ _ _ _) _) _ _ _)); (fail_if_success (with_reducible show wpAny _ _ (exec (Stmt.For _ _ _ _ _) _) _ _ _)); (fail_if_success (with_reducible show wpAny _ _ (call (Value.ref _) _ _) _ _ _)); (fail_if_success (with_reducible show wpAny _ _ (eval (Expr.ListComp _ _ _ _) _) _ _ _)))); (fail_if_success (with_reducible show wpAny _ _ (call (Value.builtin "sorted") _ _) _ _ _)); (fail_if_success (with_reducible show wpAny _ _ (compareOp _ _ _) _ _ _)); (fail_if_success (with_reducible show wpAny _ _ (subscriptTail _ _ _ _) _ _ _)))); dsimp only; (((((fail_if_success (with_reducible show wpAny _ _ (exec (Stmt.While _ _ _ _) _) _ _ _)); (fail_if_success (with_reducible show wpAny _ _ (exec (Stmt.For _ _ _ _ _) _) _ _ _)); (fail_if_success (with_reducible show wpAny _ _ (call (Value.ref _) _ _) _ _ _)); (fail_if_success (with_reducible show wpAny _ _ (eval (Expr.ListComp _ _ _ _) _) _ _ _)))); (fail_if_success (with_reducible show wpAny _ _ (call (Value.builtin "sorted") _ _) _ _ _)); (fail_if_success (with_reducible show wpAny _ _ (compareOp _ _ _) _ _ _)); (fail_if_success (with_reducible show wpAny _ _ (subscriptTail _ _ _ _) _ _ _)))); (first | (k_here; (with_reducible show wpAny _ _ (eval (Expr.Name _ _) (compEnvC _ _ _ _)) _ _ _); (with_reducible rename Fr _ _ _ _ => kF); k_dflt (refine' cname kF ?k2 ?_ ?k3 ?k4; (case k3 => exact rfl); (case k4 => exact rfl); (case k2 => ((repeat' (first | (with_reducible assumption) | exact if_pos rfl | refine Eq.trans (if_neg (by decide)) ?_ | exact rfl)); done)); k_whole)) | (k_here; (with_reducible show wpAny _ _ (eval (Expr.Name _ _) (envOf _ _ _ _ _)) _ _ _); (with_reducible rename Fr _ _ _ _ => kF); k_dflt (refine' ld kF ?k2 ?_; (case k2 => ((repeat' (first | (with_reducible assumption) | exact if_pos rfl | refine Eq.trans (if_neg (by decide)) ?_ | exact rfl)); done)); k_whole)) | walk1)) | fail "no step"))
    rename Fr _ _ _ _ => F2
    rename News _ _ _ _ => N2
    refine item_B (vs := us) (k := b) (PySem.IsL.isList (n := kn) (F2.keep _ _ edB)) (by omega) (v := .ref lb) (by rw [← ub]; simp) ?_
    (repeat' (first | (k_unfold; (try dsimp only)) | ((((((fail_if_success (with_reducible show wpAny _ _ (exec (Stmt.While _ _ _ _) _) _ _ _)); (fail_if_success (with_reducible show wpAny _ _ (exec (Stmt.For _ _ _ _ _) _) _ _ _)); (fail_if_success (with_reducible show wpAny _ _ (call (Value.ref _) _ _) _ _ _)); (fail_if_success (with_reducible show wpAny _ _ (eval (Expr.ListComp _ _ _ _) _) _ _ _)))); (fail_if_success (with_reducible show wpAny _ _ (call (Value.builtin "sorted") _ _) _ _ _)); (fail_if_success (with_reducible show wpAny _ _ (compareOp _ _ _) _ _ _)); (fail_if_success (with_reducible show wpAny _ _ (subscriptTail _ _ _ _) _ _ _)))); (first | (k_here; (with_reducible show wpAny _ _ (eval (Expr.Name _ _) (compEnvC _ _ _ _)) _ _ _); (with_reducible rename Fr _ _ _ _ => kF); k_dflt (refine' cname kF ?k2 ?_ ?k3 ?k4; (case k3 => exact rfl); (case k4 => exact rfl); (case k2 => ((repeat' (first | (with_reducible assumption) | exact if_pos rfl | refine Eq.trans (if_neg (by decide)) ?_ | exact rfl)); done)); k_whole)) | (k_here; (with_reducible show wpAny _ _ (eval (Expr.Name _ _) (envOf _ _ _ _ _)) _ _ _); (with_reducible rename Fr _ _ _ _ => kF); k_dflt (refine' ld kF ?k2 ?_; (case k2 => ((repeat' (first | (with_reducible assumption) | exact if_pos rfl | refine Eq.trans (if_neg (by decide)) ?_ | exact rfl)); done)); k_whole)) | walk1)) | ((((((fail_if_success (with_reducible show wpAny _ _ (exec (Stmt.While _ _ _ _) _) _ _ _)); (fail_if_success (with_reducible show wpAny _ _ (exec (Stmt.For _ _ _ _ _) _) _ _ _)); (fail_if_success (with_reducible show wpAny _ _ (call (Value.ref _) _ _) _ _ _)); (fail_if_success (with_reducible show wpAny _ _ (eval (Expr.ListComp _ _ _ _) _) _ _ _)))); (fail_if_success (with_reducible show wpAny _ _ (call (Value.builtin "sorted") _ _) _ _ _)); (fail_if_success (with_reducible show wpAny _ _ (compareOp _ _ _) _ _ _)); (fail_if_success (with_reducible show wpAny _ _ (subscriptTail _ _ _ _) _ _ _)))); dsimp only; (((((fail_if_success (with_reducible show wpAny _ _ (exec (Stmt.While _ _ _ _) _) _ _ _)); (fail_if_success (with_reducible show wpAny _ _ (exec (Stmt.For _ _ _ _ _) _) _ _ _)); (fail_if_success (with_reducible show wpAny _ _ (call (Value.ref _) _ _) _ _ _)); (fail_if_success (with_reducible show wpAny _ _ (eval (Expr.ListComp _ _ _ _) _) _ _ _)))); (fail_if_success (with_reducible show wpAny _ _ (call (Value.builtin "sorted") _ _) _ _ _)); (fail_if_success (with_reducible show wpAny _ _ (compareOp _ _ _) _ _ _)); (fail_if_success (with_reducible show wpAny _ _ (subscriptTail _ _ _ _) _ _ _)))); (first | (k_here; (with_reducible show wpAny _ _ (eval (Expr.Name _ _) (compEnvC _ _ _ _)) _ _ _); (with_reducible rename Fr _ _ _ _ => kF); k_dflt (refine' cname kF ?k2 ?_ ?k3 ?k4; (case k3 => exact rfl); (case k4 => exact rfl); (case k2 => ((repeat' (first | (with_reducible assumption) | exact if_pos rfl | refine Eq.trans (if_neg (by decide)) ?_ | exact rfl)); done)); k_whole)) | (k_here; (with_reducible show wpAny _ _ (eval (Expr.Name _ _) (envOf _ _ _ _ _)) _ _ _); (with_reducible rename Fr _ _ _ _ => kF); k_dflt (refine' ld kF ?k2 ?_; (case k2 => ((repeat' (first | (with_reducible assumption) | exact if_pos rfl | refine Eq.trans (if_neg (by decide)) ?_ | exact rfl)); done)); k_whole)) | walk1)) | fail "no step"))
    rename Fr _ _ _ _ => F3
    refine compare_c amB F3.keep (room_law _) rfl (fun q => nomatch q) rfl esl ⟨es, ep, rL.1⟩ oBL (PySem.IsL.isList (n := na) eaB) (fun q hq => (rda q hq).le lB) (by omega) (PySem.IsL.isList (n := nb) ebB) (fun q hq => (rdb q hq).le lB) (by omega) (fun h9 tk9 sl9 k9 e9 => ?_)
    exact ⟨h9, _, m₁, rfl, ns.at' fun o e => k9 _ o (Ne.symm nCL) e, fun b o _ q2 e => k9 b o q2 e, ⟨sl9, e9⟩, by rw [hcmp]⟩
  · have F := c'.F
    have N : News base L h [] := News.nil
    (repeat' (first | (k_unfold; (try dsimp only)) | ((((((fail_if_success (with_reducible show wpAny _ _ (exec (Stmt.While _ _ _ _) _) _ _ _)); (fail_if_success (with_reducible show wpAny _ _ (exec (Stmt.For _ _ _ _ _) _) _ _ _)); (fail_if_success (with_reducible show wpAny _ _ (call (Value.ref _) _ _) _ _ _)); (fail_if_success (with_reducible show wpAny _ _ (eval (Expr.ListComp _ _ _ _) _) _ _ _)))); (fail_if_success (with_reducible show wpAny _ _ (call (Value.builtin "sorted") _ _) _ _ _)); (fail_if_success (with_reducible show wpAny _ _ (compareOp _ _ _) _ _ _)); (fail_if_success (with_reducible show wpAny _ _ (subscriptTail _ _ _ _) _ _ _)))); (first | (k_here; (with_reducible show wpAny _ _ (eval (Expr.Name _ _) (compEnvC _ _ _ _)) _ _ _); (with_reducible rename Fr _ _ _ _ => kF); k_dflt (refine' cname kF ?k2 ?_ ?k3 ?k4; (case k3 => exact rfl); (case k4 => exact rfl); (case k2 => ((repeat' (first | (with_reducible assumption) | exact if_pos rfl | refine Eq.trans (if_neg (by decide)) ?_ | exact rfl)); done)); k_whole)) | (k_here; (with_reducible show wpAny _ _ (eval (Expr.Name _ _) (envOf _ _ _ _ _)) _ _ _); (with_reducible rename Fr _ _ _ _ => kF); k_dflt (refine' ld kF ?k2 ?_; (case k2 => ((repeat' (first | (with_reducible assumption) | exact if_pos rfl | refine Eq.trans (if_neg (by decide)) ?_ | exact rfl)); done)); k_whole)) | walk1)) | ((((((fail_if_success (with_reducible show wpAny _ _ (exec (Stmt.While _ _ _ _) _) _ _ _)); (fail_if_success (with_reducible show wpAny _ _ (exec (Stmt.For _ _ _ _ _) _) _ _ _)); (fail_if_success (with_reducible show wpAny _ _ (call (Value.ref _) _ _) _ _ _)); (fail_if_success (with_reducible show wpAny _ _ (eval (Expr.ListComp _ _ _ _) _) _ _ _)))); (fail_if_success (with_reducible show wpAny _ _ (call (Value.builtin "sorted") _ _) _ _ _)); (fail_if_success (with_reducible show wpAny _ _ (compareOp _ _ _) _ _ _)); (fail_if_success (with_reducible show wpAny _ _ (subscriptTail _ _ _ _) _ _ _)))); dsimp only; (((((fail_if_success (with_reducible show wpAny _ _ (exec (Stmt.While _ _ _ _) _) _ _ _)); (fail_if_success (with_reducible show wpAny _ _ (exec (Stmt.For _ _ _ _ _) _) _ _ _)); (fail_if_success (with_reducible show wpAny _ _ (call (Value.ref _) _ _) _ _ _)); (fail_if_success (with_reducible show wpAny _ _ (eval (Expr.ListComp _ _ _ _) _) _ _ _)))); (fail_if_success (with_reducible show wpAny _ _ (call (Value.builtin "sorted") _ _) _ _ _)); (fail_if_success (with_reducible show wpAny _ _ (compareOp _ _ _) _ _ _)); (fail_if_success (with_reducible show wpAny _ _ (subscriptTail _ _ _ _) _ _ _)))); (first | (k_here; (with_reducible show wpAny _ _ (eval (Expr.Name _ _) (compEnvC _ _ _ _)) _ _ _); (with_reducible rename Fr _ _ _ _ => kF); k_dflt (refine' cname kF ?k2 ?_ ?k3 ?k4; (case k3 => exact rfl); (case k4 => exact rfl); (case k2 => ((repeat' (first | (with_reducible assumption) | exact if_pos rfl | refine Eq.trans (if_neg (by decide)) ?_ | exact rfl)); done)); k_whole)) | (k_here; (with_reducible show wpAny _ _ (eval (Expr.Name _ _) (envOf _ _ _ _ _)) _ _ _); (with_reducible rename Fr _ _ _ _ => kF); k_dflt (refine' ld kF ?k2 ?_; (case k2 => ((repeat' (first | (with_reducible assumption) | exact if_pos rfl | refine Eq.trans (if_neg (by decide)) ?_ | exact rfl)); done)); k_whole)) | walk1)) | fail "no step"))
    rename Fr _ _ _ _ => F4
    refine ldC F4 hm2 ?_ rfl rfl
    (repeat' (first | (k_unfold; (try dsimp only)) | ((((((fail_if_success (with_reducible show wpAny _ _ (exec (Stmt.While _ _ _ _) _) _ _ _)); (fail_if_success (with_reducible show wpAny _ _ (exec (Stmt.For _ _ _ _ _) _) _ _ _)); (fail_if_success (with_reducible show wpAny _ _ (call (Value.ref _) _ _) _ _ _)); (fail_if_success (with_reducible show wpAny _ _ (eval (Expr.ListComp _ _ _ _) _) _ _ _)))); (fail_if_success (with_reducible show wpAny _ _ (call (Value.builtin "sorted") _ _) _ _ _)); (fail_if_success (with_reducible show wpAny _ _ (compareOp _ _ _) _ _ _)); (fail_if_success (with_reducible show wpAny _ _ (subscriptTail _ _ _ _) _ _ _)))); (first | (k_here; (with_reducible show wpAny _ _ (eval (Expr.Name _ _) (compEnvC _ _ _ _)) _ _ _); (with_reducible rename Fr _ _ _ _ => kF); k_dflt (refine' cname kF ?k2 ?_ ?k3 ?k4; (case k3 => exact rfl); (case k4 => exact rfl); (case k2 => ((repeat' (first | (with_reducible assumption) | exact if_pos rfl | refine Eq.trans (if_neg (by decide)) ?_ | exact rfl)); done)); k_whole)) | (k_here; (with_reducible show wpAny _ _ (eval (Expr.Name _ _) (envOf _ _ _ _ _)) _ _ _); (with_reducible rename Fr _ _ _ _ => kF); k_dflt (refine' ld kF ?k2 ?_; (case k2 => ((repeat' (first | (with_reducible assumption) | exact if_pos rfl | refine Eq.trans (if_neg (by decide)) ?_ | exact rfl)); done)); k_whole)) | walk1)) | ((((((fail_if_success (with_reducible show wpAny _ _ (exec (Stmt.While _ _ _ _) _) _ _ _)); (fail_if_success (with_reducible show wpAny _ _ (exec (Stmt.For _ _ _ _ _) _) _ _ _)); (fail_if_success (with_reducible show wpAny _ _ (call (Value.ref _) _ _) _ _ _)); (fail_if_success (with_reducible show wpAny _ _ (eval (Expr.ListComp _ _ _ _) _) _ _ _)))); (fail_if_success (with_reducible show wpAny _ _ (call (Value.builtin "sorted") _ _) _ _ _)); (fail_if_success (with_reducible show wpAny _ _ (compareOp _ _ _) _ _ _)); (fail_if_success (with_reducible show wpAny _ _ (subscriptTail _ _ _ _) _ _ _)))); dsimp only; (((((fail_if_success (with_reducible show wpAny _ _ (exec (Stmt.While _ _ _ _) _) _ _ _)); (fail_if_success (with_reducible show wpAny _ _ (exec (Stmt.For _ _ _ _ _) _) _ _ _)); (fail_if_success (with_reducible show wpAny _ _ (call (Value.ref _) _ _) _ _ _)); (fail_if_success (with_reducible show wpAny _ _ (eval (Expr.ListComp _ _ _ _) _) _ _ _)))); (fail_if_success (with_reducible show wpAny _ _ (call (Value.builtin "sorted") _ _) _ _ _)); (fail_if_success (with_reducible show wpAny _ _ (compareOp _ _ _) _ _ _)); (fail_if_success (with_reducible show wpAny _ _ (subscriptTail _ _ _ _) _ _ _)))); (first | (k_here; (with_reducible show wpAny _ _ (eval (Expr.Name _ _) (compEnvC _ _ _ _)) _ _ _); (with_reducible rename Fr _ _ _ _ => kF); k_dflt (refine' cname kF ?k2 ?_ ?k3 ?k4; (case k3 => exact rfl); (case k4 => exact rfl); (case k2 => ((repeat' (first | (with_reducible assumption) | exact if_pos rfl | refine Eq.trans (if_neg (by decide)) ?_ | exact rfl)); done)); k_whole)) | (k_here; (with_reducible show wpAny _ _ (eval (Expr.Name _ _) (envOf _ _ _ _ _)) _ _ _); (with_reducible rename Fr _ _ _ _ => kF); k_dflt (refine' ld kF ?k2 ?_; (case k2 => ((repeat' (first | (with_reducible assumption) | exact if_pos rfl | refine Eq.trans (if_neg (by decide)) ?_ | exact rfl)); done)); k_whole)) | walk1)) | fail "no step"))
    refine eq_bools (rd_bools hD2) (rd_bools (c'.gh _ _ hD)) (by show 4 + 3 + 6 < cLine; decide) ?_
    (repeat' (first | (k_unfold; (try dsimp only)) | ((((((fail_if_success (with_reducible show wpAny _ _ (exec (Stmt.While _ _ _ _) _) _ _ _)); (fail_if_success (with_reducible show wpAny _ _ (exec (Stmt.For _ _ _ _ _) _) _ _ _)); (fail_if_success (with_reducible show wpAny _ _ (call (Value.ref _) _ _) _ _ _)); (fail_if_success (with_reducible show wpAny _ _ (eval (Expr.ListComp _ _ _ _) _) _ _ _)))); (fail_if_success (with_reducible show wpAny _ _ (call (Value.builtin "sorted") _ _) _ _ _)); (fail_if_success (with_reducible show wpAny _ _ (compareOp _ _ _) _ _ _)); (fail_if_success (with_reducible show wpAny _ _ (subscriptTail _ _ _ _) _ _ _)))); (first | (k_here; (with_reducible show wpAny _ _ (eval (Expr.Name _ _) (compEnvC _ _ _ _)) _ _ _); (with_reducible rename Fr _ _ _ _ => kF); k_dflt (refine' cname kF ?k2 ?_ ?k3 ?k4; (case k3 => exact rfl); (case k4 => exact rfl); (case k2 => ((repeat' (first | (with_reducible assumption) | exact if_pos rfl | refine Eq.trans (if_neg (by decide)) ?_ | exact rfl)); done)); k_whole)) | (k_here; (with_reducible show wpAny _ _ (eval (Expr.Name _ _) (envOf _ _ _ _ _)) _ _ _); (with_reducible rename Fr _ _ _ _ => kF); k_dflt (refine' ld kF ?k2 ?_; (case k2 => ((repeat' (first | (with_reducible assumption) | exact if_pos rfl | refine Eq.trans (if_neg (by decide)) ?_ | exact rfl)); done)); k_whole)) | walk1)) | ((((((fail_if_success (with_reducible show wpAny _ _ (exec (Stmt.While _ _ _ _) _) _ _ _)); (fail_if_success (with_reducible show wpAny _ _ (exec (Stmt.For _ _ _ _ _) _) _ _ _)); (fail_if_success (with_reducible show wpAny _ _ (call (Value.ref _) _ _) _ _ _)); (fail_if_success (with_reducible show wpAny _ _ (eval (Expr.ListComp _ _ _ _) _) _ _ _)))); (fail_if_success (with_reducible show wpAny _ _ (call (Value.builtin "sorted") _ _) _ _ _)); (fail_if_success (with_reducible show wpAny _ _ (compareOp _ _ _) _ _ _)); (fail_if_success (with_reducible show wpAny _ _ (subscriptTail _ _ _ _) _ _ _)))); dsimp only; (((((fail_if_success (with_reducible show wpAny _ _ (exec (Stmt.While _ _ _ _) _) _ _ _)); (fail_if_success (with_reducible show wpAny _ _ (exec (Stmt.For _ _ _ _ _) _) _ _ _)); (fail_if_success (with_reducible show wpAny _ _ (call (Value.ref _) _ _) _ _ _)); (fail_if_success (with_reducible show wpAny _ _ (eval (Expr.ListComp _ _ _ _) _) _ _ _)))); (fail_if_success (with_reducible show wpAny _ _ (call (Value.builtin "sorted") _ _) _ _ _)); (fail_if_success (with_reducible show wpAny _ _ (compareOp _ _ _) _ _ _)); (fail_if_success (with_reducible show wpAny _ _ (subscriptTail _ _ _ _) _ _ _)))); (first | (k_here; (with_reducible show wpAny _ _ (eval (Expr.Name _ _) (compEnvC _ _ _ _)) _ _ _); (with_reducible rename Fr _ _ _ _ => kF); k_dflt (refine' cname kF ?k2 ?_ ?k3 ?k4; (case k3 => exact rfl); (case k4 => exact rfl); (case k2 => ((repeat' (first | (with_reducible assumption) | exact if_pos rfl | refine Eq.trans (if_neg (by decide)) ?_ | exact rfl)); done)); k_whole)) | (k_here; (with_reducible show wpAny _ _ (eval (Expr.Name _ _) (envOf _ _ _ _ _)) _ _ _); (with_reducible rename Fr _ _ _ _ => kF); k_dflt (refine' ld kF ?k2 ?_; (case k2 => ((repeat' (first | (with_reducible assumption) | exact if_pos rfl | refine Eq.trans (if_neg (by decide)) ?_ | exact rfl)); done)); k_whole)) | walk1)) | fail "no step"))
    exact hQ _ _ _ c'.F
end

section
open PySem PySem.W PyProof.Rows PySem.Calls PySem.SeqAt
open PyProof.Rows.LCg
theorem size_pick {its its2 : Array Value} {lo hi st : Option Int} (h : its.size ≤ 100) (ha : its2.size ≤ 100) : its2.size + (slicePick its lo hi st).size ≤ sizeLine := by
  have := slicePick_size_le its lo hi st
  rw [sizeLine_eq]; omega
theorem rowI_of {g : Heap} {a : Addr} {n : Nat} {us : List Value} {ns : List Int} (e : g.get? a = some (W.listOf us.toArray n)) (h : IntsAre us ns) : RowI g (.ref a) ns := ⟨a, n, us, rfl, e, (ints_seq h).1, (ints_seq h).2⟩


theorem law_0 {w : World} {s : Shared} {Q : Flow → Shared → Prop} {base g : Heap} {mean : ExcName → Option Value} {mg mb : Str → Option Value} {fa L : Addr} {cv : Value} {o1 o2 : Obj} {m : Str → Option Value}
    {name qual : Str} {params : Arguments} {body : List Stmt} {scope : Scope} {dV kV doc pm cdv ct oc : Value} {an od : Option Addr} {osl : Array (Option Value)}
    (X : (cap.heap_1 w.params).In base) (T : Top hd.view_39 (looseW hd.view_39 []) mean mg mb base)
    (ho : (cap.heap_1 w.params).lookup 200 = some ⟨oc, od, .func (fnOf name qual params body scope dV kV doc pm an cdv ct), osl⟩) {l : Addr} {vs : List Value} {ns : List Int}
    (F : Fr base L s.heap m) (N : News base L s.heap [(L + 1 + 1, o1), (L + 1, o2)]) (d1 : ∃ v, o1.data = .cell v) (d2 : ∃ v, o2.data = .cell v)
    (hm : m (Str.ofString "script") = some (.ref l)) (hl : base.IsList l vs.toArray) (hI : IntsAre vs ns) (hlen : ns.length ≤ 63)
    (k : ∀ h' tk' g' v m', LC base g' L o1 o2 h' m' → m' (Str.ofString "rows") = some v → RowsI g' v [[14, 75, 82, 115, 25, 76, 84] ++ pickNums (ns.take 4) none none (some 2), [90, 75, 14, 91, 80, 81] ++ pickNums (ns.take 4) (some 1) none (some 2)] → wpAny (model Challenge.rw_ny0132_01.row.prog w) (callerA.deeper (envOfC qual scope L fa cv)) (execs (body.drop 2) (envOfC qual scope L fa cv)) Q (fun _ _ => False) { s with heap := h', toks := tk' }) :
    wpAny (model Challenge.rw_ny0132_01.row.prog w) (callerA.deeper (envOfC qual scope L fa cv)) (execs (body.drop 0) (envOfC qual scope L fa cv)) Q (fun _ _ => False) s := by
  have am : Amb w base := ⟨X, mean, mg, mb, T⟩
  revert X; k_fill; intro X
  have key : ∀ o', (cap.heap_1 w.params).lookup 200 = some o' → o' = ⟨oc, od, .func (fnOf name qual params body scope dV kV doc pm an cdv ct), osl⟩ := fun o' h => Option.some.inj (h.symm.trans ho)
  obtain ⟨rfl, rfl, rfl⟩ := fn_inj (key _ (by k_is))
  clear key ho
  show wpAny _ _ _ _ _ _
  dsimp only [List.drop]
  dsimp only [List.drop] at k
  (repeat' (first | (k_unfold; (try dsimp only)) | ((((((fail_if_success (with_reducible show wpAny _ _ (exec (Stmt.While _ _ _ _) _) _ _ _)); (fail_if_success (with_reducible show wpAny _ _ (exec (Stmt.For _ _ _ _ _) _) _ _ _)); (fail_if_success (with_reducible show wpAny _ _ (call (Value.ref _) _ _) _ _ _)); (fail_if_success (with_reducible show wpAny _ _ (eval (Expr.ListComp _ _ _ _) _) _ _ _)))); (fail_if_success (with_reducible show wpAny _ _ (storeName _ (Str.ofString "rows") _) _ _ _)))); (first | (k_here; (with_reducible show wpAny _ _ (eval (Expr.Name _ _) (envOfC _ _ _ _ _)) _ _ _); (with_reducible rename Fr _ _ _ _ => kF); k_dflt (refine' ldC kF ?k2 ?_ ?k3 ?k4; (case k3 => exact rfl); (case k4 => exact rfl); (case k2 => ((repeat' (first | (with_reducible assumption) | exact if_pos rfl | refine Eq.trans (if_neg (by decide)) ?_ | exact rfl)); done)); k_whole)) | (k_here; (with_reducible show wpAny _ _ (eval (Expr.Name _ _) (compEnvC _ _ _ _)) _ _ _); (with_reducible rename Fr _ _ _ _ => kF); k_dflt (refine' cname kF ?k2 ?_ ?k3 ?k4; (case k3 => exact rfl); (case k4 => exact rfl); (case k2 => ((repeat' (first | (with_reducible assumption) | exact if_pos rfl | refine Eq.trans (if_neg (by decide)) ?_ | exact rfl)); done)); k_whole)) | (k_here; (with_reducible show wpAny _ _ (eval (Expr.Name _ _) (envOf _ _ _ _ _)) _ _ _); (with_reducible rename Fr _ _ _ _ => kF); k_dflt (refine' ld kF ?k2 ?_; (case k2 => ((repeat' (first | (with_reducible assumption) | exact if_pos rfl | refine Eq.trans (if_neg (by decide)) ?_ | exact rfl)); done)); k_whole)) | ((with_reducible show wpAny _ _ (binaryOp Operator.Add (Value.ref _) (Value.ref _)) _ _ _); k_here; (with_reducible rename IntsAre _ _ => zI); k_dflt (refine' add_A ?k1 ?k2 ?k3 ?k4 ?z ?_; (case k1 => k_asm); (case k2 => k_asm); (case k3 => is_list); (case k4 => is_list); (case z => (refine size_pick ?_ ?_; (have zz := IntsAre.length zI; rw [List.length_take] at zz; simp only [List.size_toArray]; omega); (simp only [List.size_toArray, List.length_cons, List.length_nil]; omega))); k_whole); intro l' h' F' N' l1; (try k_lt l1)) | walk1)) | ((((((fail_if_success (with_reducible show wpAny _ _ (exec (Stmt.While _ _ _ _) _) _ _ _)); (fail_if_success (with_reducible show wpAny _ _ (exec (Stmt.For _ _ _ _ _) _) _ _ _)); (fail_if_success (with_reducible show wpAny _ _ (call (Value.ref _) _ _) _ _ _)); (fail_if_success (with_reducible show wpAny _ _ (eval (Expr.ListComp _ _ _ _) _) _ _ _)))); (fail_if_success (with_reducible show wpAny _ _ (storeName _ (Str.ofString "rows") _) _ _ _)))); dsimp only; (((((fail_if_success (with_reducible show wpAny _ _ (exec (Stmt.While _ _ _ _) _) _ _ _)); (fail_if_success (with_reducible show wpAny _ _ (exec (Stmt.For _ _ _ _ _) _) _ _ _)); (fail_if_success (with_reducible show wpAny _ _ (call (Value.ref _) _ _) _ _ _)); (fail_if_success (with_reducible show wpAny _ _ (eval (Expr.ListComp _ _ _ _) _) _ _ _)))); (fail_if_success (with_reducible show wpAny _ _ (storeName _ (Str.ofString "rows") _) _ _ _)))); (first | (k_here; (with_reducible show wpAny _ _ (eval (Expr.Name _ _) (envOfC _ _ _ _ _)) _ _ _); (with_reducible rename Fr _ _ _ _ => kF); k_dflt (refine' ldC kF ?k2 ?_ ?k3 ?k4; (case k3 => exact rfl); (case k4 => exact rfl); (case k2 => ((repeat' (first | (with_reducible assumption) | exact if_pos rfl | refine Eq.trans (if_neg (by decide)) ?_ | exact rfl)); done)); k_whole)) | (k_here; (with_reducible show wpAny _ _ (eval (Expr.Name _ _) (compEnvC _ _ _ _)) _ _ _); (with_reducible rename Fr _ _ _ _ => kF); k_dflt (refine' cname kF ?k2 ?_ ?k3 ?k4; (case k3 => exact rfl); (case k4 => exact rfl); (case k2 => ((repeat' (first | (with_reducible assumption) | exact if_pos rfl | refine Eq.trans (if_neg (by decide)) ?_ | exact rfl)); done)); k_whole)) | (k_here; (with_reducible show wpAny _ _ (eval (Expr.Name _ _) (envOf _ _ _ _ _)) _ _ _); (with_reducible rename Fr _ _ _ _ => kF); k_dflt (refine' ld kF ?k2 ?_; (case k2 => ((repeat' (first | (with_reducible assumption) | exact if_pos rfl | refine Eq.trans (if_neg (by decide)) ?_ | exact rfl)); done)); k_whole)) | ((with_reducible show wpAny _ _ (binaryOp Operator.Add (Value.ref _) (Value.ref _)) _ _ _); k_here; (with_reducible rename IntsAre _ _ => zI); k_dflt (refine' add_A ?k1 ?k2 ?k3 ?k4 ?z ?_; (case k1 => k_asm); (case k2 => k_asm); (case k3 => is_list); (case k4 => is_list); (case z => (refine size_pick ?_ ?_; (have zz := IntsAre.length zI; rw [List.length_take] at zz; simp only [List.size_toArray]; omega); (simp only [List.size_toArray, List.length_cons, List.length_nil]; omega))); k_whole); intro l' h' F' N' l1; (try k_lt l1)) | walk1)) | fail "no step"))
  rename Fr _ _ _ _ => F'
  rename News _ _ _ _ => N'
  rename IntsAre _ (List.take 4 ns) => zI
  have c0 := LC.start F' (N' (L + 1 + 1, o1) (by repeat (first | exact .head _ | refine List.Mem.tail _ ?_))).1 (N' (L + 1, o2) (by repeat (first | exact .head _ | refine List.Mem.tail _ ?_))).1
  obtain ⟨g', cg, lg, hall⟩ := c0.all
  have isnew : ∀ (a : Addr) (its : Array Value) (n : Nat), (a, W.listOf its n) ∈ _ → g'.get? a = some (W.listOf its n) := fun a its n hm => by
    have z := N' _ hm
    rw [hall a z.2.1 (fun q => ?_) (fun q => ?_)]
    · exact z.1
    · have z1 : _ = _ := z.1
      dsimp only at z1
      rw [q, c0.c2] at z1
      obtain ⟨v, dv⟩ := d2
      cases z1; cases dv
    · have z1 : _ = _ := z.1
      dsimp only at z1
      rw [q, c0.c1] at z1
      obtain ⟨v, dv⟩ := d1
      cases z1; cases dv
  refine LC.store cg rfl rfl rfl fun h4 tk4 c4 => ?_
  dsimp only
  refine k _ _ _ _ _ c4 (if_pos rfl) ⟨_, 0, [_, _], rfl, isnew _ _ _ (.head _), rfl, fun i u x h1 h2 => ?_⟩
  match i, h1, h2 with
  | 0, h1, h2 =>
    cases h1; cases h2
    refine rowI_of (isnew _ _ _ (by repeat (first | exact .head _ | refine List.Mem.tail _ ?_))) ?_
    exact .cons _ _ (.cons _ _ (.cons _ _ (.cons _ _ (.cons _ _ (.cons _ _ (.cons _ _ (zI.pick none none (some 2))))))))
  | 1, h1, h2 =>
    cases h1; cases h2
    refine rowI_of (isnew _ _ _ (by repeat (first | exact .head _ | refine List.Mem.tail _ ?_))) ?_
    exact .cons _ _ (.cons _ _ (.cons _ _ (.cons _ _ (.cons _ _ (.cons _ _ (zI.pick (some 1) none (some 2)))))))
  | i + 2, h1, h2 => simp at h1
end

section
open PySem PySem.W PyProof.Rows
noncomputable def allW : WW := [[], [false], [true], [false,false],[false,true],[true,false],[true,true],[false,false,false],[false,false,true],[false,true,false],[false,true,true],[true,false,false],[true,false,true],[true,true,false],[true,true,true]]
noncomputable def c0 : WW := [[false], [false, false], [true], [false, true], [false, false, true], [true, false], [true, true]]
noncomputable def c1 : WW := [[false], [false, false], [false], [true], [false, true], [true, true]]
noncomputable def incB : WW → Bool
  | [] => true
  | x :: r => r.all (ltW x) && incB r
noncomputable def chk1 (ws : WW) : Bool := (dedW (offW ws) == dedW (sortW ws)) && incB (sortW (dedW ws)) && decide (2 ≤ (dedW ws).length)
theorem kA0 : (allW.all fun b => chk1 (c0 ++ [allW.getD 0 [], b])) = true := by decide +kernel
theorem kA1 : (allW.all fun b => chk1 (c0 ++ [allW.getD 1 [], b])) = true := by decide +kernel
theorem kA2 : (allW.all fun b => chk1 (c0 ++ [allW.getD 2 [], b])) = true := by decide +kernel
theorem kA3 : (allW.all fun b => chk1 (c0 ++ [allW.getD 3 [], b])) = true := by decide +kernel
theorem kA4 : (allW.all fun b => chk1 (c0 ++ [allW.getD 4 [], b])) = true := by decide +kernel
theorem kA5 : (allW.all fun b => chk1 (c0 ++ [allW.getD 5 [], b])) = true := by decide +kernel
theorem kA6 : (allW.all fun b => chk1 (c0 ++ [allW.getD 6 [], b])) = true := by decide +kernel
theorem kA7 : (allW.all fun b => chk1 (c0 ++ [allW.getD 7 [], b])) = true := by decide +kernel
theorem kA8 : (allW.all fun b => chk1 (c0 ++ [allW.getD 8 [], b])) = true := by decide +kernel
theorem kA9 : (allW.all fun b => chk1 (c0 ++ [allW.getD 9 [], b])) = true := by decide +kernel
theorem kA10 : (allW.all fun b => chk1 (c0 ++ [allW.getD 10 [], b])) = true := by decide +kernel
theorem kA11 : (allW.all fun b => chk1 (c0 ++ [allW.getD 11 [], b])) = true := by decide +kernel
theorem kA12 : (allW.all fun b => chk1 (c0 ++ [allW.getD 12 [], b])) = true := by decide +kernel
theorem kA13 : (allW.all fun b => chk1 (c0 ++ [allW.getD 13 [], b])) = true := by decide +kernel
theorem kA14 : (allW.all fun b => chk1 (c0 ++ [allW.getD 14 [], b])) = true := by decide +kernel
theorem kAs : chk1 c0 = true ∧ (allW.all fun b => chk1 (c0 ++ [b])) = true := by decide +kernel
theorem kAt (a b : List Bool) (ha : a ∈ allW) (hb : b ∈ allW) : chk1 (c0 ++ [a, b]) = true := by
  have g : ∀ k, k < 15 → (allW.all fun b => chk1 (c0 ++ [allW.getD k [], b])) = true := fun k hk => by
    match k, hk with
    | 0, _ => exact kA0
    | 1, _ => exact kA1
    | 2, _ => exact kA2
    | 3, _ => exact kA3
    | 4, _ => exact kA4
    | 5, _ => exact kA5
    | 6, _ => exact kA6
    | 7, _ => exact kA7
    | 8, _ => exact kA8
    | 9, _ => exact kA9
    | 10, _ => exact kA10
    | 11, _ => exact kA11
    | 12, _ => exact kA12
    | 13, _ => exact kA13
    | 14, _ => exact kA14
    | k + 15, h => omega
  obtain ⟨k, hk, rfl⟩ := List.getElem_of_mem ha
  have hk' : k < 15 := hk
  have := List.all_eq_true.mp (g k hk') b hb
  rwa [List.getD_eq_getElem?_getD, List.getElem?_eq_getElem hk] at this
theorem kB0 : (allW.all fun b => chk1 (c1 ++ [allW.getD 0 [], b])) = true := by decide +kernel
theorem kB1 : (allW.all fun b => chk1 (c1 ++ [allW.getD 1 [], b])) = true := by decide +kernel
theorem kB2 : (allW.all fun b => chk1 (c1 ++ [allW.getD 2 [], b])) = true := by decide +kernel
theorem kB3 : (allW.all fun b => chk1 (c1 ++ [allW.getD 3 [], b])) = true := by decide +kernel
theorem kB4 : (allW.all fun b => chk1 (c1 ++ [allW.getD 4 [], b])) = true := by decide +kernel
theorem kB5 : (allW.all fun b => chk1 (c1 ++ [allW.getD 5 [], b])) = true := by decide +kernel
theorem kB6 : (allW.all fun b => chk1 (c1 ++ [allW.getD 6 [], b])) = true := by decide +kernel
theorem kB7 : (allW.all fun b => chk1 (c1 ++ [allW.getD 7 [], b])) = true := by decide +kernel
theorem kB8 : (allW.all fun b => chk1 (c1 ++ [allW.getD 8 [], b])) = true := by decide +kernel
theorem kB9 : (allW.all fun b => chk1 (c1 ++ [allW.getD 9 [], b])) = true := by decide +kernel
theorem kB10 : (allW.all fun b => chk1 (c1 ++ [allW.getD 10 [], b])) = true := by decide +kernel
theorem kB11 : (allW.all fun b => chk1 (c1 ++ [allW.getD 11 [], b])) = true := by decide +kernel
theorem kB12 : (allW.all fun b => chk1 (c1 ++ [allW.getD 12 [], b])) = true := by decide +kernel
theorem kB13 : (allW.all fun b => chk1 (c1 ++ [allW.getD 13 [], b])) = true := by decide +kernel
theorem kB14 : (allW.all fun b => chk1 (c1 ++ [allW.getD 14 [], b])) = true := by decide +kernel
theorem kBs : chk1 c1 = true ∧ (allW.all fun b => chk1 (c1 ++ [b])) = true := by decide +kernel
theorem kBt (a b : List Bool) (ha : a ∈ allW) (hb : b ∈ allW) : chk1 (c1 ++ [a, b]) = true := by
  have g : ∀ k, k < 15 → (allW.all fun b => chk1 (c1 ++ [allW.getD k [], b])) = true := fun k hk => by
    match k, hk with
    | 0, _ => exact kB0
    | 1, _ => exact kB1
    | 2, _ => exact kB2
    | 3, _ => exact kB3
    | 4, _ => exact kB4
    | 5, _ => exact kB5
    | 6, _ => exact kB6
    | 7, _ => exact kB7
    | 8, _ => exact kB8
    | 9, _ => exact kB9
    | 10, _ => exact kB10
    | 11, _ => exact kB11
    | 12, _ => exact kB12
    | 13, _ => exact kB13
    | 14, _ => exact kB14
    | k + 15, h => omega
  obtain ⟨k, hk, rfl⟩ := List.getElem_of_mem ha
  have hk' : k < 15 := hk
  have := List.all_eq_true.mp (g k hk') b hb
  rwa [List.getD_eq_getElem?_getD, List.getElem?_eq_getElem hk] at this

theorem chk_tail {c : WW} (s : chk1 c = true ∧ (allW.all fun b => chk1 (c ++ [b])) = true) (h : ∀ a b, a ∈ allW → b ∈ allW → chk1 (c ++ [a, b]) = true) (t : WW) (hl : t.length ≤ 2) (ht : ∀ x ∈ t, x ∈ allW) : chk1 (c ++ t) = true := by
  match t, hl, ht with
  | [], _, _ => rw [List.append_nil]; exact s.1
  | [a], _, ht => exact List.all_eq_true.mp s.2 a (ht a (.head _))
  | [a, b], _, ht => exact h a b (ht a (.head _)) (ht b (.tail _ (.head _)))
  | _ :: _ :: _ :: _, hl, _ => simp at hl
theorem way_all : ∀ a ∈ [(0:Int),1,2,3,4], ∀ b ∈ [(0:Int),1,2,3,4], ∀ c ∈ [(0:Int),1,2,3,4], allW.contains (wayStep (wayStep (wayStep [] a) b) c) = true := by decide +kernel
theorem wayN_all (x : Int) : wayN x 3 ∈ allW := by
  have g : ∀ i, digit x i ∈ [(0:Int),1,2,3,4] := fun i => by
    obtain ⟨d0, d5⟩ := digit_range x i
    have : digit x i = 0 ∨ digit x i = 1 ∨ digit x i = 2 ∨ digit x i = 3 ∨ digit x i = 4 := by omega
    simpa using this
  have := way_all _ (g 0) _ (g 1) _ (g 2)
  exact List.contains_iff_mem.mp this
theorem pick_len {xs : List Int} (h : xs.length ≤ 4) : (pickNums xs none none (some 2)).length ≤ 2 ∧ (pickNums xs (some 1) none (some 2)).length ≤ 2 := by
  have e : ∀ n, n < 5 → (sliceRange (sliceBounds none none (some 2) n).1 (sliceBounds none none (some 2) n).2.1 (sliceBounds none none (some 2) n).2.2).length ≤ 2 ∧ (sliceRange (sliceBounds (some 1) none (some 2) n).1 (sliceBounds (some 1) none (some 2) n).2.1 (sliceBounds (some 1) none (some 2) n).2.2).length ≤ 2 := by decide +kernel
  have := e xs.length (by omega)
  unfold pickNums
  exact ⟨Nat.le_trans (List.length_filterMap_le _ _) this.1, Nat.le_trans (List.length_filterMap_le _ _) this.2⟩

theorem dedW_id : ∀ (ws acc : WW), (∀ x ∈ ws, (acc.any fun p => p == x) = true) → ws.foldl dedStepW acc = acc
  | [], _, _ => rfl
  | w :: ws, acc, h => by
    rw [List.foldl_cons, dedStepW, if_pos (h w (.head _))]
    exact dedW_id ws acc fun x hx => h x (.tail _ hx)
theorem dedW_has : ∀ (ws acc : WW) (x : List Bool), (x ∈ acc ∨ x ∈ ws) → x ∈ ws.foldl dedStepW acc
  | [], _, _, h => by rcases h with h | h; exact h; cases h
  | w :: ws, acc, x, h => by
    refine dedW_has ws (dedStepW acc w) x ?_
    unfold dedStepW
    split
    · rename_i hc
      rcases h with h | h
      · exact .inl h
      · rcases List.mem_cons.mp h with rfl | h
        · obtain ⟨p, hp, e⟩ := List.any_eq_true.mp hc
          rw [← eq_of_beq e]; exact .inl hp
        · exact .inr h
    · rcases h with h | h
      · exact .inl (List.mem_append_left _ h)
      · rcases List.mem_cons.mp h with rfl | h
        · exact .inl (by simp)
        · exact .inr h
theorem law_rev (ws : WW) : dedW (ws ++ ws.reverse) = dedW ws := by
  unfold dedW
  rw [List.foldl_append]
  refine dedW_id _ _ fun x hx => ?_
  have := dedW_has ws [] x (.inr (List.mem_reverse.mp hx))
  exact List.any_eq_true.mpr ⟨x, this, by simp⟩

theorem ltW_asymm : ∀ x y : List Bool, ltW x y = true → ltW y x = true → x = y
  | [], [], _, _ => rfl
  | [], _ :: _, _, h => by simp [ltW] at h
  | _ :: _, [], h, _ => by simp [ltW] at h
  | a :: x, b :: y, h1, h2 => by
    by_cases e : a = b
    · subst e
      simp only [ltW, if_true] at h1 h2
      rw [ltW_asymm x y h1 h2]
    · simp only [ltW, if_neg e, if_neg (Ne.symm e)] at h1 h2
      cases a <;> cases b <;> simp_all
theorem inc_pw : ∀ ws : WW, incB ws = true → ws.Pairwise fun x y => ltW x y = true
  | [], _ => .nil
  | x :: r, h => by
    unfold incB at h
    rw [Bool.and_eq_true] at h
    exact .cons (fun y hy => List.all_eq_true.mp h.1 y hy) (inc_pw r h.2)
theorem sortW_perm {ws : WW} (h : 0 < ws.length) : (sortW ws).Perm ws := by
  have := (sortP_perm (ps := ws.map fun w => (Value.none, w)) (by simpa using h)).map (·.2)
  rw [sortP_2] at this
  have e : (ws.map fun w => (Value.none, w)).map (·.2) = ws := by
    rw [List.map_map]
    exact List.map_id ws
  rw [e] at this
  exact this

noncomputable def rmW (ts : WW) (x : List Bool) : Option WW := if x ∈ ts then some (ts.erase x) else none
theorem erase_ix : ∀ (ts : List PP) (x : List Bool), m2 (ts.eraseIdx (ixP ts x)) = (m2 ts).erase x
  | [], _ => rfl
  | t :: ts, x => by
    unfold ixP
    rw [List.findIdx_cons]
    by_cases e : t.2 = x
    · simp [e, m2]
    · have e' : (t.2 == x) = false := by simpa using e
      rw [e']
      have ih := erase_ix ts x
      unfold ixP at ih
      simp only [m2, cond_false, List.eraseIdx_cons_succ, List.map_cons] at ih ⊢
      rw [List.erase_cons_tail (by simpa using e), ih]
theorem ix_mem (ts : List PP) (x : List Bool) : ixP ts x < ts.length ↔ x ∈ m2 ts := by
  unfold ixP
  rw [List.findIdx_lt_length]
  constructor
  · rintro ⟨q, hq, e⟩
    rw [← eq_of_beq e]; exact List.mem_map.mpr ⟨q, hq, rfl⟩
  · intro h
    obtain ⟨q, hq, rfl⟩ := List.mem_map.mp h
    exact ⟨q, hq, by simp⟩
theorem fold_rm : ∀ (ps ts : List PP), (ps.foldlM rmP ts).map m2 = (m2 ps).foldlM rmW (m2 ts)
  | [], ts => rfl
  | p :: ps, ts => by
    show ((rmP ts p).bind fun c => ps.foldlM rmP c).map m2 = (rmW (m2 ts) p.2).bind fun c => (m2 ps).foldlM rmW c
    unfold rmP rmW
    by_cases h : ixP ts p.2 < ts.length
    · rw [if_pos h, if_pos ((ix_mem ts p.2).mp h)]
      show (ps.foldlM rmP _).map m2 = (m2 ps).foldlM rmW _
      rw [fold_rm ps, erase_ix]
    · rw [if_neg h, if_neg fun q => h ((ix_mem ts p.2).mpr q)]; rfl
theorem fold_perm : ∀ (a b : WW), (a.foldlM rmW b = some []) ↔ a.Perm b
  | [], b => by
    constructor
    · intro h; cases h; exact .refl _
    · intro h; rw [List.nil_perm.mp h]; rfl
  | x :: a, b => by
    show ((rmW b x).bind fun c => a.foldlM rmW c) = some [] ↔ _
    unfold rmW
    by_cases h : x ∈ b
    · rw [if_pos h]
      show a.foldlM rmW (b.erase x) = some [] ↔ _
      rw [fold_perm a]
      have hp := List.perm_cons_erase h
      exact ⟨fun q => (q.cons x).trans hp.symm, fun q => (q.trans hp).cons_inv⟩
    · rw [if_neg h]
      exact ⟨(fun q => nomatch q), (fun q => absurd (q.mem_iff.mp (.head _)) h)⟩
theorem cmp_perm (p1 p2 : List PP) : cmpP p1 p2 = true ↔ (dedW (m2 p1)).Perm (dedW (m2 p2)) := by
  rw [← fold_perm, dedW_eq, dedW_eq, ← fold_rm]
  unfold cmpP
  cases (dedP p1).foldlM rmP (dedP p2) with
  | none => simp
  | some t => cases t with
    | nil => simp [m2]
    | cons a r => simp [m2]
theorem cmp_law {p1 p2 : List PP} (h1 : chk1 (m2 p1) = true) (h2 : chk1 (m2 p2) = true) : cmpP p1 p2 = (sortW (dedW (m2 p1)) == sortW (dedW (m2 p2))) := by
  rw [Bool.eq_iff_iff, cmp_perm, beq_iff_eq]
  unfold chk1 at h1 h2
  simp only [Bool.and_eq_true, decide_eq_true_eq] at h1 h2
  have s1 := sortW_perm (ws := dedW (m2 p1)) (by omega)
  have s2 := sortW_perm (ws := dedW (m2 p2)) (by omega)
  constructor
  · intro h
    exact List.Perm.eq_of_pairwise (fun a b _ _ => ltW_asymm a b) (inc_pw _ h1.1.2) (inc_pw _ h2.1.2) ((s1.trans h).trans s2.symm)
  · intro h
    exact (s1.symm.trans (h ▸ .refl _)).trans s2
end

section
open PySem PySem.W PyProof.Rows PySem.Calls PySem.SeqAt
open PyProof.Rows.LCg
theorem hc0 : [(14 : Int), 75, 82, 115, 25, 76, 84].map way = c0 := by decide +kernel
theorem hc1 : [(90 : Int), 75, 14, 91, 80, 81].map way = c1 := by decide +kernel
theorem chk03 : chk1 (c0.take 3) = true := by decide +kernel
theorem chk14 : chk1 (c1.take 4) = true := by decide +kernel
theorem seq2 {α : Type} {R : Heap → Value → α → Prop} {g g' : Heap} {v : Value} {xs : List α} (hm : Mono R) (h : SeqOf R g v xs) (l : Le g g') : SeqOf R g' v xs := SeqOf.le hm _ _ _ _ l h

theorem law_all {w : World} {s : Shared} {Q : Flow → Shared → Prop} {base g : Heap} {mean : ExcName → Option Value} {mg mb : Str → Option Value} {fa L : Addr} {cv : Value} {o1 o2 : Obj} {m : Str → Option Value}
    {name qual : Str} {params : Arguments} {body : List Stmt} {scope : Scope} {dV kV doc pm cdv ct oc : Value} {an od : Option Addr} {osl : Array (Option Value)}
    (X : (cap.heap_1 w.params).In base) (T : Top hd.view_39 (looseW hd.view_39 []) mean mg mb base)
    (ho : (cap.heap_1 w.params).lookup 200 = some ⟨oc, od, .func (fnOf name qual params body scope dV kV doc pm an cdv ct), osl⟩) {l : Addr} {vs : List Value} {ns : List Int}
    (F : Fr base L s.heap m) (N : News base L s.heap [(L + 1 + 1, o1), (L + 1, o2)]) (d1 : ∃ v, o1.data = .cell v) (d2 : ∃ v, o2.data = .cell v)
    (hm : m (Str.ofString "script") = some (.ref l)) (hl : base.IsList l vs.toArray) (hI : IntsAre vs ns) (hlen : ns.length ≤ 63)
    (hQ : ∀ h' tk m', Fr base L h' m' → Q (.ret (.bool true)) { s with heap := h', toks := tk }) :
    wpAny (model Challenge.rw_ny0132_01.row.prog w) (callerA.deeper (envOfC qual scope L fa cv)) (execs (body.drop 0) (envOfC qual scope L fa cv)) Q (fun _ _ => False) s := by
  have hp := pick_len (xs := ns.take 4) (by rw [List.length_take]; omega)
  refine law_0 (g := base) X T ho F N d1 d2 hm hl hI hlen (fun h1 tk1 g1 vr m1 k1 hm1 hr1 => ?_)
  generalize pickNums (ns.take 4) none none (some 2) = p0 at *
  generalize pickNums (ns.take 4) (some 1) none (some 2) = p1 at *
  have hns : ∀ x ∈ [[14, 75, 82, 115, 25, 76, 84] ++ p0, [90, 75, 14, 91, 80, 81] ++ p1], x.length ≤ 100 := by
    intro x hx
    rcases List.mem_cons.mp hx with rfl | hx
    · simp; omega
    · rw [List.mem_singleton.mp hx]; simp; omega
  have e0 : ([14, 75, 82, 115, 25, 76, 84] ++ p0).map way = c0 ++ p0.map way := by rw [List.map_append, hc0]
  have e1 : ([90, 75, 14, 91, 80, 81] ++ p1).map way = c1 ++ p1.map way := by rw [List.map_append, hc1]
  have L0 : (p0.map way).length ≤ 2 := by simp; omega
  have L1 : (p1.map way).length ≤ 2 := by simp; omega
  have A0 : ∀ x ∈ p0.map way, x ∈ allW := fun x hx => by
    obtain ⟨y, _, rfl⟩ := List.mem_map.mp hx
    exact wayN_all y
  have A1 : ∀ x ∈ p1.map way, x ∈ allW := fun x hx => by
    obtain ⟨y, _, rfl⟩ := List.mem_map.mp hx
    exact wayN_all y
  have em : ([[14, 75, 82, 115, 25, 76, 84] ++ p0, [90, 75, 14, 91, 80, 81] ++ p1].map fun ns => ns.map way) = [c0 ++ p0.map way, c1 ++ p1.map way] := by rw [← e0, ← e1]; rfl
  have K1 := chk_tail kAs kAt _ L0 A0
  have K3 := chk_tail kBs kBt _ L1 A1
  have K0 : chk1 ((c0 ++ p0.map way).take 3) = true := chk03
  have K2 : chk1 ((c1 ++ p1.map way).take 4) = true := chk14
  have l0 : (c0 ++ p0.map way).length = 7 + (p0.map way).length := by rw [List.length_append]; rfl
  have l1 : (c1 ++ p1.map way).length = 6 + (p1.map way).length := by rw [List.length_append]; rfl
  refine law_2 X T ho k1 hm1 hr1 (by simp) hns (fun h2 tk2 g2 vn k2 l2 hn2 => ?_)
  refine law_3 X T ho k2 (if_neg (by decide) |>.trans hm1) (seq2 (SeqOf.le IntR.mono) hr1 l2) (by simp) hns (fun h3 tk3 g3 vy k3 l3 hw3 => ?_)
  rw [em] at hn2 hw3
  clear hr1 hns em e0 e1
  generalize c0 ++ p0.map way = w0 at *
  generalize c1 ++ p1.map way = w1 at *
  refine law_4 X T ho k3 (if_neg (by decide) |>.trans (if_pos rfl)) (if_pos rfl) (seq2 RowL.mono hn2 l3) hw3 (by omega) (by omega) d1 d2 (fun h4 tk4 g4 o1' o2' vh vd k4 l4 e1 e2 hh hd => ?_)
  have chk : ∀ ws ∈ [w0.take 3, w0, w1.take 4, w1], chk1 ws = true ∧ 2 ≤ ws.length ∧ ws.length < 64 := by
    intro ws hws
    simp only [List.mem_cons, List.not_mem_nil, or_false] at hws
    rcases hws with rfl | rfl | rfl | rfl
    · exact ⟨K0, by rw [List.length_take]; omega, by rw [List.length_take]; omega⟩
    · exact ⟨K1, by omega, by omega⟩
    · exact ⟨K2, by rw [List.length_take]; omega, by rw [List.length_take]; omega⟩
    · exact ⟨K3, by omega, by omega⟩
  have chkp : ∀ ws, chk1 ws = true → dedW (offW ws) = dedW (sortW ws) ∧ 2 ≤ (dedW ws).length := fun ws h => by
    unfold chk1 at h
    simp only [Bool.and_eq_true, decide_eq_true_eq] at h
    exact ⟨eq_of_beq h.1.1, h.2⟩
  refine law_5 X T ho k4 e1 e2 hh hd (by simp) (fun ws h => (chk ws h).2) (fun ws h => (chkp ws (chk ws h).1).1) (fun h5 tk5 g5 k5 l5 => ?_)
  refine law_6 X T ho k5 (if_neg (by decide) |>.trans (if_pos rfl)) (if_pos rfl) (seq2 RowL.mono hn2 ((l3.trans l4).trans l5)) (seq2 RowL.mono hw3 (l4.trans l5)) (by simp) (fun ws h => by
    rcases List.mem_cons.mp h with rfl | h
    · exact ⟨by omega, by omega⟩
    · rw [List.mem_singleton.mp h]; exact ⟨by omega, by omega⟩) (fun ws _ => law_rev ws) (fun h6 tk6 g6 k6 l6 => ?_)
  refine law_7 X T ho k6 ⟨_, e1⟩ ⟨_, e2⟩ (fun h7 tk7 g7 vp k7 l7 hp7 => ?_)
  have hh7 := seq2 RowL.mono hh ((l5.trans l6).trans l7)
  have hd7 := seq2 RowL.mono hd ((l5.trans l6).trans l7)
  have hlt : ∀ p ∈ prs, p.1 < [w0.take 3, w0, w1.take 4, w1].length ∧ p.2 < [w0.take 3, w0, w1.take 4, w1].length := by
    intro p hp
    have : ∀ p ∈ prs, p.1 < 4 ∧ p.2 < 4 := by decide
    exact this p hp
  refine law_8 X T ho k7 e1 (if_pos rfl) hp7 hd7 (by decide) hlt (by simp) (fun ws h => ⟨(chkp ws (chk ws h).1).2, (chk ws h).2.2⟩) (fun h8 tk8 g8 D8 k8 l8 hD8 => ?_)
  refine law_9 X T ho k8 e2 (if_neg (by decide) |>.trans (if_pos rfl)) (seq2 PairR.mono hp7 l8) (seq2 RowL.mono hh7 l8) (by decide) hlt (by simp) (fun ws h => (chk ws h).2.2) (if_pos rfl) hD8 (fun p hp psa psb ha hb => ?_) (fun h' tk' m' F' => hQ h' tk' m' F')
  have hpl := hlt p hp
  have ga : ∀ i, i < [w0.take 3, w0, w1.take 4, w1].length → chk1 ([w0.take 3, w0, w1.take 4, w1].getD i []) = true := fun i hi => by
    rw [List.getD_eq_getElem?_getD, List.getElem?_eq_getElem hi]
    exact (chk _ (List.getElem_mem hi)).1
  unfold sameF
  rw [← ha, ← hb]
  exact cmp_law (ha ▸ ga _ hpl.1) (hb ▸ ga _ hpl.2)
end

section
open PySem PySem.W PyProof.Rows PySem.Calls PySem.SeqAt
theorem law_fin {w : World} {s : Shared} {Q : Flow → Shared → Prop} {base g : Heap} {mean : ExcName → Option Value} {mg mb : Str → Option Value} {fa L : Addr} {cv : Value} {o1 o2 : Obj} {m : Str → Option Value}
    {name qual : Str} {params : Arguments} {body : List Stmt} {scope : Scope} {dV kV doc pm cdv ct oc : Value} {an od : Option Addr} {osl : Array (Option Value)}
    (X : (cap.heap_1 w.params).In base) (T : Top hd.view_39 (looseW hd.view_39 []) mean mg mb base)
    (ho : (cap.heap_1 w.params).lookup 200 = some ⟨oc, od, .func (fnOf name qual params body scope dV kV doc pm an cdv ct), osl⟩) {E : Value → Shared → Prop} {l : Addr} {vs : List Value} {ns : List Int}
    (F : Fr base L s.heap m) (N : News base L s.heap [(L + 1 + 1, o1), (L + 1, o2)]) (d1 : ∃ v, o1.data = .cell v) (d2 : ∃ v, o2.data = .cell v)
    (hm : m (Str.ofString "script") = some (.ref l)) (hl : base.IsList l vs.toArray) (hI : IntsAre vs ns) (hlen : ns.length ≤ 63)
    (hQ : ∀ h' tk m', Fr base L h' m' → Q (.ret (.bool true)) { s with heap := h', toks := tk }) :
    wpAny (model Challenge.rw_ny0132_01.row.prog w) (callerA.deeper (envOfC qual scope L fa cv)) (execs body (envOfC qual scope L fa cv)) Q E s :=
  wpAny_mono (law_all (g := base) X T ho F N d1 d2 hm hl hI hlen hQ) (fun _ _ x => x) fun _ _ x => x.elim
end
end Mine
open PySem PySem.W PyProof.Rows PySem.Calls PySem.SeqAt Mine
theorem PySem.Challenge.cw_ny0132_01_holds : PySem.Challenge.rw_ny0132_01.Holds := by
  exact hd (walk_turn kp_eq (by
  k_go0
  rename World => w
  rename Fr _ _ _ _ => F
  rename News _ _ _ _ => N
  rename Top _ _ _ _ _ _ => T
  rename Frag.In _ _ => X
  rename IntsAre _ _ => hI
  rename Heap.IsList _ _ _ => hL
  rename (¬ _ < _) => hlen
  refine law_fin (g := default) X T (by k_is) F N ⟨_, by assumption⟩ ⟨_, by assumption⟩ rfl hL hI (by omega) (fun h' tk m' F' => ?_)
  dsimp only
  clear F N
  first | wrow_close | (w_end; wrow_close) | walk1))

