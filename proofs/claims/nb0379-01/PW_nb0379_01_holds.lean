import PyProof.Rows.All
import Wide.All
import OpenK.AllK
import Wide.FinOn
import PySem.Challenge.RW_nb0379_01
set_option Elab.async false
set_option maxRecDepth 100000
set_option maxHeartbeats 8000000

section P_Hd
open PySem PySem.W PyProof.Rows
namespace Mine
open_top hd for PySem.Challenge.rw_nb0379_01
end Mine
end P_Hd

section P_I16
open PySem PySem.W PyProof.Rows PySem.Calls PySem.NumText
namespace Mine
def S (l : List Nat) : Str := ⟨l.toArray⟩
def isHx (c : Nat) : Bool := (48 ≤ c && c ≤ 57) || (97 ≤ c && c ≤ 102) || (65 ≤ c && c ≤ 70)
def hxv (c : Nat) : Nat := if c ≤ 57 then c - 48 else if c ≤ 70 then c - 55 else c - 87
def hxl : List Nat := [48, 49, 50, 51, 52, 53, 54, 55, 56, 57, 97, 98, 99, 100, 101, 102, 65, 66, 67, 68, 69, 70]
theorem mem_hxl {c : Nat} (h : isHx c = true) : c ∈ hxl := by
  have hb : c < 128 := by
    simp only [isHx, Bool.or_eq_true, Bool.and_eq_true, decide_eq_true_eq] at h
    omega
  have : ∀ c < 128, isHx c = true → c ∈ hxl := by decide +kernel
  exact this c hb h
/-- two hex signs are read at base 16, outright: the reader's tree is the making of their number -/
theorem reader16 (v : Value) : ∀ a ∈ hxl, ∀ b ∈ hxl, (int_private% "intFromText") v [a, b] 16 = mkInt ((16 * hxv a + hxv b : Nat) : Int) := by
  intro a ha b hb
  simp only [hxl, List.mem_cons, List.not_mem_nil, or_false] at ha hb
  rcases ha with rfl | rfl | rfl | rfl | rfl | rfl | rfl | rfl | rfl | rfl | rfl | rfl | rfl | rfl | rfl | rfl | rfl | rfl | rfl | rfl | rfl | rfl <;>
  rcases hb with rfl | rfl | rfl | rfl | rfl | rfl | rfl | rfl | rfl | rfl | rfl | rfl | rfl | rfl | rfl | rfl | rfl | rfl | rfl | rfl | rfl | rfl <;> rfl
/-- hex signs are plain ones, so the text is taken as it stands -/
theorem plainText {a b : Nat} (ha : isHx a = true) (hb : isHx b = true) : (if (S [a, b]).cps.all (· < 128) = true then (S [a, b]).cps.toList else Unicode.numberText (S [a, b]).cps.toList) = [a, b] := by
  have low : ∀ c ∈ hxl, c < 128 := by decide
  have h1 := low a (mem_hxl ha)
  have h2 := low b (mem_hxl hb)
  simp [S, h1, h2]
theorem int16_gives {a b : Nat} {u k : Tok} (ha : isHx a = true) (hb : isHx b = true) : Gives (Builtin.«int.__new__» ⟨[.type "int", .str (S [a, b]) u, .int 16 k], []⟩) (.int ((16 * hxv a + hxv b : Nat) : Int)) := by
  have read : ∀ v, (int_private% "intFromText") v (if (S [a, b]).cps.all (· < 128) = true then (S [a, b]).cps.toList else Unicode.numberText (S [a, b]).cps.toList) 16 = mkInt ((16 * hxv a + hxv b : Nat) : Int) := fun v => by
    rw [plainText ha hb]
    exact reader16 v a (mem_hxl ha) b (mem_hxl hb)
  have whole : Builtin.«int.__new__» ⟨[.type "int", .str (S [a, b]) u, .int 16 k], []⟩ = (do let v ← mkInt ((16 * hxv a + hxv b : Nat) : Int); ret v) := by
    unfold Builtin.«int.__new__»
    dsimp only
    rw [F.conv_sub_int, F.madeHere_int]
    show (do let v ← (int_private% "intFromText") (.str (S [a, b]) u) (if (S [a, b]).cps.all (· < 128) = true then (S [a, b]).cps.toList else Unicode.numberText (S [a, b]).cps.toList) 16; ret v) = _
    rw [read]
  rw [whole]
  exact .of_wp fun M A E s Q h => wpAny_bind (wpAny_mkInt (wpAny_pure ⟨_, rfl, h⟩))
theorem typeCall2 (a b : Value) : checkTypeCall "int" ⟨[a, b], []⟩ = pure () := by kernel_rfl
theorem newCall2 (a b : Value) : checkBuiltinCall "int.__new__" ⟨[.type "int", a, b], []⟩ = pure () := by kernel_rfl
theorem call_hex {prog : Program} {w : World} {A : Around} {E : Value → Shared → Prop} {s : Shared} {Q : Value → Shared → Prop} {a b : Nat} {u k : Tok} (ha : isHx a = true) (hb : isHx b = true)
    (h : Q (.int ((16 * hxv a + hxv b : Nat) : Int) s.toks) { s with toks := s.toks + 1 }) : wpAny (model prog w) A (call (.type "int") [.str (S [a, b]) u, .int 16 k]) Q E s :=
  callType_new F.called_int F.newNe_int (typeCall2 _ _) (newCall2 _ _) (fun obj => F.args_object_init_3 obj _ _) F.entry_int_new (int16_gives ha hb).meets (show (Made.int _).post _ s from ⟨rfl, h⟩)
end Mine
end P_I16

section P_Base
open PySem PySem.W PyProof.Rows PySem.Calls
namespace Mine
abbrev Claim (w : World) (mean : ExcName → Option Value) (mg mb : Str → Option Value) (f : Addr) (news : List (Addr × Obj)) (pre : Prop) (vs : List Value) (R : Tok → Value) : Prop :=
  CbClaim Challenge.rw_nb0379_01.row.prog w (hd.heap_39 w.params) hd.view_39 (looseW hd.view_39 [Str.ofString "hexdigits", Str.ofString "decode"]) mean mg mb f news [] pre vs R
theorem S_append (a b : List Nat) : S a ++ S b = S (a ++ b) := by
  refine Str.ext' ?_
  rw [Str.cps_append]
  simp [S]
theorem S_len (a : List Nat) : (S a).length = a.length := by simp [S, Str.length]
/-- the names that a map must bind -/
def Has (ps : List (Str × Value)) (m : Str → Option Value) : Prop := ∀ p ∈ ps, m p.1 = some p.2
def ov (ps : List (Str × Value)) (m : Str → Option Value) (z : Str) : Option Value :=
  match ps with
  | [] => m z
  | p :: r => if z = p.1 then some p.2 else ov r m z
theorem Has.nil {m : Str → Option Value} : Has [] m := fun _ h => nomatch h
theorem Has.cons {ps : List (Str × Value)} {m : Str → Option Value} {x : Str} {v : Value} (h : m x = some v) (hs : Has ps m) : Has ((x, v) :: ps) m := by
  intro p hp
  rcases List.mem_cons.mp hp with rfl | hp
  · exact h
  · exact hs p hp
theorem Has.eq {m : Str → Option Value} : ∀ {ps : List (Str × Value)}, Has ps m → m = ov ps m
  | [], _ => rfl
  | p :: r, h => by
    funext z
    show m z = if z = p.1 then some p.2 else ov r m z
    split
    · next e => rw [e]; exact h p (.head _)
    · exact congrFun (Has.eq (ps := r) fun q hq => h q (.tail _ hq)) z
theorem frHas {h₀ h : Heap} {L : Addr} {m : Str → Option Value} {ps : List (Str × Value)} (F : Fr h₀ L h m) (hs : Has ps m) : Fr h₀ L h (ov ps m) := hs.eq ▸ F
theorem frHasX {h₀ h : Heap} {L : Addr} {m : Str → Option Value} {ps : List (Str × Value)} {x : Str} {v : Value} (F : Fr h₀ L h (fun y => if y = x then some v else m y)) (hs : Has ps m) : Fr h₀ L h (fun y => if y = x then some v else ov ps m y) := hs.eq ▸ F
def LoopGo (h₀ : Heap) (L : Addr) (J : (Str → Option Value) → Prop) (keep : List (Addr × Obj)) (s₁ s₂ : Shared) : Prop :=
  ∃ h' tk m' news', s₂ = { s₁ with heap := h', toks := tk } ∧ Fr h₀ L h' m' ∧ News h₀ L h' news' ∧ (∀ p ∈ keep, p ∈ news') ∧ J m'
def LoopPost (h₀ : Heap) (L : Addr) (J : (Str → Option Value) → Prop) (keep : List (Addr × Obj)) (s₁ : Shared) (Q : Flow → Shared → Prop) (f : Flow) (s₂ : Shared) : Prop :=
  match f with
  | .ret v => Q (.ret v) s₂
  | .brk => Q .next s₂
  | _ => LoopGo h₀ L J keep s₁ s₂
theorem LoopGo.mk {h₀ : Heap} {L : Addr} {J : (Str → Option Value) → Prop} {keep news' : List (Addr × Obj)} {s₁ : Shared} {h' : Heap} {tk : Nat} {m' : Str → Option Value} (F : Fr h₀ L h' m') (N : News h₀ L h' news') (hk : ∀ p ∈ keep, p ∈ news') (hj : J m') :
    LoopGo h₀ L J keep s₁ { s₁ with heap := h', toks := tk } := ⟨h', tk, m', news', rfl, F, N, hk, hj⟩
section
variable {prog : Program} {w : World} {A : Around} {E : Value → Shared → Prop} {Q : Flow → Shared → Prop} {s : Shared} {env : Env} {h₀ : Heap} {x : Str} {body : List Stmt}
theorem loop_list {l : Addr} {vs : List Value} {nn : Nat} {m₀ : Str → Option Value} {news : List (Addr × Obj)} (J : Nat → (Str → Option Value) → Prop)
    (hh : A.handled = none) (hl : (l, listOf vs.toArray nn) ∈ news) (F : Fr h₀ env.locals s.heap m₀) (N : News h₀ env.locals s.heap news) (hj : J 0 m₀)
    (turn : ∀ i v m₁ h tk own, vs[i]? = some v → J i m₁ → Fr h₀ env.locals h (fun y => if y = x then some v else m₁ y) → News h₀ env.locals h (news ++ own) →
      wpAny (model prog w) A (execs body env) (LoopPost h₀ env.locals (J (i + 1)) (news ++ own) { s with heap := h, toks := tk } Q) E { s with heap := h, toks := tk })
    (done : ∀ m₁ h tk, J vs.length m₁ → Fr h₀ env.locals h m₁ → News h₀ env.locals h news → Q .next { s with heap := h, toks := tk }) :
    wpAny (model prog w) A (pyIter (.ref l)) (fun it s₂ => LoopAtV prog w A h₀ env x body Q E it s₂) E s := by
  refine kdl_iter (fun i m nx => nx = news ∧ J i m) hh hl F N ⟨rfl, hj⟩ ?_ ?_
  · rintro i v m₁ nx h tk own hv hoff hmem ⟨rfl, hJ⟩ F1 N1
    refine wpAny_mono (turn i v m₁ h tk own hv hJ F1 N1) (fun f s₂ p => ?_) fun _ _ e => e
    have fin : LoopGo h₀ env.locals (J (i + 1)) (nx ++ own) { s with heap := h, toks := tk } s₂ → InvEndG h₀ env.locals (fun m' ny => (l, listOf vs.toArray nn) ∈ ny ∧ ny = nx ∧ J (i + 1) m') own { s with heap := h, toks := tk } s₂ := by
      rintro ⟨h', tk', m', news', e, F', N', hk, hJ'⟩
      exact ⟨h', tk', m', news', nx, e, F', N', fun p hp => hk p (List.mem_append_left _ hp), fun p hp => hk p (List.mem_append_right _ hp), hoff, hl, rfl, hJ'⟩
    cases f with
    | ret v => exact p
    | brk => exact p
    | next => exact fin p
    | cont => exact fin p
  · rintro m₁ nx h tk ⟨rfl, hJ⟩ F1 N1
    exact done m₁ h tk hJ F1 N1
theorem loop_while {L : Addr} {test : Expr} {pos : Pos} {m₀ : Str → Option Value} {news : List (Addr × Obj)} (J : Nat → (Str → Option Value) → Prop) (n₀ : Nat)
    (F : Fr h₀ L s.heap m₀) (N : News h₀ L s.heap news) (hj : J n₀ m₀)
    (turn : ∀ n m₁ h tk, J n m₁ → Fr h₀ L h m₁ → News h₀ L h news →
      wpAny (model prog w) A (isTrue test env (eval test env)) (fun b s₂ =>
        if b = true then wpAny (model prog w) A (execs body env) (LoopPost h₀ L (fun m => ∃ n', n' < n ∧ J n' m) news s Q) E s₂ else Q .next s₂) E { s with heap := h, toks := tk })
    (hE : PassesOwn (model prog w) A env E := by passes_own) :
    wpAny (model prog w) A (exec (.While test body [] pos) env) Q E s := by
  refine While_inv2 (fun n m nx => nx = news ∧ J n m) F N ⟨rfl, hj⟩ ?_ hE
  intro n m₁ nx h tk F₁ N₁ inv
  obtain ⟨rfl, hJ⟩ := inv
  have goes : ∀ s₃, LoopGo h₀ L (fun m => ∃ n', n' < n ∧ J n' m) nx s s₃ → ∃ h' tk' m' nx' n', s₃ = { s with heap := h', toks := tk' } ∧ Fr h₀ L h' m' ∧ News h₀ L h' nx' ∧ n' < n ∧ nx' = nx ∧ J n' m' := by
    intro s₃ ⟨h', tk', m', all, es, F', N', sub, n', lt, hJ'⟩
    exact ⟨h', tk', m', nx, n', es, F', fun p hp => N' p (sub p hp), lt, rfl, hJ'⟩
  refine wpAny_mono (turn n m₁ h tk hJ F₁ N₁) (fun b s₂ after => ?_) fun _ _ e => e
  by_cases hb : b = true
  · rw [if_pos hb] at after ⊢
    refine wpAny_mono after (fun f s₃ end_ => ?_) fun _ _ e => e
    match f with
    | .ret _ => exact end_
    | .brk => exact end_
    | .next => exact goes _ end_
    | .cont => exact goes _ end_
  · rw [if_neg hb] at after ⊢
    exact after
end
end Mine
end P_Base

section P_CompS
open PySem PySem.W PyProof.Rows PySem.Calls PySem.Spec PyProof.Rows.LCg
namespace Mine
section
variable {prog : Program} {w : World} {A : Around} {E : Value → Shared → Prop} {s : Shared} {h₀ : Heap} {L : Addr} {m : Str → Option Value} {env : Env}
/-- what is off the cell C outlives any change of C -/
theorem news_off {C : Addr} {g g' : Heap} {nw : List (Addr × Obj)} (N : News h₀ L g nw) (same : Heap.SameBut C g g') (off : ∀ p ∈ nw, p.1 ≠ C) : News h₀ L g' nw :=
  fun p hp => ⟨same.extBut _ _ (off p hp) (N p hp).1, (N p hp).2⟩
/-- the finished list D goes under the name y, and the comprehension's own names C are let go -/
theorem bind_made {D C : Addr} {ob : Obj} {nw : List (Addr × Obj)} {y : Str} {py : Pos} {mc : Str → Option Value} {K : Shared → Prop}
    (hy : env.kindOf y = some .local) (hp : (env.scope.kind == .class || (env.scope.kind == .module && env.locals != env.globals)) = false)
    (F : Fr h₀ env.locals s.heap m) (N : News h₀ env.locals s.heap ((D, ob) :: nw)) (hC : s.heap.Ns C mc) (c0 : h₀.get? C = none) (cL : C ≠ env.locals) (off : ∀ p ∈ (D, ob) :: nw, p.1 ≠ C)
    (fin : ∀ g tk, Fr h₀ env.locals g (fun z => if z = y then some (.ref D) else m z) → News h₀ env.locals g ((D, ob) :: nw) → K { s with heap := g, toks := tk }) :
    wpAny (model prog w) A (assign (.Name y py) env (.ref D)) (fun _ s' => ∃ mc', s'.heap.Ns C mc' ∧ ∀ g', Heap.SameBut C s'.heap g' → K { s' with heap := g' }) E s := by
  apply wpAny_assign_Name
  apply wpAny_storeName_local hy F.ns _ hp
  intro g hg same
  exact ⟨mc, hC.sameBut same cL, fun g' same' => fin g' _ ((F.set hg same).change same' cL c0) (news_off (N.set same) same' off)⟩
/-- the iterator over a text's signs, whichever of the two kinds it is -/
def SignIter (prog : Program) (w : World) (xt : Str) (I : Addr) (St : Nat → Heap → Prop) : Prop :=
  (∀ A' : Around, A'.handled = none → Walks prog w A' I [I] [I] xt.cps.size (SignAt xt) St) ∧ ∀ i g, St i g → ∃ ob, g.get? I = some ob
theorem signs_iter {xt : Str} {t : Tok} {K : Value → Shared → Prop}
    (go : ∀ ob St, SignIter prog w xt s.heap.objs.size St → St 0 (s.heap.push ob) → K (.ref s.heap.objs.size) { s with heap := s.heap.push ob }) :
    wpAny (model prog w) A (pyIter (.str xt t)) K E s := by
  have some_at : ∀ {T : String} (i : Nat) (g : Heap), g.IsStrIter s.heap.objs.size T xt t i → ∃ ob, g.get? s.heap.objs.size = some ob := fun i g st => let ⟨ob, e, _⟩ := st; ⟨ob, e⟩
  by_cases plain : xt.cps.all (· < 128) = true
  · apply wpAny_pyIter_ascii plain
    exact go _ _ ⟨fun A' hA => Walks.strAscii hA _ xt t, some_at⟩ ⟨_, Heap.get?_push_size _ rfl, rfl, rfl⟩
  · apply wpAny_pyIter_wide (Bool.eq_false_iff.mpr plain)
    exact go _ _ ⟨fun A' hA => Walks.strWide hA _ xt t, some_at⟩ ⟨_, Heap.get?_push_size _ rfl, rfl, rfl⟩
/-- y = [elt for x in iter], where iter gives the text xt -/
theorem comp_of_text {elt iter : Expr} {x y : Str} {px py : Pos} {scope : Scope} {cl : List (Str × Addr)} {pos spos : Pos} {Q : Flow → Shared → Prop} {xt : Str} {t : Tok} {news : List (Addr × Obj)}
    (used : swapsWith (.ListComp elt [⟨.Name x px, iter, [], 0⟩] scope pos) (some (.Name y py)) spos.line env = pure true) (plain : ∀ v, foldedSetIterable iter env v = pure v)
    (clos : closureFor scope env = pure cl) (fn : scope.kind = .function) (nocell : ∀ z ∈ scope.names, z.2 ≠ .cell) (loc : ∀ z ∈ scope.names, z.2 = .local → scope.names.lookup z.1 = some .local) (xloc : scope.names.lookup x = some .local)
    (hy : env.kindOf y = some .local) (hp : (env.scope.kind == .class || (env.scope.kind == .module && env.locals != env.globals)) = false) (calm : A.handled = none) (short : xt.cps.size ≤ sizeLine)
    (F : Fr h₀ env.locals s.heap m) (N : News h₀ env.locals s.heap news) (src : ∀ K : Value → Shared → Prop, K (.str xt t) s → wpAny (model prog w) A (eval iter env) K E s)
    (rest : ∀ g, CompRest prog w A h₀ env.locals m env elt x scope cl { s with heap := g } (fun _ => True) (SignAt xt) (FinA h₀ env.locals m { s with heap := g } y Q) xt.cps.size 0 [] news) :
    wpAny (model prog w) A (exec (.Assign [.Name y py] (.ListComp elt [⟨.Name x px, iter, [], 0⟩] scope pos) spos) env) Q E s := by
  rw [exec_Assign_Name_used _ _ _ _ used]
  refine wpAny_bind (wpAny_standAt (wpAny_bind ?_))
  refine wpAny_bind (wpAny_mono (wpAny_comprehension_free (use := some (assign (.Name y py) env)) (Q := fun _ s' => Q .next s') rfl plain clos fn loc (src _ ?_)) (fun _ _ q => wpAny_pure (wpAny_pure q)) fun _ _ e => e)
  refine signs_iter ?_
  intro ob St ⟨walks, some_at⟩ st
  have up : ∀ b o, s.heap.get? b = some o → (s.heap.push ob).get? b = some o := fun _ _ e => Heap.get?_push_of_some _ e
  refine block_U (walks A calm) short some_at ?_ nocell fn xloc st ?_ (F.keeps up) (N.keepsAll up) (Nat.ne_of_lt F.ns.lt) (next_is_new F) N.apart trivial (rest _) ?_
  rotate_left 2
  · intro D C g tk mc ys nw Fg Ng offD hC c0 d0 cL dL cD offC fin
    refine bind_made hy hp Fg Ng hC c0 cL ?_ fun g' tk' F' N' => fin D g' tk' F' N' offD
    intro p hp
    rcases List.mem_cons.mp hp with e | hp
    · rw [e]; exact Ne.symm cD
    · exact offC p hp
  · intro i g g' o nw hSt e e' _ _ _
    refine (walks A calm).frame _ _ _ hSt fun b hb o' eb => ?_
    rw [List.mem_singleton] at hb
    rw [hb] at eb ⊢
    rw [e'] 
    exact (e.symm.trans eb)
  · intro b hb
    rw [List.mem_singleton.mp hb, Heap.size_push]
    exact Nat.lt_succ_self _
/-- the elements, one contract for all -/
theorem rest_all {elt : Expr} {x : Str} {scope : Scope} {cl : List (Str × Addr)} {S : List (Addr × Obj) → Prop} {P : Nat → Value → Prop} {Fin : List Value → List (Addr × Obj) → Prop} {n : Nat} {news : List (Addr × Obj)} (G : Nat → Value → Prop) (hS : S news)
    (fin : ∀ ys, ys.length = n → (∀ (j : Nat) (y : Value), ys[j]? = some y → G j y) → Fin ys news)
    (hel : ∀ i v I oI C oC D ys m₂ h tk (Q' E' : Value → Shared → Prop), i < n → P i v → NsObj oC m₂ → m₂ x = some v → Fr h₀ L h m → News h₀ L h ((I, oI) :: (C, oC) :: (D, lst ys) :: news) →
      (∀ y h' tk', G i y → Fr h₀ L h' m → News h₀ L h' ((I, oI) :: (C, oC) :: (D, lst ys) :: news) → Q' y { s with heap := h', toks := tk' }) →
      wpAny (model prog w) A (eval elt (compEnvC scope cl C env)) Q' E' { s with heap := h, toks := tk }) :
    ∀ k i ys, i + k = n → ys.length = i → (∀ (j : Nat) (y : Value), ys[j]? = some y → G j y) → CompRest prog w A h₀ L m env elt x scope cl s S P Fin k i ys news
  | 0, i, ys, hi, hl, hg => CompRest.zero (fin ys (by omega) hg)
  | k + 1, i, ys, hi, hl, hg => CompRest.succ (by
    intro v I oI C oC D m₂ h tk E' hP hC hx F N off ne
    refine hel i v I oI C oC D ys m₂ h tk _ E' (by omega) hP hC hx F N fun y h' tk' hG F' N' => ?_
    refine CompEnd.intro F' N' news (fun _ h => h) off hS ?_
    refine rest_all G hS fin hel k (i + 1) (ys ++ [y]) (by omega) (by simp [hl]) ?_
    intro j y' hj
    rcases Nat.lt_or_ge j ys.length with h1 | h1
    · rw [List.getElem?_append_left h1] at hj
      exact hg j y' hj
    · rw [List.getElem?_append_right h1] at hj
      have h2 : j = ys.length := by
        rcases Nat.lt_or_ge (j - ys.length) 1 with h3 | h3
        · omega
        · rw [List.getElem?_eq_none (by simpa using h3)] at hj
          cases hj
      subst h2
      simp at hj
      subst hj
      rw [hl]
      exact hG)
end
end Mine
end P_CompS

section P_F1
open PySem PySem.W PyProof.Rows
namespace Mine
def signOf (x : Int) : Nat := if x.fmod 16 = 15 then ((x.fdiv 16).fmod 256).toNat else [61, 48, 65, 32, 10, 13, 11, 160, 107, 61, 100, 52, 9, 61, 102].getD (x.fmod 16).toNat 0
theorem sign_tab : ∀ k : Nat, k < 15 → Txt.item (Str.ofString "=0A \n\x0d\x0b\xa0k=d4\t=f") (k : Int) = S [[61, 48, 65, 32, 10, 13, 11, 160, 107, 61, 100, 52, 9, 61, 102].getD k 0] := by decide +kernel
theorem sign_cb (w : World) (mean : ExcName → Option Value) (mg mb : Str → Option Value) (news : List (Addr × Obj)) (x : Int) (t : Tok) :
  Claim w mean mg mb 36 news True [.int x t] (fun t => .str (S [signOf x]) t) := by
  unfold Claim CbClaim; k_fill; dsimp only [CbLists, CbRet]
  intro dp un gd cn cs a ccd cl outer A₀ base h₀ L m s Q E B0 F0 X0 N0 T0 hcs hpre hdp hun hret
  refine wpAny_call ?_
  k_dflt cell_enter
  k_steps
  · refine cb_retS hret ?_ (by k_asm) (by k_asm)
    unfold signOf
    rw [if_pos (by assumption)]
    rfl
  · refine cb_retS hret ?_ (by k_asm) (by k_asm)
    have h0 : 0 ≤ x.fmod 16 := Int.fmod_nonneg_of_pos _ (by decide)
    have h1 : x.fmod 16 < 16 := Int.fmod_lt_of_pos _ (by decide)
    have hne : ¬ x.fmod 16 = 15 := by assumption
    unfold signOf
    rw [if_neg hne]
    obtain ⟨k, hk⟩ := Int.eq_ofNat_of_zero_le h0
    rw [hk]
    exact sign_tab k (by omega)
theorem hxv_lt {a : Nat} (h : isHx a = true) : hxv a < 16 := by
  have : ∀ a ∈ hxl, hxv a < 16 := by decide
  exact this a (mem_hxl h)
theorem unquote_cb (w : World) (mean : ExcName → Option Value) (mg mb : Str → Option Value) (news : List (Addr × Obj)) (c a b : Nat) (ha : isHx a = true) (hb : isHx b = true) (t : Tok) :
  Claim w mean mg mb 21 news True [.str (S [c, a, b]) t] (fun t => .str (S [16 * hxv a + hxv b]) t) := by
  unfold Claim CbClaim; dsimp only [CbLists, CbRet]
  intro dp un gd cn cs aa ccd cl outer A₀ base h₀ L m s Q E B0 F0 X0 N0 T0 hcs hpre hdp hun hret
  have hx3 : (S [c, a, b]).length = 3 := rfl
  have h1 := hxv_lt ha
  have h2 := hxv_lt hb
  refine wpAny_call ?_
  k_dflt cell_enter
  k_steps
  rw [show Txt.slice (S [c, a, b]) (some 1) (some 3) = S [a, b] from rfl]
  refine call_hex ha hb ?_
  k_steps
  refine cb_retS hret ?_ (by k_asm) (by k_asm)
  rfl
def hexd (n : Nat) : Nat := [48, 49, 50, 51, 52, 53, 54, 55, 56, 57, 65, 66, 67, 68, 69, 70].getD n 0
def esc (l : List Nat) : List Nat := l.flatMap fun c => [61, hexd (c / 16), hexd (c % 16)]
end Mine
end P_F1

section P_An
open PySem PySem.W PyProof.Rows
namespace Mine
theorem esc_item : ∀ c : Nat, c < 256 → Str.ofString "=" ++ Txt.item (Str.ofString "0123456789ABCDEF") ((c : Int).fdiv 16) ++ Txt.item (Str.ofString "0123456789ABCDEF") ((c : Int).fmod 16) = S [61, hexd (c / 16), hexd (c % 16)] := by decide +kernel
theorem strs_of_G {f : Nat → Str} : ∀ {ys : List Value} {sh : List Nat}, ys.length = sh.length → (∀ (j : Nat) (y : Value), ys[j]? = some y → ∃ c tt, sh[j]? = some c ∧ y = .str (f c) tt) → StrsAre ys (sh.map f)
  | [], [], _, _ => .nil
  | [], _ :: _, h, _ => by simp at h
  | _ :: _, [], h, _ => by simp at h
  | y :: ys, c :: sh, h, hG => by
    obtain ⟨c', tt, h1, h2⟩ := hG 0 y rfl
    simp at h1
    subst h1
    subst h2
    exact .cons _ _ (strs_of_G (by simpa using h) fun j y' hj => hG (j + 1) y' (by simpa using hj))
theorem glue_S : ∀ (ls : List (List Nat)) (a : List Nat), (ls.map S).foldl (fun acc p => acc ++ (Str.ofString "").cps ++ p.cps) a.toArray = (a ++ ls.flatten).toArray
  | [], a => by simp
  | l :: ls, a => by
    rw [List.map_cons, List.foldl_cons]
    have e : a.toArray ++ (Str.ofString "").cps ++ (S l).cps = (a ++ l).toArray := by
      have : (Str.ofString "").cps = #[] := rfl
      rw [this]; simp [S]
    rw [e, glue_S ls (a ++ l)]
    simp
theorem join_S (ls : List (List Nat)) : Txt.join (Str.ofString "") (ls.map S) = S ls.flatten := by
  cases ls with
  | nil => rfl
  | cons l ls =>
    show Str.mk _ = _
    have := glue_S ls l
    simp only [List.map_cons, List.drop_succ_cons, List.drop_zero, List.headD_cons]
    rw [show (S l).cps = l.toArray from rfl, this]
    rfl
theorem esc_join (sh : List Nat) : Txt.join (Str.ofString "") (sh.map fun c => S [61, hexd (c / 16), hexd (c % 16)]) = S (esc sh) := by
  have := join_S (sh.map fun c => [61, hexd (c / 16), hexd (c % 16)])
  rw [List.map_map] at this
  exact this
theorem esc_sum : ∀ sh : List Nat, ((sh.map fun c => S [61, hexd (c / 16), hexd (c % 16)]).map (·.length)).sum = 3 * sh.length
  | [] => rfl
  | a :: r => by
    simp only [List.map_cons, List.sum_cons, List.length_cons, esc_sum r]
    show 3 + _ = _
    omega
theorem esc_len : ∀ sh : List Nat, (esc sh).length = 3 * sh.length
  | [] => rfl
  | a :: r => by
    show (_ ++ esc r).length = _
    rw [List.length_append, esc_len r]
    show 3 + _ = _
    simp only [List.length_cons]
    omega
theorem anew_cb (w : World) (mean : ExcName → Option Value) (mg mb : Str → Option Value) (news : List (Addr × Obj)) (l : Addr) (dn sh he wh : List Nat) (b : Bool) (t1 t2 t3 t4 : Tok) (n : Nat) :
  Claim w mean mg mb 55 ((l, listOf #[.str (S dn) t1, .str (S sh) t2, .str (S he) t3, .str (S wh) t4, .bool b] n) :: news) (dn.length ≤ 1000 ∧ sh.length ≤ 1000 ∧ he.length ≤ 1000 ∧ wh.length ≤ 1000 ∧ ∀ c ∈ sh, c < 256) [.ref l] (fun t => .str (S (esc sh ++ he ++ wh)) t) := by
  unfold Claim CbClaim; k_fill; dsimp only [CbLists, CbRet]
  intro dp un gd cn cs aa ccd cl outer A₀ base h₀ L m s Q E B0 F0 X0 N0 T0 hcs hpre hdp hun hret
  obtain ⟨p1, p2, p3, p4, p5⟩ := hpre
  have q1 : (S dn).length ≤ 1000 := p1
  have q2 : (S sh).length ≤ 1000 := p2
  have q3 : (S he).length ≤ 1000 := p3
  have q4 : (S wh).length ≤ 1000 := p4
  refine wpAny_call ?_
  k_dflt (refine' code_defC (binds := [(Str.ofString "state", .ref l)]) ?k1 ?k2 ?k3 ?k4 ?k5 ?kA ?kF ?kK ?k6 ?k7 ?k8 ?k9 ?kB ?kD ?_ ?c2 ?c3 ?c4; (case kA => exact rfl); (case kF => exact rfl); (case kK => assumption); (case k1 => k_asm); (case k2 => k_asm); (case k3 => k_asm); (case k4 => k_asm); (case k5 => k_asm); (case k6 => k_is); (case k7 => k_is); (case k8 => ktr_room); (case k9 => exact BindsTo.of_eq rfl); (case kB => exact rfl); (case kD => decide +kernel); (case c2 => exact rfl); (case c3 => exact rfl); (case c4 => exact rfl); k_whole; intro g' L' h' tk' cells' FG' F' N' Y' B' X' T' l1; k_cells Y'; (try simp only [List.cons_append, List.nil_append] at N'); (try dsimp only); (try k_lift B'); (try k_fold))
  k_steps
  rename Fr g' L' _ _ => F3
  rename News g' L' _ _ => N3
  rename_i o' _ _ _ _ _ _
  k_dflt (refine' storeX_C F3 N3 rfl (UpdF.head ?_) (by assumption) ?_ rfl rfl)
  · intro p hp
    have := l1 p hp
    exact Nat.ne_of_lt (Nat.lt_succ_of_lt this)
  clear F3 N3
  intro h3 o3 F3 N3 d3
  (try dsimp only at N3)
  repeat' (first | ((fail_if_success (with_reducible show wpAny _ _ (exec (Stmt.Assign _ (Expr.ListComp _ _ _ _) _) _) _ _ _)); first | (k_unfold; (try dsimp only)) | (k_end; wrow_close) | walk1 | (dsimp only; walk1) | (leave1; try dsimp only)))
  k_dflt (refine comp_of_text (xt := S sh) (t := t2) (by with_unfolding_all rfl) (by intro _; rfl) (by with_unfolding_all rfl) (by rfl) (by decide) (by decide) (by rfl) (by rfl) (by rfl) (by rfl) (Nat.le_trans p2 (by decide)) F3 N3 ?csrc ?crest)
  case csrc =>
    intro K hK
    walk1
    exact hK
  intro g4
  refine rest_all (n := sh.length) (fun i y => ∃ c tt, sh[i]? = some c ∧ y = .str (S [61, hexd (c / 16), hexd (c % 16)]) tt) trivial ?fin ?hel sh.length 0 [] (by simp) rfl (by intro j y hj; simp at hj)
  case hel =>
    rintro i v I oI C oC D ys m₂ h4 tk4 Q' E' hi ⟨c, u', hc, rfl⟩ hC hx F4 N4 hk
    have hc' : sh[i]? = some c := by simpa [S] using hc
    have hc2 := p5 c (List.mem_of_getElem? hc')
    clear F3 N3
    k_steps
    refine' hk _ _ _ ⟨c, _, hc', congrArg (fun z => Value.str z _) (esc_item c hc2)⟩ F4 N4
  case fin =>
    intro ys hyl hG
    have hsa : StrsAre ys (sh.map fun c => S [61, hexd (c / 16), hexd (c % 16)]) := strs_of_G hyl hG
    have hw : ((sh.map fun c => S [61, hexd (c / 16), hexd (c % 16)]).map (·.length)).sum + (sh.map fun c => S [61, hexd (c / 16), hexd (c % 16)]).length ≤ 1048576 := by rw [esc_sum, List.length_map]; omega
    have hjl : (S (esc sh)).length ≤ 3000 := by show (esc sh).length ≤ 3000; rw [esc_len]; omega
    clear F3 N3
    unfold LCg.FinA
    intro D h4 tk4 F4 N4 off4
    dsimp only
    k_steps
    refine join_listW (News.isList N4 (.head _)) hsa (by decide) hw ?_
    intro t5 k5
    rw [esc_join]
    k_steps
    refine cb_retS hret ?_ (by k_asm) (by first | k_asm | exact cb_drop (by assumption) (by intro p hp; exact List.mem_cons_of_mem _ (List.mem_cons_of_mem _ hp)))
    rw [S_append, S_append]
end Mine
end P_An

section P_St
open PySem PySem.W PyProof.Rows
namespace Mine
structure RS where
  dn : List Nat
  sh : List Nat
  he : List Nat
  wh : List Nat
  bg : Bool
def isEnd (c : Nat) : Bool := [10, 13, 11, 12, 28, 29, 30, 133].contains c
def isWh (c : Nat) : Bool := [32, 9, 31, 160].contains c
def stepL (r : RS) (c : Nat) (mk : List Nat) : RS :=
  if isEnd c = true then ⟨r.dn ++ (if r.he = [61] then r.sh else r.sh ++ r.he ++ mk), [], [], [], false⟩
  else if isWh c = true then ⟨r.dn, r.sh, r.he, r.wh ++ [c], true⟩
  else if c = 61 then ⟨r.dn, if r.wh = [] then r.sh ++ r.he else r.sh ++ r.he ++ r.wh, [61], [], true⟩
  else if r.wh ≠ [] then ⟨r.dn, r.sh ++ r.he ++ r.wh ++ [c], [], [], true⟩
  else if r.he = [] ∨ isHx c = false then ⟨r.dn, r.sh ++ r.he ++ [c], [], [], true⟩
  else if r.he = [61] then ⟨r.dn, r.sh, r.he ++ [c], [], true⟩
  else ⟨r.dn, r.sh ++ [16 * hxv (r.he.getD 1 0) + hxv c], [], [], true⟩
def stObj (r : RS) (t1 t2 t3 t4 : Tok) (n : Nat) : Obj := listOf #[.str (S r.dn) t1, .str (S r.sh) t2, .str (S r.he) t3, .str (S r.wh) t4, .bool r.bg] n
def heOk (l : List Nat) : Prop := l = [] ∨ l = [61] ∨ ∃ h, l = [61, h] ∧ isHx h = true

theorem end_tab : ∀ c : Nat, c < 256 → (Builtin.Str.occurrences (Str.ofString "\n\x0d\x0b\x0c\x1c\x1d\x1e\x85") (S [c]) 0 (Str.ofString "\n\x0d\x0b\x0c\x1c\x1d\x1e\x85").length 1).isEmpty = !isEnd c := by decide +kernel
theorem wh_tab : ∀ c : Nat, c < 256 → (Builtin.Str.occurrences (Str.ofString " \t\x1f\xa0") (S [c]) 0 (Str.ofString " \t\x1f\xa0").length 1).isEmpty = !isWh c := by decide +kernel
theorem find_tab : ∀ c : Nat, c < 256 → Txt.find (Str.ofString "0123456789abcdef") (Txt.lower (S [c])) = if isHx c = true then (hxv c : Int) else -1 := by decide +kernel
theorem end_of {c : Nat} (h : c < 256) {b : Bool} (e : (Builtin.Str.occurrences (Str.ofString "\n\x0d\x0b\x0c\x1c\x1d\x1e\x85") (S [c]) 0 (Str.ofString "\n\x0d\x0b\x0c\x1c\x1d\x1e\x85").length 1).isEmpty = b) : isEnd c = !b := by
  rw [end_tab c h] at e; rw [← e]; simp
theorem wh_of {c : Nat} (h : c < 256) {b : Bool} (e : (Builtin.Str.occurrences (Str.ofString " \t\x1f\xa0") (S [c]) 0 (Str.ofString " \t\x1f\xa0").length 1).isEmpty = b) : isWh c = !b := by
  rw [wh_tab c h] at e; rw [← e]; simp
theorem S_inj {a b : List Nat} (h : S a = S b) : a = b := by
  have := congrArg (fun z => z.cps.toList) h
  simpa [S] using this
theorem beq_S (a b : List Nat) : (S a == S b) = decide (a = b) := by
  by_cases h : a = b
  · subst h; simp
  · have : S a ≠ S b := fun e => h (S_inj e)
    simp [h, this]
theorem eqs_t {a b : List Nat} (e : (S a == S b) = true) : a = b := by rw [beq_S] at e; exact of_decide_eq_true e
theorem eqs_f {a b : List Nat} (e : (S a == S b) = false) : a ≠ b := by rw [beq_S] at e; exact of_decide_eq_false e
theorem nes_t {a b : List Nat} (e : (S a != S b) = true) : a ≠ b := by
  intro h; subst h; simp at e
theorem nes_f {a b : List Nat} (e : (S a != S b) = false) : a = b := by
  by_cases h : a = b
  · exact h
  · have : S a ≠ S b := fun e => h (S_inj e)
    simp [this] at e
theorem find_neg {c : Nat} (h : c < 256) (e : Txt.find (Str.ofString "0123456789abcdef") (Txt.lower (S [c])) < 0) : isHx c = false := by
  rw [find_tab c h] at e
  cases hx : isHx c with
  | false => rfl
  | true => rw [if_pos hx] at e; omega
theorem find_pos {c : Nat} (h : c < 256) (e : ¬ Txt.find (Str.ofString "0123456789abcdef") (Txt.lower (S [c])) < 0) : isHx c = true := by
  rw [find_tab c h] at e
  cases hx : isHx c with
  | true => rfl
  | false => rw [if_neg (by rw [hx]; decide)] at e; omega
theorem find_val {c : Nat} (h : c < 256) (e : isHx c = true) : Txt.find (Str.ofString "0123456789abcdef") (Txt.lower (S [c])) = (hxv c : Int) := by rw [find_tab c h, if_pos e]
theorem str_nil : Str.ofString "" = S [] := by decide +kernel
theorem str_eq : Str.ofString "=" = S [61] := by decide +kernel
section
variable {dn sh he wh mk : List Nat} {bg : Bool} {c : Nat}
theorem sl1 (c1 : isEnd c = true) (h : he = [61]) : stepL ⟨dn, sh, he, wh, bg⟩ c mk = ⟨dn ++ sh, [], [], [], false⟩ := by simp [stepL, c1, h]
theorem sl2 (c1 : isEnd c = true) (h : he ≠ [61]) : stepL ⟨dn, sh, he, wh, bg⟩ c mk = ⟨dn ++ (sh ++ he ++ mk), [], [], [], false⟩ := by simp [stepL, c1, h]
theorem sl3 (c1 : isEnd c = false) (c2 : isWh c = true) : stepL ⟨dn, sh, he, wh, bg⟩ c mk = ⟨dn, sh, he, wh ++ [c], true⟩ := by simp [stepL, c1, c2]
theorem sl4 (c1 : isEnd c = false) (c2 : isWh c = false) (h : [c] = [61]) (h3 : wh ≠ []) : stepL ⟨dn, sh, he, wh, bg⟩ c mk = ⟨dn, sh ++ he ++ wh ++ [], [61], [], true⟩ := by
  have : c = 61 := by simpa using h
  subst this
  simp [stepL, c1, c2, h3]
theorem sl5 (c1 : isEnd c = false) (c2 : isWh c = false) (h : [c] = [61]) (h3 : wh = []) : stepL ⟨dn, sh, he, wh, bg⟩ c mk = ⟨dn, sh ++ he, [61], [], true⟩ := by
  have : c = 61 := by simpa using h
  subst this
  simp [stepL, c1, c2, h3]
theorem sl6 (c1 : isEnd c = false) (c2 : isWh c = false) (h : [c] ≠ [61]) (h3 : wh ≠ []) : stepL ⟨dn, sh, he, wh, bg⟩ c mk = ⟨dn, sh ++ he ++ wh ++ [] ++ [c], [], [], true⟩ := by
  have : c ≠ 61 := by simpa using h
  simp [stepL, c1, c2, this, h3]
theorem sl7 (c1 : isEnd c = false) (c2 : isWh c = false) (h : [c] ≠ [61]) (h3 : wh = []) (h4 : he = [] ∨ isHx c = false) : stepL ⟨dn, sh, he, wh, bg⟩ c mk = ⟨dn, sh ++ he ++ [c], [], [], true⟩ := by
  have : c ≠ 61 := by simpa using h
  simp [stepL, c1, c2, this, h3, h4]
theorem sl8 (c1 : isEnd c = false) (c2 : isWh c = false) (h : [c] ≠ [61]) (h3 : wh = []) (h4 : isHx c = true) (h5 : he = [61]) : stepL ⟨dn, sh, he, wh, bg⟩ c mk = ⟨dn, sh, he ++ [c], [], true⟩ := by
  have : c ≠ 61 := by simpa using h
  simp [stepL, c1, c2, this, h3, h4, h5]
theorem sl9 {x : Nat} (c1 : isEnd c = false) (c2 : isWh c = false) (h : [c] ≠ [61]) (h3 : wh = []) (h4 : isHx c = true) : stepL ⟨dn, sh, [61, x], wh, bg⟩ c mk = ⟨dn, sh ++ [16 * hxv x + hxv c], [], [], true⟩ := by
  have : c ≠ 61 := by simpa using h
  simp [stepL, c1, c2, this, h3, h4]
end
theorem step_ret {h₀ : Heap} {L : Addr} {m : Str → Option Value} {s : Shared} {Q : Value → Shared → Prop} {r' : RS} {rest : List (Addr × Obj)}
    (hret : ∀ (a' : Addr) (u1 u2 u3 u4 : Tok) (n' : Nat) (h' : Heap) (tk' : Nat), AllLt a' rest → Fr h₀ L h' m → News h₀ L h' ((a', stObj r' u1 u2 u3 u4 n') :: rest) → Q (.ref a') { s with heap := h', toks := tk' })
    {a' : Addr} {d1 d2 d3 d4 : Str} {b : Bool} {u1 u2 u3 u4 : Tok} {n' : Nat} {h' : Heap} {tk' : Nat} (F : Fr h₀ L h' m) (N : News h₀ L h' ((a', listOf #[.str d1 u1, .str d2 u2, .str d3 u3, .str d4 u4, .bool b] n') :: rest)) (hl : AllLt a' rest)
    (e1 : d1 = S r'.dn) (e2 : d2 = S r'.sh) (e3 : d3 = S r'.he) (e4 : d4 = S r'.wh) (e5 : b = r'.bg) : Q (.ref a') { s with heap := h', toks := tk' } := by
  subst e1 e2 e3 e4 e5
  exact hret a' u1 u2 u3 u4 n' h' tk' hl F N
abbrev StepClaim (w : World) (mean : ExcName → Option Value) (mg mb : Str → Option Value) (news : List (Addr × Obj)) (l : Addr) (r : RS) (c : Nat) (mk : List Nat) (t1 t2 t3 t4 t5 t6 : Tok) (n : Nat) : Prop :=
  ∀ (dp un : Nat) (gd : Option (List Code)) (cn : Str) (cs : Scope) (a : Addr) (ccd : Value) (cl : List (Str × Addr)) (outer : List Env) (A₀ : Around) (base h₀ : Heap) (L : Addr) (m : Str → Option Value) (s : Shared) (Q E : Value → Shared → Prop),
    Below A₀ base outer h₀ → Fr h₀ L s.heap m → (hd.heap_39 w.params).In h₀ → News h₀ L s.heap ((l, stObj r t1 t2 t3 t4 n) :: news) → Top hd.view_39 (looseW hd.view_39 [Str.ofString "hexdigits", Str.ofString "decode"]) mean mg mb h₀ → cs.kind = .function →
    (c < 256 ∧ heOk r.he ∧ r.dn.length ≤ 1000 ∧ r.sh.length ≤ 1000 ∧ r.wh.length ≤ 1000 ∧ 1 ≤ mk.length ∧ mk.length ≤ 2) → dp + 1 < recursionLimit → un + 8 < cLine →
    (∀ (a' : Addr) (u1 u2 u3 u4 : Tok) (n' : Nat) (h' : Heap) (tk' : Nat), AllLt a' ((l, stObj r t1 t2 t3 t4 n) :: news) → Fr h₀ L h' m → News h₀ L h' ((a', stObj (stepL r c mk) u1 u2 u3 u4 n') :: (l, stObj r t1 t2 t3 t4 n) :: news) → Q (.ref a') { s with heap := h', toks := tk' }) →
      wpAny (model Challenge.rw_nb0379_01.row.prog w) (ktrTop dp un gd cn cs L a ccd cl outer) (call (.ref 43) [.ref l, .str (S [c]) t5, .str (S mk) t6]) Q E s
theorem step_cb (w : World) (mean : ExcName → Option Value) (mg mb : Str → Option Value) (news : List (Addr × Obj)) (l : Addr) (r : RS) (c : Nat) (mk : List Nat) (t1 t2 t3 t4 t5 t6 : Tok) (n : Nat) :
  StepClaim w mean mg mb news l r c mk t1 t2 t3 t4 t5 t6 n := by
  unfold StepClaim; k_fill
  intro dp un gd cn cs aa ccd cl outer A₀ base h₀ L m s Q E B0 F0 X0 N0 T0 hcs hpre hdp hun hret
  obtain ⟨dn, sh, he, wh, bg⟩ := r
  dsimp only [stObj] at N0 hret hpre
  obtain ⟨p0, p1, p2, p3, p4, p5, p6⟩ := hpre
  have q1 : (S dn).length ≤ 1000 := p2
  have q2 : (S sh).length ≤ 1000 := p3
  have q3 : (S he).length ≤ 2 := by rcases p1 with rfl | rfl | ⟨h, rfl, _⟩ <;> simp [S_len]
  have q4 : (S wh).length ≤ 1000 := p4
  have q5 : (S mk).length ≤ 2 := p6
  have q6 : (S [c]).length = 1 := rfl
  refine wpAny_call ?_
  k_dflt cell_enter
  k_steps
  any_goals (
    (have c1 := end_of p0 (by assumption))
    (try have c2 := wh_of p0 (by assumption))
    (try rw [str_nil, str_eq] at *)
    (try (first | have c3 := nes_t (a := wh) (b := []) (by assumption) | have c3 := nes_f (a := wh) (b := []) (by assumption)))
    (try (first | have c4 := eqs_t (a := [c]) (b := [61]) (by assumption) | have c4 := eqs_f (a := [c]) (b := [61]) (by assumption)))
    (try (first | have c5 := eqs_t (a := he) (b := []) (by assumption) | have c5 := eqs_f (a := he) (b := []) (by assumption)))
    (try (first | have c6 := eqs_t (a := he) (b := [61]) (by assumption) | have c6 := eqs_f (a := he) (b := [61]) (by assumption)))
    (try (first | have c7 := find_neg p0 (by assumption) | have c7 := find_pos p0 (by assumption))))
  any_goals (
    (first
      | rw [sl1 c1 c6] at hret
      | rw [sl2 c1 c6] at hret
      | rw [sl3 c1 c2] at hret
      | rw [sl4 c1 c2 c4 c3] at hret
      | rw [sl5 c1 c2 c4 c3] at hret
      | rw [sl6 c1 c2 c4 c3] at hret
      | rw [sl7 c1 c2 c4 c3 (.inl c5)] at hret
      | rw [sl7 c1 c2 c4 c3 (.inr c7)] at hret
      | rw [sl8 c1 c2 c4 c3 c7 c6] at hret)
    refine step_ret hret (by k_asm) (by k_asm) (by assumption) ?_ ?_ ?_ ?_ rfl <;> first | rfl | (simp only [S_append]; done))
  obtain ⟨x, rfl, hxx⟩ : ∃ x, he = [61, x] ∧ isHx x = true := by
    rcases p1 with h | h | h
    · exact absurd h c5
    · exact absurd h c6
    · exact h
  have hx256 : x < 256 := by
    have := mem_hxl hxx
    have hb : ∀ x ∈ hxl, x < 256 := by decide
    exact hb x this
  have q7 : (S [61, x]).length = 2 := rfl
  have e1 : Txt.item (S [61, x]) 1 = S [x] := rfl
  have hf1 := find_val hx256 hxx
  have hf2 := find_val p0 c7
  have hl1 := hxv_lt hxx
  have hl2 := hxv_lt c7
  rw [sl9 c1 c2 c4 c3 c7] at hret
  rw [← e1] at hf1
  k_steps
  refine step_ret hret (by k_asm) (by k_asm) (by assumption) rfl ?_ rfl rfl rfl
  rw [hf1, hf2, show (16 * ((hxv x : Nat) : Int) + ((hxv c : Nat) : Int)).toNat = 16 * hxv x + hxv c by omega]
  exact S_append _ [_]
end Mine
end P_St

section P_Br
open PySem PySem.W PyProof.Rows PySem.Builtin PySem.Builtin.Str PySem.StrLaws
namespace Mine
def clipN (i : Int) (n : Nat) : Nat := (max 0 (min (if i < 0 then i + n else i) (n : Int))).toNat
theorem clipN_le (i : Int) (n : Nat) : clipN i n ≤ n := by unfold clipN; split <;> omega
theorem idx_clip (i j : Int) (n : Nat) : strSliceIndices (some i) (some j) 1 n = strSliceIndices (some ((clipN i n : Nat) : Int)) (some ((clipN j n : Nat) : Int)) 1 n := by
  have h : ∀ i : Int, (max 0 (min (if i < 0 then i + (n : Int) else i) (n : Int))) = (max 0 (min (if ((clipN i n : Nat) : Int) < 0 then ((clipN i n : Nat) : Int) + (n : Int) else ((clipN i n : Nat) : Int)) (n : Int))) := by
    intro i
    have h1 := clipN_le i n
    have h2 : ((clipN i n : Nat) : Int) = max 0 (min (if i < 0 then i + n else i) (n : Int)) := by
      unfold clipN; split <;> omega
    rw [if_neg (by omega : ¬ ((clipN i n : Nat) : Int) < 0)]
    omega
  have hp : ((1 : Int) > 0) = True := by simp
  simp only [strSliceIndices, hp, if_true, ← h]
theorem slice_ij (l : List Nat) (i j : Int) (h : clipN i l.length ≤ clipN j l.length) : Txt.slice (S l) (some i) (some j) = S ((l.drop (clipN i l.length)).take (clipN j l.length - clipN i l.length)) := by
  show StrLaws.sliceText (S l) (some i) (some j) = _
  have e : StrLaws.sliceText (S l) (some i) (some j) = StrLaws.sliceText (S l) (some ((clipN i l.length : Nat) : Int)) (some ((clipN j l.length : Nat) : Int)) := by
    unfold StrLaws.sliceText
    rw [S_len, idx_clip]
  rw [e, StrLaws.sliceText_nat (S l) h (by rw [S_len]; exact clipN_le _ _)]
  rfl
theorem slice_n (x : Str) (u : Option Int) : Txt.slice x none u = Txt.slice x (some 0) u := by
  unfold Txt.slice
  rw [StrLaws.sliceIdx_none_lo]
theorem slice_hi (x : Str) (l : Option Int) : Txt.slice x l none = Txt.slice x l (some (x.length : Int)) := by
  unfold Txt.slice
  rw [StrLaws.sliceIdx_none_hi]
theorem clip_nat (k n : Nat) : clipN (k : Int) n = min k n := by unfold clipN; rw [if_neg (by omega)]; omega
theorem clip_neg (k n : Nat) (h : 1 ≤ k) : clipN (-(k : Int)) n = n - k := by unfold clipN; rw [if_pos (by omega)]; omega
/-- l[a:b], a ≤ b -/
theorem slice_nat (l : List Nat) (a b : Nat) (h : a ≤ b) : Txt.slice (S l) (some (a : Int)) (some (b : Int)) = S ((l.drop a).take (b - a)) := by
  rw [slice_ij _ _ _ (by rw [clip_nat, clip_nat]; omega), clip_nat, clip_nat]
  congr 1
  rcases Nat.lt_or_ge a l.length with h1 | h1
  · rw [Nat.min_eq_left (Nat.le_of_lt h1)]
    rcases Nat.lt_or_ge b l.length with h2 | h2
    · rw [Nat.min_eq_left (Nat.le_of_lt h2)]
    · rw [Nat.min_eq_right h2, List.take_of_length_le (by simp), List.take_of_length_le (by simp; omega)]
  · rw [List.drop_eq_nil_of_le (by omega), List.drop_eq_nil_of_le (by omega)]
    simp
theorem slice_to (l : List Nat) (b : Nat) : Txt.slice (S l) none (some (b : Int)) = S (l.take b) := by
  rw [slice_n]
  have := slice_nat l 0 b (Nat.zero_le _)
  simpa using this
theorem slice_from (l : List Nat) (a : Nat) (h : a ≤ l.length) : Txt.slice (S l) (some (a : Int)) none = S (l.drop a) := by
  rw [slice_hi, S_len, slice_nat l a l.length h, List.take_of_length_le (by simp)]
theorem slice_neg_to (l : List Nat) (k : Nat) (h : 1 ≤ k) : Txt.slice (S l) none (some (-(k : Int))) = S (l.take (l.length - k)) := by
  rw [slice_n, slice_ij _ _ _ (by rw [show (0 : Int) = ((0 : Nat) : Int) from rfl, clip_nat]; omega), show (0 : Int) = ((0 : Nat) : Int) from rfl, clip_nat, clip_neg _ _ h]
  simp
theorem slice_neg_from (l : List Nat) (k : Nat) (h : 1 ≤ k) : Txt.slice (S l) (some (-(k : Int))) none = S (l.drop (l.length - k)) := by
  rw [slice_hi, S_len, slice_ij _ _ _ (by rw [clip_neg _ _ h, clip_nat]; omega), clip_neg _ _ h, clip_nat]
  congr 1
  rw [List.take_of_length_le (by simp)]
theorem item_nat (l : List Nat) (i : Nat) (h : i < l.length) : Txt.item (S l) (i : Int) = S [l[i]] := by
  unfold Txt.item Txt.charAt
  rw [S_len, StrLaws.seqIndex_nonneg (by omega) (by omega)]
  simp [S, h]
theorem item_last (l : List Nat) (h : l ≠ []) : Txt.item (S l) (-1) = S [l.getLast h] := by
  have hl : 0 < l.length := List.length_pos_iff.mpr h
  unfold Txt.item Txt.charAt
  rw [S_len, StrLaws.seqIndex_neg (by decide) (by omega)]
  have e : (-1 + (l.length : Int)).toNat = l.length - 1 := by omega
  rw [e]
  have h1 : l[l.length - 1]? = some (l[l.length - 1]'(by omega)) := List.getElem?_eq_getElem (by omega)
  simp [S, List.getLast_eq_getElem, h1]
/-- ends with: the last k signs are y -/
theorem endsw_S (l y : List Nat) : Txt.endswith (S l) (S y) = decide (l.drop (l.length - y.length) = y) := by
  unfold Txt.endswith
  rw [S_len, S_len, StrLaws.subAt_eq, S_len]
  have e1 : (S l).cps.toList = l := by simp [S]
  have e2 : (S y).cps.toList = y := by simp [S]
  rw [e1, e2]
  by_cases h : l.drop (l.length - y.length) = y
  · have hl : y.length ≤ l.length := by
      have := congrArg List.length h
      simp at this
      omega
    rw [h]
    simp [hl]
  · simp only [h, decide_false]
    by_cases hl : y.length ≤ l.length
    · rw [List.take_of_length_le (by simp; omega)]
      simp [h]
    · simp [hl]
end Mine
end P_Br

section P_To
open PySem PySem.W PyProof.Rows
namespace Mine
def toldE (r : RS) (mk : List Nat) : List Nat := if r.bg = true then r.dn ++ (if r.he = [61] then r.sh else r.sh ++ r.he ++ mk) else r.dn
/-- one mark at the end falls away, unless the last sign is CR or LF -/
def cutE (d : List Nat) (c : Nat) (mk : List Nat) : List Nat := if (c ≠ 10 ∧ c ≠ 13) ∧ d.drop (d.length - mk.length) = mk then d.take (d.length - mk.length) else d
theorem cut_y {d : List Nat} {c : Nat} {mk : List Nat} (h1 : [c] ≠ [10]) (h2 : [c] ≠ [13]) (h3 : d.drop (d.length - mk.length) = mk) : cutE d c mk = d.take (d.length - mk.length) := by
  unfold cutE; rw [if_pos ⟨⟨by simpa using h1, by simpa using h2⟩, h3⟩]
theorem cut_10 {d : List Nat} {c : Nat} {mk : List Nat} (h1 : [c] = [10]) : cutE d c mk = d := by
  unfold cutE; rw [if_neg (fun h => h.1.1 (by simpa using h1))]
theorem cut_13 {d : List Nat} {c : Nat} {mk : List Nat} (h1 : [c] = [13]) : cutE d c mk = d := by
  unfold cutE; rw [if_neg (fun h => h.1.2 (by simpa using h1))]
theorem cut_n {d : List Nat} {c : Nat} {mk : List Nat} (h3 : ¬ d.drop (d.length - mk.length) = mk) : cutE d c mk = d := by
  unfold cutE; rw [if_neg (fun h => h3 h.2)]
section
variable {dn sh he wh mk : List Nat} {bg : Bool}
theorem told1 (h : bg = true) (h1 : he = [61]) : toldE ⟨dn, sh, he, wh, bg⟩ mk = dn ++ sh := by simp [toldE, h, h1]
theorem told2 (h : bg = true) (h1 : he ≠ [61]) : toldE ⟨dn, sh, he, wh, bg⟩ mk = dn ++ (sh ++ he ++ mk) := by simp [toldE, h, h1]
theorem told3 (h : bg = false) : toldE ⟨dn, sh, he, wh, bg⟩ mk = dn := by simp [toldE, h]
end
theorem str_10 : Str.ofString "\n" = S [10] := by decide +kernel
theorem str_13 : Str.ofString "\x0d" = S [13] := by decide +kernel
theorem told_cb (w : World) (mean : ExcName → Option Value) (mg mb : Str → Option Value) (news : List (Addr × Obj)) (l : Addr) (r : RS) (c : Nat) (mk : List Nat) (t1 t2 t3 t4 t5 t6 : Tok) (n : Nat) :
  Claim w mean mg mb 50 ((l, stObj r t1 t2 t3 t4 n) :: news) (r.he.length ≤ 2 ∧ r.dn.length ≤ 1000 ∧ r.sh.length ≤ 1000 ∧ r.wh.length ≤ 1000 ∧ 1 ≤ mk.length ∧ mk.length ≤ 2) [.ref l, .str (S [c]) t5, .str (S mk) t6] (fun t => .str (S (cutE (toldE r mk) c mk)) t) := by
  unfold Claim CbClaim; k_fill; dsimp only [CbLists, CbRet]
  intro dp un gd cn cs a ccd cl outer A₀ base h₀ L m s Q E B0 F0 X0 N0 T0 hcs hpre hdp hun hret
  obtain ⟨dn, sh, he, wh, bg⟩ := r
  dsimp only [stObj] at N0 hret hpre
  obtain ⟨p1, p2, p3, p4, p5, p6⟩ := hpre
  have q1 : (S dn).length ≤ 1000 := p2
  have q2 : (S sh).length ≤ 1000 := p3
  have q3 : (S he).length ≤ 2 := p1
  have q4 : (S wh).length ≤ 1000 := p4
  have q5 : (S mk).length ≤ 2 := p6
  have q6 : (S [c]).length = 1 := rfl
  have q7 : 1 ≤ (S mk).length := p5
  have hml : (S mk).length = mk.length := S_len mk
  refine wpAny_call ?_
  k_dflt cell_enter
  k_steps
  all_goals (
    (refine cb_retS hret ?_ (by k_asm) (by k_asm))
    (try rw [str_eq] at *)
    (try rw [str_10] at *)
    (try rw [str_13] at *)
    (try simp only [S_append, hml, slice_neg_from _ _ p5, slice_neg_to _ _ p5] at *))
  all_goals (
    refine congrArg S ?_
    (first
      | rw [told1 (by assumption) (eqs_t (by assumption))]
      | rw [told2 (by assumption) (eqs_f (by assumption))]
      | rw [told3 (by assumption)])
    symm
    first
      | exact cut_y (nes_t (by assumption)) (nes_t (by assumption)) (eqs_t (by assumption))
      | exact cut_10 (nes_f (by assumption))
      | exact cut_13 (nes_f (by assumption))
      | exact cut_n (eqs_f (by assumption)))
end Mine
end P_To

section P_Pl
open PySem PySem.W PyProof.Rows PySem.Builtin PySem.Builtin.Str
namespace Mine
/-- one line, its end already stripped, with the mark e -/
def goE (e : List Nat) : List Nat → List Nat
  | [] => e
  | [c] => if c = 61 then [] else c :: e
  | [c, a] => c :: goE e [a]
  | c :: a :: b :: r => if c = 61 ∧ isHx a = true ∧ isHx b = true then (16 * hxv a + hxv b) :: goE e r else c :: goE e (a :: b :: r)
theorem goE_cons {e : List Nat} {c : Nat} (h : c ≠ 61) : ∀ r : List Nat, goE e (c :: r) = c :: goE e r
  | [] => by simp [goE, h]
  | [a] => by simp [goE]
  | a :: b :: r => by rw [goE, if_neg (fun q => h q.1)]
theorem goE_one {e : List Nat} : goE e [61] = [] := by simp [goE]
theorem goE_esc {e : List Nat} {a b : Nat} (ha : isHx a = true) (hb : isHx b = true) (r : List Nat) : goE e (61 :: a :: b :: r) = (16 * hxv a + hxv b) :: goE e r := by
  rw [goE, if_pos ⟨rfl, ha, hb⟩]
theorem goE_lit1 {e : List Nat} {a : Nat} : goE e [61, a] = 61 :: goE e [a] := by simp [goE]
theorem goE_lit2 {e : List Nat} {a b : Nat} (h : isHx a = false ∨ isHx b = false) (r : List Nat) : goE e (61 :: a :: b :: r) = 61 :: goE e (a :: b :: r) := by
  rw [goE, if_neg]
  rintro ⟨_, h1, h2⟩
  rcases h with h | h
  · rw [h] at h1; cases h1
  · rw [h] at h2; cases h2
theorem goE_len (e : List Nat) : ∀ z : List Nat, (goE e z).length ≤ z.length + e.length
  | [] => by simp [goE]
  | [c] => by
    rw [goE]
    split
    · simp
    · simp; omega
  | [c, a] => by
    have := goE_len e [a]
    rw [goE]
    simp only [List.length_cons] at this ⊢
    omega
  | c :: a :: b :: r => by
    rw [goE]
    split
    · have := goE_len e r
      simp only [List.length_cons]
      omega
    · have := goE_len e (a :: b :: r)
      simp only [List.length_cons] at this ⊢
      omega
/-- what a while at place i has still to say -/
def remE (e z : List Nat) (i : Nat) : List Nat := if i = z.length then [] else goE e (z.drop i)
theorem rem_nxt {e z : List Nat} {i : Nat} : goE e (z.drop i) = (if i = z.length then e else []) ++ remE e z i := by
  unfold remE
  split
  · next h => rw [h, List.drop_length]; simp [goE]
  · rfl
theorem rem_end {e z : List Nat} : remE e z z.length = [] := by simp [remE]
theorem rem_plain {e z : List Nat} {i : Nat} (h : i < z.length) (hc : z[i] ≠ 61) : remE e z i = [z[i]] ++ (if i + 1 = z.length then e else []) ++ remE e z (i + 1) := by
  rw [List.append_assoc, ← rem_nxt]
  unfold remE
  rw [if_neg (by omega), List.drop_eq_getElem_cons h, goE_cons hc]
  rfl
theorem rem_last {e z : List Nat} {i : Nat} (h : i < z.length) (hc : z[i] = 61) (h1 : i + 1 = z.length) : remE e z i = remE e z (i + 1) := by
  unfold remE
  rw [if_neg (by omega), if_pos h1, List.drop_eq_getElem_cons h, List.drop_eq_nil_of_le (by omega), hc, goE_one]
theorem rem_esc {e z : List Nat} {i : Nat} (h : i + 2 < z.length) (hc : z[i] = 61) (ha : isHx z[i + 1] = true) (hb : isHx z[i + 2] = true) :
    remE e z i = [16 * hxv z[i + 1] + hxv z[i + 2]] ++ (if i + 3 = z.length then e else []) ++ remE e z (i + 3) := by
  rw [List.append_assoc, ← rem_nxt]
  unfold remE
  rw [if_neg (by omega), List.drop_eq_getElem_cons (by omega : i < z.length), List.drop_eq_getElem_cons (by omega : i + 1 < z.length), List.drop_eq_getElem_cons (by omega : i + 1 + 1 < z.length), hc]
  exact goE_esc ha hb _
theorem rem_lit {e z : List Nat} {i : Nat} (h : i < z.length) (hc : z[i] = 61) (h1 : i + 1 ≠ z.length) (h2 : ∀ (q : i + 2 < z.length), isHx z[i + 1] = false ∨ isHx z[i + 2] = false) :
    remE e z i = [61] ++ remE e z (i + 1) := by
  unfold remE
  rw [if_neg (by omega), if_neg h1, List.drop_eq_getElem_cons h, hc, List.drop_eq_getElem_cons (by omega : i + 1 < z.length)]
  by_cases q : i + 2 < z.length
  · rw [List.drop_eq_getElem_cons (by omega : i + 1 + 1 < z.length)]
    exact goE_lit2 (h2 q) _
  · rw [List.drop_eq_nil_of_le (by omega : z.length ≤ i + 1 + 1)]
    exact goE_lit1
def rsl (l : List Nat) : List Nat := (l.reverse.dropWhile Unicode.isSpace).reverse
theorem rstrip_S (l : List Nat) : Txt.rstrip (S l) = S (rsl l) := by
  have key : ∀ l : List Nat, l.take (l.length - (l.reverse.takeWhile Unicode.isSpace).length) = rsl l := by
    intro l
    unfold rsl
    have h := List.takeWhile_append_dropWhile (p := Unicode.isSpace) (l := l.reverse)
    have h2 : l = (l.reverse.dropWhile Unicode.isSpace).reverse ++ (l.reverse.takeWhile Unicode.isSpace).reverse := by
      rw [← List.reverse_append, h, List.reverse_reverse]
    have h3 : l.length = (l.reverse.dropWhile Unicode.isSpace).length + (l.reverse.takeWhile Unicode.isSpace).length := by
      have := congrArg List.length h2
      simpa using this
    have hk : l.length - (l.reverse.takeWhile Unicode.isSpace).length = (l.reverse.dropWhile Unicode.isSpace).reverse.length := by rw [List.length_reverse]; omega
    rw [hk]
    generalize (l.reverse.dropWhile Unicode.isSpace).reverse = A at h2 ⊢
    generalize (l.reverse.takeWhile Unicode.isSpace).reverse = B at h2
    rw [h2, List.take_left']
    rfl
  have e1 : (S l).cps.toList = l := by simp [S]
  unfold Txt.rstrip Txt.stripBy
  split
  · next h =>
    simp only [PySem.stripSame, PySem.stripLo, PySem.stripHi, S_len, e1, Bool.false_eq_true, if_false, if_true, List.drop_zero, Bool.and_eq_true, beq_iff_eq, true_and] at h
    rw [← key l, h, List.take_length]
  · simp only [PySem.stripped, PySem.stripLo, PySem.stripHi, S_len, e1, Bool.false_eq_true, if_false, if_true, List.drop_zero]
    rw [← key l]
    unfold strSub
    refine Str.ext' ?_
    simp [S]
def DL (e l : List Nat) : List Nat := goE e (rsl l)
theorem S_of (x : Str) : S x.cps.toList = x := by
  refine Str.ext' ?_
  simp [S]
theorem hex_occ (c : Nat) : (occurrences (Str.ofString "0123456789abcdefABCDEF") (S [c]) 0 (Str.ofString "0123456789abcdefABCDEF").length 1).isEmpty = !isHx c := by
  have h := StrLaws.found_one (Str.ofString "0123456789abcdefABCDEF") c
  have e : (Str.ofString "0123456789abcdefABCDEF").cps.toList = hxl := by decide +kernel
  rw [e] at h
  have e2 : decide (c ∈ hxl) = isHx c := by
    cases hx : isHx c with
    | true => exact decide_eq_true (mem_hxl hx)
    | false =>
      refine decide_eq_false fun hm => ?_
      have : ∀ c ∈ hxl, isHx c = true := by decide
      rw [this c hm] at hx
      cases hx
  rw [e2] at h
  show (occurrences _ ⟨#[c]⟩ _ _ _).isEmpty = _
  rw [← h, Bool.not_not]
theorem crlf_occ (c : Nat) : (occurrences (Str.ofString "\x0d\n") (S [c]) 0 (Str.ofString "\x0d\n").length 1).isEmpty = decide (c ≠ 10 ∧ c ≠ 13) := by
  have h := StrLaws.found_one (Str.ofString "\x0d\n") c
  have e : (Str.ofString "\x0d\n").cps.toList = [13, 10] := by decide +kernel
  rw [e] at h
  show (occurrences _ ⟨#[c]⟩ _ _ _).isEmpty = _
  rw [← Bool.not_not (occurrences (Str.ofString "\x0d\n") ⟨#[c]⟩ 0 (Str.ofString "\x0d\n").length 1).isEmpty, h]
  by_cases h1 : c = 10
  · simp [h1]
  · by_cases h2 : c = 13
    · simp [h2]
    · simp [h1, h2]
end Mine
end P_Pl

section P_De
open PySem PySem.W PyProof.Rows
namespace Mine
def decL (x y : List Nat) : List Nat :=
  if h : x = [] then [] else cutE ((((Txt.lines (S x)).map fun q => DL y q.cps.toList)).flatten) (x.getLast h) y
section
variable {z : List Nat} {k : Nat}
theorem itm_eq (h : k < z.length) : Txt.item (S z) (k : Int) = S [z[k]] := item_nat z k h
theorem itm_ne (h : k < z.length) (e : (Txt.item (S z) (k : Int) != Str.ofString "=") = true) : z[k] ≠ 61 := by
  rw [itm_eq h, str_eq] at e
  have := nes_t e
  simpa using this
theorem itm_is (h : k < z.length) (e : (Txt.item (S z) (k : Int) != Str.ofString "=") = false) : z[k] = 61 := by
  rw [itm_eq h, str_eq] at e
  have := nes_f e
  simpa using this
theorem itm_hx1 {b : Bool} (h : k + 1 < z.length) (e : (Builtin.Str.occurrences (Str.ofString "0123456789abcdefABCDEF") (Txt.item (S z) ((k : Int) + 1)) 0 (Str.ofString "0123456789abcdefABCDEF").length 1).isEmpty = b) : isHx z[k + 1] = !b := by
  rw [show ((k : Int) + 1) = ((k + 1 : Nat) : Int) from rfl, item_nat z (k + 1) h, hex_occ] at e
  rw [← e, Bool.not_not]
theorem itm_hx2 {b : Bool} (h : k + 2 < z.length) (e : (Builtin.Str.occurrences (Str.ofString "0123456789abcdefABCDEF") (Txt.item (S z) ((k : Int) + 2)) 0 (Str.ofString "0123456789abcdefABCDEF").length 1).isEmpty = b) : isHx z[k + 2] = !b := by
  rw [show ((k : Int) + 2) = ((k + 2 : Nat) : Int) from rfl, item_nat z (k + 2) h, hex_occ] at e
  rw [← e, Bool.not_not]
theorem slice3 (h : k + 2 < z.length) : Txt.slice (S z) (some (k : Int)) (some ((k : Int) + 3)) = S [z[k], z[k + 1], z[k + 2]] := by
  rw [show ((k : Int) + 3) = ((k + 3 : Nat) : Int) from rfl, slice_nat z k (k + 3) (by omega)]
  congr 1
  rw [List.drop_eq_getElem_cons (by omega : k < z.length), List.drop_eq_getElem_cons (by omega : k + 1 < z.length), List.drop_eq_getElem_cons (by omega : k + 1 + 1 < z.length), show k + 3 - k = 3 by omega]
  rfl
variable {y d X : List Nat}
theorem way1 (h : k < z.length) (hc : z[k] ≠ 61) (h1 : k + 1 = z.length) (hk : d ++ remE y z k = X) : d ++ [z[k]] ++ y ++ remE y z (k + 1) = X := by
  rw [← hk, rem_plain h hc, if_pos h1]; simp
theorem way2 (h : k < z.length) (hc : z[k] ≠ 61) (h1 : k + 1 ≠ z.length) (hk : d ++ remE y z k = X) : d ++ [z[k]] ++ remE y z (k + 1) = X := by
  rw [← hk, rem_plain h hc, if_neg h1]; simp
theorem way3 (h : k < z.length) (hc : z[k] = 61) (h1 : k + 1 = z.length) (hk : d ++ remE y z k = X) : d ++ remE y z (k + 1) = X := by
  rw [← hk, rem_last h hc h1]
theorem way4 (h : k < z.length) (hc : z[k] = 61) (h1 : k + 1 ≠ z.length) (h2 : ∀ (q : k + 2 < z.length), isHx z[k + 1] = false ∨ isHx z[k + 2] = false) (hk : d ++ remE y z k = X) : d ++ [61] ++ remE y z (k + 1) = X := by
  rw [← hk, rem_lit h hc h1 h2]; simp
theorem way5 (h : k + 2 < z.length) (hc : z[k] = 61) (ha : isHx z[k + 1] = true) (hb : isHx z[k + 2] = true) (h1 : k + 3 = z.length) (hk : d ++ remE y z k = X) : d ++ [16 * hxv z[k + 1] + hxv z[k + 2]] ++ y ++ remE y z (k + 3) = X := by
  rw [← hk, rem_esc h hc ha hb, if_pos h1]; simp
theorem way6 (h : k + 2 < z.length) (hc : z[k] = 61) (ha : isHx z[k + 1] = true) (hb : isHx z[k + 2] = true) (h1 : k + 3 ≠ z.length) (hk : d ++ remE y z k = X) : d ++ [16 * hxv z[k + 1] + hxv z[k + 2]] ++ remE y z (k + 3) = X := by
  rw [← hk, rem_esc h hc ha hb, if_neg h1]; simp
end
theorem rsl_len (l : List Nat) : (rsl l).length ≤ l.length := by
  unfold rsl
  rw [List.length_reverse]
  have := (List.dropWhile_sublist Unicode.isSpace (l := l.reverse)).length_le
  simpa using this
theorem flat_len (y : List Nat) : ∀ ls : List (Str × Tok), ((ls.map fun p => DL y p.1.cps.toList).flatten).length ≤ ((ls.map (·.1)).map (·.length)).sum + y.length * ls.length
  | [] => by simp
  | p :: r => by
    have h1 := flat_len y r
    have h2 := goE_len y (rsl p.1.cps.toList)
    have h3 := rsl_len p.1.cps.toList
    have h4 : p.1.cps.toList.length = p.1.length := by simp [Str.length]
    simp only [List.map_cons, List.flatten_cons, List.length_append, List.sum_cons, List.length_cons]
    have h5 : (DL y p.1.cps.toList).length ≤ p.1.length + y.length := by unfold DL; omega
    rw [Nat.mul_add, Nat.mul_one]
    omega
theorem flat_all {x y : List Nat} {l : List (Str × Tok)} (h : l.map (·.1) = Txt.lines (S x)) (hx : x.length ≤ 1000) (hy : y.length ≤ 2) : ((l.map fun p => DL y p.1.cps.toList).flatten).length ≤ 3000 := by
  have h1 := flat_len y l
  have h2 := StrLaws.lines_weight (S x)
  rw [← h, S_len, List.length_map] at h2
  have h3 : y.length * l.length ≤ 2 * l.length := Nat.mul_le_mul_right _ hy
  omega
theorem flat_take {f : Str × Tok → List Nat} (l : List (Str × Tok)) (i : Nat) : (((l.take i).map f).flatten).length ≤ ((l.map f).flatten).length := by
  have : l.map f = (l.take i).map f ++ (l.drop i).map f := by rw [← List.map_append, List.take_append_drop]
  rw [this, List.flatten_append, List.length_append]
  omega
theorem end_yes {x y X : List Nat} (hxn : x ≠ []) (h1 : (Builtin.Str.occurrences (Str.ofString "\x0d\n") (Txt.item (S x) (-1)) 0 (Str.ofString "\x0d\n").length 1).isEmpty = true) (h2 : Txt.endswith (S X) (S y) = true) : cutE X (x.getLast hxn) y = X.take (X.length - y.length) := by
  rw [item_last x hxn, crlf_occ] at h1
  rw [endsw_S] at h2
  unfold cutE
  rw [if_pos ⟨of_decide_eq_true h1, of_decide_eq_true h2⟩]
theorem end_no1 {x y X : List Nat} (hxn : x ≠ []) (h1 : (Builtin.Str.occurrences (Str.ofString "\x0d\n") (Txt.item (S x) (-1)) 0 (Str.ofString "\x0d\n").length 1).isEmpty = false) : cutE X (x.getLast hxn) y = X := by
  rw [item_last x hxn, crlf_occ] at h1
  unfold cutE
  rw [if_neg fun h => of_decide_eq_false h1 h.1]
theorem end_no2 {c : Nat} {y X : List Nat} (h2 : Txt.endswith (S X) (S y) = false) : cutE X c y = X := by
  rw [endsw_S] at h2
  unfold cutE
  rw [if_neg fun h => of_decide_eq_false h2 h.2]
/-- a contract with room for a def that calls a def: the library's form for a def that calls itself, at depth 4 -/
abbrev DClaim (w : World) (mean : ExcName → Option Value) (mg mb : Str → Option Value) (f : Addr) (news : List (Addr × Obj)) (pre : Prop) (vs : List Value) (R : Tok → Value) : Prop :=
  CbRec Challenge.rw_nb0379_01.row.prog w (hd.heap_39 w.params) hd.view_39 (looseW hd.view_39 [Str.ofString "hexdigits", Str.ofString "decode"]) mean mg mb f news [] pre 4 vs R
theorem decode_cb (w : World) (mean : ExcName → Option Value) (mg mb : Str → Option Value) (news : List (Addr × Obj)) (x y : List Nat) (t u : Tok) :
  DClaim w mean mg mb 29 news (x.length ≤ 1000 ∧ 1 ≤ y.length ∧ y.length ≤ 2) [.str (S x) t, .str (S y) u] (fun t => .str (S (decL x y)) t) := by
  unfold DClaim CbRec; k_fill; dsimp only [CbLists, CbRet]
  intro dp un gd cn cs a ccd cl outer A₀ base h₀ L m s Q E B0 F0 X0 N0 T0 hcs hpre hdp hun hret
  replace hdp : dp + 5 < recursionLimit := hdp
  replace hun : un + 40 < cLine := hun
  obtain ⟨hx, hy1, hy2⟩ := hpre
  have sx : (S x).length ≤ 1000 := hx
  have sy1 : 1 ≤ (S y).length := hy1
  have sy2 : (S y).length ≤ 2 := hy2
  refine wpAny_call ?_
  k_dflt (refine' code_def (binds := [(Str.ofString "encoded", .str (S x) t), (Str.ofString "eol", .str (S y) u)]) ?k1 ?k2 ?k3 ?k4 ?k5 ?kA ?kF ?kK ?k6 ?k7 ?k8 ?k9 ?kB ?_ ?c2 ?c3 ?c4 ?c5; (case kA => exact rfl); (case kF => exact rfl); (case kK => assumption); (case k1 => k_asm); (case k2 => k_asm); (case k3 => k_asm); (case k4 => k_asm); (case k5 => k_asm); (case k6 => k_is); (case k7 => k_is); (case k8 => ktr_room); (case k9 => exact binds_K (by k_in) rfl (by k_is) rfl rfl rfl); (case c5 => decide); (case kB => exact locs rfl); (case c2 => exact rfl); (case c3 => exact rfl); (case c4 => exact rfl); k_whole; intro g' L' h' FG' F' N' B' X' T'; (try dsimp only); (try k_lift B'); (try k_fold))
  k_steps
  rotate_left
  · refine cb_retS hret ?_ (by k_asm) (by k_asm)
    have h0 : (((S x).length : Nat) : Int) = 0 := by assumption
    have : x = [] := by rw [S_len] at h0; exact List.length_eq_zero_iff.mp (by omega)
    subst this
    rfl
  have hx0 : (((S x).length : Nat) : Int) ≠ 0 := by assumption
  have hxn : x ≠ [] := by
    intro h; subst h; exact hx0 rfl
  rename_i l hh kk hl1 hl2 hl3 hl4 hF hN
  refine loop_list (fun i m => ∃ tk, Has [(Str.ofString "decoded", .str (S (((l.take i).map fun p => DL y p.1.cps.toList).flatten)) tk), (Str.ofString "encoded", .str (S x) t), (Str.ofString "eol", .str (S y) u)] m) rfl (List.Mem.head _) hF hN ?st ?turn ?done
  case st =>
    refine' ⟨_, Has.cons ?_ (Has.cons rfl (Has.cons rfl Has.nil))⟩
    rotate_left
    · rfl
  case turn =>
    rintro i v m₁ h₂ tk₂ own hi ⟨tk', hH⟩ F2 N2
    have F3 := frHasX F2 hH
    clear F2
    obtain ⟨q, hq1, hq2⟩ : ∃ q : Str × Tok, l[i]? = some q ∧ v = .str q.1 q.2 := by
      have hi' : (l.map fun p => Value.str p.1 p.2)[i]? = some v := hi
      rw [List.getElem?_map] at hi'
      cases hq : l[i]? with
      | none => rw [hq] at hi'; cases hi'
      | some q =>
        rw [hq] at hi'
        exact ⟨q, rfl, (Option.some.inj hi').symm⟩
    obtain ⟨ln, tln⟩ := q
    dsimp only at hq2
    subst hq2
    have hacc : (((l.take (i + 1)).map fun p => DL y p.1.cps.toList).flatten) = (((l.take i).map fun p => DL y p.1.cps.toList).flatten) ++ DL y ln.cps.toList := by
      rw [List.take_add_one, hq1]
      simp
    have hlen : ln.length ≤ 1000 := Nat.le_trans (hl3 ln (List.mem_map.mpr ⟨_, List.mem_of_getElem? hq1, rfl⟩)) sx
    have hal : (((l.take i).map fun p => DL y p.1.cps.toList).flatten).length ≤ 3000 := Nat.le_trans (flat_take l i) (flat_all hl1 hx hy2)
    generalize ((l.take i).map fun p => DL y p.1.cps.toList).flatten = acc at F3 hacc hal
    have sal : (S acc).length ≤ 3000 := by rw [S_len]; exact hal
    obtain ⟨lnl, rfl⟩ : ∃ z, ln = S z := ⟨_, (S_of ln).symm⟩
    rw [show (S lnl).cps.toList = lnl by simp [S]] at hacc
    dsimp only [ov] at F3
    clear hi hq1 hF hN hl1 hl2 hl3 hl4 hH
    repeat' (first | ((fail_if_success (with_reducible show wpAny _ _ (exec (Stmt.While _ _ _ _) _) _ _ _)); first | (k_unfold; (try dsimp only)) | (k_end; wrow_close) | walk1 | (dsimp only; walk1) | (leave1; try dsimp only)))
    rotate_left
    · have h0 : (((Txt.rstrip (S lnl)).length : Nat) : Int) = 0 := by assumption
      rw [rstrip_S, S_len] at h0
      have hr : rsl lnl = [] := List.length_eq_zero_iff.mp (by omega)
      have hD : DL y lnl = y := by unfold DL; rw [hr]; rfl
      have e : S acc ++ S y = S (((l.take (i + 1)).map fun p => DL y p.1.cps.toList).flatten) := by rw [hacc, hD, S_append]
      dsimp only
      refine' LoopGo.mk (by k_asm) (by k_asm) (fun _ h => h) ⟨_, Has.cons (congrArg (fun z => some (Value.str z _)) e) (Has.cons rfl (Has.cons rfl Has.nil))⟩
    have h0 : (((Txt.rstrip (S lnl)).length : Nat) : Int) ≠ 0 := by assumption
    rename Fr g' L' _ _ => F4
    rename News g' L' _ _ => N4
    rw [rstrip_S] at F4 h0
    have hzl : (S (rsl lnl)).length ≤ 1000 := by rw [← rstrip_S]; omega
    have hD : DL y lnl = goE y (rsl lnl) := rfl
    rw [hD] at hacc
    generalize rsl lnl = z at F4 h0 hzl hacc hD
    have hz0 : z.length ≠ 0 := by rw [S_len] at h0; omega
    have hz1 : z.length ≤ 1000 := by rw [S_len] at hzl; exact hzl
    refine' loop_while (fun n m => ∃ (k : Nat) (d : List Nat) (ti td tz tn : Tok), n = z.length - k ∧ k ≤ z.length ∧ d ++ remE y z k = acc ++ goE y z ∧
        Has [(Str.ofString "decoded", .str (S d) td), (Str.ofString "i", .int (k : Int) ti), (Str.ofString "n", .int ((z.length : Nat) : Int) tn), (Str.ofString "line", .str (S z) tz), (Str.ofString "encoded", .str (S x) t), (Str.ofString "eol", .str (S y) u)] m) z.length F4 N4 ?wst ?wturn
    case wst =>
      refine' ⟨0, acc, _, _, _, _, rfl, Nat.zero_le _, ?rem, Has.cons rfl (Has.cons rfl (Has.cons ?nn (Has.cons rfl (Has.cons rfl (Has.cons rfl Has.nil)))))⟩
      case rem =>
        unfold remE
        rw [if_neg (by omega), List.drop_zero]
      case nn => exact rfl
    case wturn =>
      rintro n m₂ h₃ tk₃ ⟨k, d, ti, td, tz, tn, rfl, hk1, hk2, hH⟩ F5 N5
      have F6 := frHas F5 hH
      have hdl : d.length ≤ 5000 := by
        have h1 := congrArg List.length hk2
        have h2 := goE_len y z
        simp only [List.length_append] at h1
        omega
      have sdl : (S d).length ≤ 5000 := by rw [S_len]; exact hdl
      have szl : (S z).length = z.length := S_len z
      dsimp only [ov] at F6
      clear F5 F4 N4 hH F3 N2
      k_steps
      any_goals (exfalso; omega)
      · have hk : k < z.length := by omega
        have hc := itm_ne hk (by assumption)
        have e : S d ++ Txt.item (S z) (k : Int) ++ S y = S (d ++ [z[k]] ++ y) := by rw [itm_eq hk, S_append, S_append]
        refine' LoopGo.mk (by k_asm) (by k_asm) (fun _ h => h) ⟨z.length - (k + 1), by omega, k + 1, d ++ [z[k]] ++ y, _, _, _, _, rfl, by omega, way1 hk hc (by omega) hk2, Has.cons (congrArg (fun q => some (Value.str q _)) e) (Has.cons rfl (Has.cons rfl (Has.cons rfl (Has.cons rfl (Has.cons rfl Has.nil)))))⟩
      · have hk : k < z.length := by omega
        have hc := itm_ne hk (by assumption)
        have e : S d ++ Txt.item (S z) (k : Int) = S (d ++ [z[k]]) := by rw [itm_eq hk, S_append]
        refine' LoopGo.mk (by k_asm) (by k_asm) (fun _ h => h) ⟨z.length - (k + 1), by omega, k + 1, d ++ [z[k]], _, _, _, _, rfl, by omega, way2 hk hc (by omega) hk2, Has.cons (congrArg (fun q => some (Value.str q _)) e) (Has.cons rfl (Has.cons rfl (Has.cons rfl (Has.cons rfl (Has.cons rfl Has.nil)))))⟩
      · have hk : k < z.length := by omega
        have hc := itm_is hk (by assumption)
        dsimp only
        refine' LoopGo.mk (by k_asm) (by k_asm) (fun _ h => h) ⟨z.length - (k + 1), by omega, k + 1, d, _, _, _, _, rfl, by omega, way3 hk hc (by omega) hk2, Has.cons rfl (Has.cons rfl (Has.cons rfl (Has.cons rfl (Has.cons rfl (Has.cons rfl Has.nil)))))⟩
      · have hk : k < z.length := by omega
        have hc := itm_is hk (by assumption)
        have h2 : ∀ (q : k + 2 < z.length), isHx z[k + 1] = false ∨ isHx z[k + 2] = false := fun q => .inl (itm_hx1 (b := true) (by omega) (by assumption))
        have e : S d ++ Txt.item (S z) (k : Int) = S (d ++ [61]) := by rw [itm_eq hk, hc, S_append]
        refine' LoopGo.mk (by k_asm) (by k_asm) (fun _ h => h) ⟨z.length - (k + 1), by omega, k + 1, d ++ [61], _, _, _, _, rfl, by omega, way4 hk hc (by omega) h2 hk2, Has.cons (congrArg (fun q => some (Value.str q _)) e) (Has.cons rfl (Has.cons rfl (Has.cons rfl (Has.cons rfl (Has.cons rfl Has.nil)))))⟩
      · have hk : k < z.length := by omega
        have hc := itm_is hk (by assumption)
        have h2 : ∀ (q : k + 2 < z.length), isHx z[k + 1] = false ∨ isHx z[k + 2] = false := fun q => .inr (itm_hx2 (b := true) (by omega) (by assumption))
        have e : S d ++ Txt.item (S z) (k : Int) = S (d ++ [61]) := by rw [itm_eq hk, hc, S_append]
        refine' LoopGo.mk (by k_asm) (by k_asm) (fun _ h => h) ⟨z.length - (k + 1), by omega, k + 1, d ++ [61], _, _, _, _, rfl, by omega, way4 hk hc (by omega) h2 hk2, Has.cons (congrArg (fun q => some (Value.str q _)) e) (Has.cons rfl (Has.cons rfl (Has.cons rfl (Has.cons rfl (Has.cons rfl Has.nil)))))⟩
      · have hk : k < z.length := by omega
        have hk3 : k + 2 < z.length := by omega
        have hc := itm_is hk (by assumption)
        have ha := itm_hx1 (z := z) (k := k) (b := false) (by omega) (by assumption)
        have hb := itm_hx2 (z := z) (k := k) (b := false) (by omega) (by assumption)
        rw [Bool.not_false] at ha hb
        rw [slice3 hk3]
        have hU := fun nw tt => unquote_cb w mean mg mb nw z[k] _ _ ha hb tt
        unfold Claim CbClaim at hU
        dsimp only [CbLists, CbRet] at hU
        k_dflt (refine' hU _ _ _ _ _ _ _ _ _ _ _ _ _ _ _ _ _ _ _ ?k1 ?k2 ?k3 ?k4 ?k5 ?kK ?kp ?kd ?ku ?kR)
        case k1 => k_asm
        case k2 => k_asm
        case k3 => k_asm
        case k4 => k_asm
        case k5 => k_asm
        case kK => exact rfl
        case kp => trivial
        case kd => ktr_room
        case ku => ktr_units
        clear hU
        intro t9 h9 tk9 F9 N9
        (try dsimp only)
        have hu1 : (S [16 * hxv z[k + 1] + hxv z[k + 2]]).length = 1 := rfl
        k_steps
        · have h3 : k + 3 = z.length := by omega
          have e : S d ++ S [16 * hxv z[k + 1] + hxv z[k + 2]] ++ S y = S (d ++ [16 * hxv z[k + 1] + hxv z[k + 2]] ++ y) := by rw [S_append, S_append]
          refine' LoopGo.mk (by k_asm) (by k_asm) (fun _ h => h) ⟨z.length - (k + 3), by omega, k + 3, d ++ [16 * hxv z[k + 1] + hxv z[k + 2]] ++ y, _, _, _, _, rfl, by omega, way5 hk3 hc ha hb h3 hk2, Has.cons (congrArg (fun q => some (Value.str q _)) e) (Has.cons rfl (Has.cons rfl (Has.cons rfl (Has.cons rfl (Has.cons rfl Has.nil)))))⟩
        · have h3 : k + 3 ≠ z.length := by omega
          have e : S d ++ S [16 * hxv z[k + 1] + hxv z[k + 2]] = S (d ++ [16 * hxv z[k + 1] + hxv z[k + 2]]) := by rw [S_append]
          refine' LoopGo.mk (by k_asm) (by k_asm) (fun _ h => h) ⟨z.length - (k + 3), by omega, k + 3, d ++ [16 * hxv z[k + 1] + hxv z[k + 2]], _, _, _, _, rfl, by omega, way6 hk3 hc ha hb h3 hk2, Has.cons (congrArg (fun q => some (Value.str q _)) e) (Has.cons rfl (Has.cons rfl (Has.cons rfl (Has.cons rfl (Has.cons rfl Has.nil)))))⟩
      · have hk : k < z.length := by omega
        have hc := itm_is hk (by assumption)
        have h2 : ∀ (q : k + 2 < z.length), isHx z[k + 1] = false ∨ isHx z[k + 2] = false := fun q => absurd q (by omega)
        have e : S d ++ Txt.item (S z) (k : Int) = S (d ++ [61]) := by rw [itm_eq hk, hc, S_append]
        refine' LoopGo.mk (by k_asm) (by k_asm) (fun _ h => h) ⟨z.length - (k + 1), by omega, k + 1, d ++ [61], _, _, _, _, rfl, by omega, way4 hk hc (by omega) h2 hk2, Has.cons (congrArg (fun q => some (Value.str q _)) e) (Has.cons rfl (Has.cons rfl (Has.cons rfl (Has.cons rfl (Has.cons rfl Has.nil)))))⟩
      · have hk : k = z.length := by omega
        subst hk
        rw [rem_end, List.append_nil] at hk2
        have e : S d = S (((l.take (i + 1)).map fun p => DL y p.1.cps.toList).flatten) := by rw [hacc, hk2]
        refine' LoopGo.mk (by k_asm) (by k_asm) (fun _ h => h) ⟨_, Has.cons (congrArg (fun z => some (Value.str z _)) e) (Has.cons rfl (Has.cons rfl Has.nil))⟩
  case done =>
    rintro m₁ h₂ tk₂ ⟨tk', hH⟩ F2 N2
    have F3 := frHas F2 hH
    have hlv : (strValues l).length = l.length := by simp [strValues]
    rw [hlv, List.take_length] at F3
    have hall : ((l.map fun p => DL y p.1.cps.toList)).flatten = ((Txt.lines (S x)).map fun q => DL y q.cps.toList).flatten := by
      rw [← hl1, List.map_map]; rfl
    have hal : (((l.map fun p => DL y p.1.cps.toList)).flatten).length ≤ 3000 := flat_all hl1 hx hy2
    rw [hall] at F3 hal
    have hdec : decL x y = cutE (((Txt.lines (S x)).map fun q => DL y q.cps.toList).flatten) (x.getLast hxn) y := by unfold decL; rw [dif_neg hxn]
    generalize ((Txt.lines (S x)).map fun q => DL y q.cps.toList).flatten = X at F3 hal hdec
    have sal : (S X).length ≤ 3000 := by rw [S_len]; exact hal
    have hil := item_last x hxn
    dsimp only [ov] at F3
    clear F2 hF hN hH hl1 hl2 hl3 hl4 hall
    k_steps
    · refine cb_retS hret ?_ (by k_asm) (cb_drop (by assumption) fun p hp => List.mem_cons_of_mem _ hp)
      rw [S_len, slice_neg_to _ _ hy1, hdec, end_yes hxn (by assumption) (by assumption)]
    · refine cb_retS hret ?_ (by k_asm) (cb_drop (by assumption) fun p hp => List.mem_cons_of_mem _ hp)
      rw [hdec, end_no2 (by assumption)]
    · refine cb_retS hret ?_ (by k_asm) (cb_drop (by assumption) fun p hp => List.mem_cons_of_mem _ hp)
      rw [hdec, end_no1 hxn (by assumption)]
end Mine
end P_De

section P_Lp
open PySem PySem.W PyProof.Rows PySem.Calls PySem.Spec
namespace Mine
section
variable {prog : Program} {w : World} {A : Around} {E : Value → Shared → Prop} {Q : Flow → Shared → Prop} {s : Shared} {env : Env} {h₀ : Heap} {x : Str} {body : List Stmt}
theorem loop_range {r : Addr} {n : Nat} {t₀ u₀ v₀ : Tok} {m₀ : Str → Option Value} {news : List (Addr × Obj)} (J : Nat → (Str → Option Value) → List (Addr × Obj) → Prop)
    (hh : A.handled = none) (hr : IsRange s.heap r 0 (n : Int) 1 t₀ u₀ v₀) (hn : n < 1000) (F : Fr h₀ env.locals s.heap m₀) (N : News h₀ env.locals s.heap news) (hj : J 0 m₀ news)
    (turn : ∀ i t m₁ nx h tk own, i < n → OwnOff own (nx.map (·.1)) → J i m₁ nx → Fr h₀ env.locals h (fun y => if y = x then some (.int (i : Int) t) else m₁ y) → News h₀ env.locals h (nx ++ own) →
      wpAny (model prog w) A (execs body env) (InvPostG h₀ env.locals (J (i + 1)) own { s with heap := h, toks := tk } Q) E { s with heap := h, toks := tk })
    (done : ∀ m₁ nx h tk, J n m₁ nx → Fr h₀ env.locals h m₁ → News h₀ env.locals h nx → Q .next { s with heap := h, toks := tk }) :
    wpAny (model prog w) A (pyIter (.ref r)) (fun it s₂ => LoopAtV prog w A h₀ env x body Q E it s₂) E s := by
  have hsmall : Builtin.Range.small 0 (n : Int) 1 = true := small_one (by decide) (by decide) (by omega) (by omega)
  have hsz : Builtin.Range.rangeSize 0 (n : Int) 1 = (n : Int) := by
    unfold Builtin.Range.rangeSize
    rw [if_pos (by decide)]
    split <;> omega
  refine tbr_invG J hh hr hsmall hsz F N hj ?_ done
  intro i k t m₁ nx h tk own at_i apart hJ F₁ N₁
  obtain ⟨hi, rfl⟩ : i < n ∧ k = (i : Int) := by
    have lt : i < n := by
      have := (List.getElem?_eq_some_iff.mp at_i).1
      rwa [rangeKs_length] at this
    refine ⟨lt, ?_⟩
    simp [rangeKs, lt] at at_i
    exact at_i.symm
  have away : OwnOff own (nx.map (·.1)) := fun p hp b hb => by
    obtain ⟨q, hq, rfl⟩ := List.mem_map.mp hb
    exact apart p hp q hq
  refine wpAny_mono (turn i t m₁ nx h tk own hi away hJ F₁ N₁) (fun f s₂ post => ?_) fun _ _ e => e
  have over : ∀ {s' s'' : Shared}, InvEndG h₀ env.locals (J (i + 1)) own s' s'' → TbEnd h₀ env.locals (J (i + 1)) own s' s'' := by
    rintro _ _ ⟨h', tk', m', all, nx', e, F', N', sub, own_in, off, hJ'⟩
    exact ⟨h', tk', m', all, nx', e, F', N', sub, own_in, fun p hp q hq => off p hp _ (List.mem_map_of_mem hq), hJ'⟩
  match f with
  | .ret _ => exact post
  | .brk => exact post
  | .next => exact over post
  | .cont => exact over post
theorem join_if {st : Stmt} {L : Addr} {m : Str → Option Value} (G : (Str → Option Value) → List (Addr × Obj) → Prop) (_F : Fr h₀ L s.heap m)
    (h : wpAny (model prog w) A (exec st env) (fun f s' => f = .next ∧ ∃ h' tk' m' nx', s' = { s with heap := h', toks := tk' } ∧ Fr h₀ L h' m' ∧ News h₀ L h' nx' ∧ G m' nx') E s)
    (h2 : ∀ h' tk' m' nx', Fr h₀ L h' m' → News h₀ L h' nx' → G m' nx' → Q .next { s with heap := h', toks := tk' }) : wpAny (model prog w) A (exec st env) Q E s := by
  refine wpAny_mono h (fun f s' hq => ?_) fun _ _ x => x
  obtain ⟨rfl, h', tk', m', nx', rfl, F, N, hG⟩ := hq
  exact h2 h' tk' m' nx' F N hG
end
/-- the reader, sign by sign: the state and the sign before -/
def run1 (mk : List Nat) (p : RS × List Nat) (c : Nat) : RS × List Nat := (if c = 10 ∧ p.2 = [13] then p.1 else stepL p.1 c mk, [c])
def rs0 : RS := ⟨[], [], [], [], false⟩
def runS (mk : List Nat) (l : List Nat) : RS × List Nat := l.foldl (run1 mk) (rs0, [])
theorem runS_snoc (mk l : List Nat) (c : Nat) : runS mk (l ++ [c]) = run1 mk (runS mk l) c := by
  unfold runS; rw [List.foldl_append]; rfl
theorem runS_take {mk T : List Nat} {i : Nat} (h : i < T.length) : runS mk (T.take (i + 1)) = run1 mk (runS mk (T.take i)) T[i] := by
  rw [List.take_succ_eq_append_getElem h, runS_snoc]
structure RsOk (k : Nat) (r : RS) : Prop where
  he : heOk r.he
  len : r.dn.length + r.sh.length + r.he.length + r.wh.length ≤ 3 * k
  sml : ∀ c ∈ r.sh, c < 256
  wsm : ∀ c ∈ r.wh, c < 256
theorem isHx_lt {c : Nat} (h : isHx c = true) : c < 256 := by
  have hb : ∀ x ∈ hxl, x < 256 := by decide
  exact hb c (mem_hxl h)
theorem heOk_lt {l : List Nat} (h : heOk l) : ∀ c ∈ l, c < 256 := by
  rcases h with rfl | rfl | ⟨x, rfl, hx⟩
  · simp
  · simp
  · have := isHx_lt hx
    simp [this]
theorem isWh_lt {c : Nat} (h : isWh c = true) : c < 256 := by
  simp [isWh] at h
  omega
theorem rsOk0 : RsOk 0 rs0 := ⟨.inl rfl, by simp [rs0], by simp [rs0], by simp [rs0]⟩
theorem step_ok {k : Nat} {r : RS} {c : Nat} {mk : List Nat} (h : RsOk k r) (hc : c < 256) (hm : mk.length ≤ 2) : RsOk (k + 1) (stepL r c mk) := by
  obtain ⟨he, hl, hs, hw⟩ := h
  have hlt := heOk_lt he
  unfold stepL
  split
  · refine ⟨.inl rfl, ?_, by simp, by simp⟩
    simp only [List.length_append, List.length_nil]
    split <;> (try simp only [List.length_append]) <;> omega
  split
  · refine ⟨he, ?_, hs, ?_⟩
    · simp only [List.length_append, List.length_singleton]; omega
    · intro x hx
      rcases List.mem_append.mp hx with hx | hx
      · exact hw x hx
      · rw [List.mem_singleton.mp hx]; exact hc
  split
  · refine ⟨.inr (.inl rfl), ?_, ?_, by simp⟩
    · simp only [List.length_singleton, List.length_nil]
      split <;> (try simp only [List.length_append]) <;> omega
    · intro x hx
      dsimp only at hx
      split at hx
      · rcases List.mem_append.mp hx with hx | hx
        · exact hs x hx
        · exact hlt x hx
      · rcases List.mem_append.mp hx with hx | hx
        · rcases List.mem_append.mp hx with hx | hx
          · exact hs x hx
          · exact hlt x hx
        · exact hw x hx
  split
  · refine ⟨.inl rfl, ?_, ?_, by simp⟩
    · simp only [List.length_append, List.length_singleton, List.length_nil]; omega
    · intro x hx
      rcases List.mem_append.mp hx with hx | hx
      · rcases List.mem_append.mp hx with hx | hx
        · rcases List.mem_append.mp hx with hx | hx
          · exact hs x hx
          · exact hlt x hx
        · exact hw x hx
      · rw [List.mem_singleton.mp hx]; exact hc
  split
  · refine ⟨.inl rfl, ?_, ?_, by simp⟩
    · simp only [List.length_append, List.length_singleton, List.length_nil]; omega
    · intro x hx
      rcases List.mem_append.mp hx with hx | hx
      · rcases List.mem_append.mp hx with hx | hx
        · exact hs x hx
        · exact hlt x hx
      · rw [List.mem_singleton.mp hx]; exact hc
  · next h5 =>
    have hx : isHx c = true := by
      cases q : isHx c with
      | true => rfl
      | false => exact absurd (Or.inr q) h5
    split
    · next h6 =>
      refine ⟨.inr (.inr ⟨c, by rw [h6]; rfl, hx⟩), ?_, hs, by simp⟩
      simp only [List.length_append, List.length_singleton, List.length_nil]; omega
    · next h6 =>
      refine ⟨.inl rfl, ?_, ?_, by simp⟩
      · simp only [List.length_append, List.length_singleton, List.length_nil]; omega
      · intro x hx'
        rcases List.mem_append.mp hx' with hx' | hx'
        · exact hs x hx'
        · rcases he with e | e | ⟨y, e, hy⟩
          · exact absurd (Or.inl e) h5
          · exact absurd e h6
          · rw [List.mem_singleton.mp hx', e]
            have h1 := hxv_lt hx
            have h2 := hxv_lt hy
            show 16 * hxv y + hxv c < 256
            omega
theorem run_ok {mk T : List Nat} (hm : mk.length ≤ 2) (hT : ∀ c ∈ T, c < 256) : ∀ i, i ≤ T.length → RsOk i (runS mk (T.take i)).1
  | 0, _ => by rw [List.take_zero]; exact rsOk0
  | i + 1, hi => by
    have ih := run_ok hm hT i (by omega)
    rw [runS_take (by omega)]
    unfold run1
    dsimp only
    split
    · exact ⟨ih.he, by have := ih.len; omega, ih.sml, ih.wsm⟩
    · exact step_ok ih (hT _ (List.getElem_mem _)) hm
theorem sign_lt (x : Int) : signOf x < 256 := by
  unfold signOf
  have h0 : 0 ≤ x.fmod 16 := Int.fmod_nonneg_of_pos _ (by decide)
  have h1 : x.fmod 16 < 16 := Int.fmod_lt_of_pos _ (by decide)
  split
  · have h2 : 0 ≤ (x.fdiv 16).fmod 256 := Int.fmod_nonneg_of_pos _ (by decide)
    have h3 : (x.fdiv 16).fmod 256 < 256 := Int.fmod_lt_of_pos _ (by decide)
    omega
  · have : ∀ k < 16, [61, 48, 65, 32, 10, 13, 11, 160, 107, 61, 100, 52, 9, 61, 102].getD k 0 < 256 := by decide
    exact this _ (by omega)
end Mine
end P_Lp

section P_Pb
open PySem PySem.W PyProof.Rows PySem.Builtin PySem.Builtin.Str
namespace Mine
/-- the reader's way through the lines: the open line, whether a CR stands just before -/
def lnB (cur : List Nat) (cr : Bool) : List Nat → List (List Nat)
  | [] => if cur = [] then [] else [cur]
  | c :: r => if c = 10 ∧ cr = true then lnB cur false r else if isEnd c = true then cur :: lnB [] (decide (c = 13)) r else lnB (cur ++ [c]) false r
def sumD (e : List Nat) (ls : List (List Nat)) : List Nat := (ls.map (DL e)).flatten
theorem sumD_cons (e l : List Nat) (ls : List (List Nat)) : sumD e (l :: ls) = DL e l ++ sumD e ls := rfl
/-- nothing, or its last sign is no white one -/
def nw (l : List Nat) : Prop := l = [] ∨ ∃ a c, l = a ++ [c] ∧ Unicode.isSpace c = false
theorem rsl_nil : rsl [] = [] := rfl
theorem rsl_white (l : List Nat) (c : Nat) (h : Unicode.isSpace c = true) : rsl (l ++ [c]) = rsl l := by
  unfold rsl
  rw [List.reverse_append]
  simp [List.dropWhile, h]
theorem rsl_keep (l : List Nat) (c : Nat) (h : Unicode.isSpace c = false) : rsl (l ++ [c]) = l ++ [c] := by
  unfold rsl
  rw [List.reverse_append]
  simp [List.dropWhile, h]
theorem rsl_nw {l : List Nat} (h : nw l) : rsl l = l := by
  rcases h with rfl | ⟨a, c, rfl, hc⟩
  · rfl
  · exact rsl_keep a c hc
/-- snoc induction on the right part -/
theorem rsl_app {l : List Nat} (h : nw l) : ∀ (n : Nat) (y : List Nat), y.length = n → rsl (l ++ y) = l ++ rsl y
  | 0, y, hy => by
    have : y = [] := List.length_eq_zero_iff.mp hy
    subst this
    rw [List.append_nil, rsl_nw h, rsl_nil, List.append_nil]
  | n + 1, y, hy => by
    have hne : y ≠ [] := by intro e; subst e; simp at hy
    obtain ⟨z, c, rfl⟩ : ∃ z c, y = z ++ [c] := ⟨_, _, (List.dropLast_concat_getLast hne).symm⟩
    rw [← List.append_assoc]
    cases hc : Unicode.isSpace c with
    | true => rw [rsl_white _ _ hc, rsl_white _ _ hc]; exact rsl_app h n z (by simpa using hy)
    | false => rw [rsl_keep _ _ hc, rsl_keep _ _ hc, List.append_assoc]
theorem rsl_append {l : List Nat} (h : nw l) (y : List Nat) : rsl (l ++ y) = l ++ rsl y := rsl_app h _ y rfl
/-- the reader's state tells the open line cur, whose closed lines are told by dn -/
structure Tells (e : List Nat) (r : RS) (cur : List Nat) : Prop where
  ex : ∃ l0, cur = l0 ++ r.wh ∧ nw l0 ∧ (∀ z, goE e (l0 ++ z) = r.sh ++ goE e (r.he ++ z))
  he : heOk r.he
  wh : ∀ c ∈ r.wh, isWh c = true
  bg : r.bg = true ↔ cur ≠ []
theorem wh_space {c : Nat} (h : isWh c = true) : Unicode.isSpace c = true := by
  have : ∀ c < 256, isWh c = true → Unicode.isSpace c = true := by decide +kernel
  exact this c (isWh_lt h) h
theorem wh_not {c : Nat} (h : isWh c = true) : isHx c = false ∧ c ≠ 61 := by
  have : ∀ c < 256, isWh c = true → isHx c = false ∧ c ≠ 61 := by decide +kernel
  exact this c (isWh_lt h) h
theorem plain_space {c : Nat} (hc : c < 256) (h1 : isEnd c = false) (h2 : isWh c = false) : Unicode.isSpace c = false := by
  have : ∀ c < 256, isEnd c = false → isWh c = false → Unicode.isSpace c = false := by decide +kernel
  exact this c hc h1 h2
theorem hx_space {c : Nat} (h : isHx c = true) : Unicode.isSpace c = false := by
  have : ∀ c ∈ hxl, Unicode.isSpace c = false := by decide +kernel
  exact this c (mem_hxl h)
theorem hx_ne {c : Nat} (h : isHx c = true) : c ≠ 61 := by
  intro e; subst e; revert h; decide
theorem goE_notHx {e : List Nat} {a : Nat} (h : isHx a = false) : ∀ r, goE e (61 :: a :: r) = 61 :: goE e (a :: r)
  | [] => goE_lit1
  | b :: r => goE_lit2 (.inl h) r
theorem goE_notHx2 {e : List Nat} {x a : Nat} (h : isHx a = false) (r : List Nat) : goE e (61 :: x :: a :: r) = 61 :: goE e (x :: a :: r) := goE_lit2 (.inr h) r
/-- a held text with a sign behind it that is no figure is shown -/
theorem goE_held {e h : List Nat} {a : Nat} (hh : heOk h) (ha : isHx a = false) (r : List Nat) : goE e (h ++ a :: r) = h ++ goE e (a :: r) := by
  rcases hh with rfl | rfl | ⟨x, rfl, hx⟩
  · rfl
  · exact goE_notHx ha r
  · show goE e (61 :: x :: a :: r) = 61 :: x :: goE e (a :: r)
    rw [goE_notHx2 ha, goE_cons (hx_ne hx)]
theorem goE_whites {e : List Nat} : ∀ (w : List Nat), (∀ c ∈ w, isWh c = true) → ∀ r, goE e (w ++ r) = w ++ goE e r
  | [], _, _ => rfl
  | c :: w, h, r => by
    have hc := wh_not (h c (.head _))
    show goE e (c :: (w ++ r)) = c :: (w ++ goE e r)
    rw [goE_cons hc.2, goE_whites w (fun x hx => h x (.tail _ hx)) r]
theorem wh_head {w : List Nat} (hw : ∀ c ∈ w, isWh c = true) (hne : w ≠ []) : ∃ a r, w = a :: r ∧ isHx a = false := by
  cases w with
  | nil => exact absurd rfl hne
  | cons a r => exact ⟨a, r, rfl, (wh_not (hw a (.head _))).1⟩
theorem goE_hw {e h w : List Nat} (hh : heOk h) (hw : ∀ c ∈ w, isWh c = true) (hne : w ≠ []) (z : List Nat) : goE e (h ++ (w ++ z)) = h ++ (w ++ goE e z) := by
  obtain ⟨a, r, rfl, ha⟩ := wh_head hw hne
  show goE e (h ++ a :: (r ++ z)) = _
  rw [goE_held hh ha]
  show h ++ goE e ((a :: r) ++ z) = _
  rw [goE_whites _ hw]
theorem tells0 (e : List Nat) : Tells e rs0 [] := ⟨⟨[], rfl, .inl rfl, fun _ => rfl⟩, .inl rfl, by simp [rs0], by simp [rs0]⟩
theorem nw_snoc (a : List Nat) {c : Nat} (h : Unicode.isSpace c = false) : nw (a ++ [c]) := .inr ⟨a, c, rfl, h⟩
theorem tells_step {e cur : List Nat} {r : RS} {c : Nat} (t : Tells e r cur) (hc : c < 256) (h1 : isEnd c = false) : Tells e (stepL r c e) (cur ++ [c]) ∧ (stepL r c e).dn = r.dn := by
  obtain ⟨⟨l0, hcur, hnw, hg⟩, hhe, hwh, hbg⟩ := t
  obtain ⟨dn, sh, he, wh, bg⟩ := r
  dsimp only at hcur hg hhe hwh hbg
  cases h2 : isWh c with
  | true =>
    rw [sl3 h1 h2]
    refine ⟨⟨⟨l0, by rw [hcur, List.append_assoc], hnw, hg⟩, hhe, ?_, by simp⟩, rfl⟩
    intro x hx
    rcases List.mem_append.mp hx with hx | hx
    · exact hwh x hx
    · rw [List.mem_singleton.mp hx]; exact h2
  | false =>
    have hsp := plain_space hc h1 h2
    by_cases h3 : c = 61
    · have h3' : [c] = [61] := by rw [h3]
      have h61 : isHx 61 = false := by decide
      by_cases h4 : wh = []
      · rw [sl5 h1 h2 h3' h4]
        subst h3
        refine ⟨⟨⟨cur ++ [61], by simp, nw_snoc _ hsp, fun z => ?_⟩, .inr (.inl rfl), by simp, by simp⟩, rfl⟩
        rw [hcur, h4, List.append_nil, List.append_assoc, hg]
        show sh ++ goE e (he ++ 61 :: z) = (sh ++ he) ++ goE e (61 :: z)
        rw [goE_held hhe h61, List.append_assoc]
      · rw [sl4 h1 h2 h3' h4]
        subst h3
        refine ⟨⟨⟨cur ++ [61], by simp, nw_snoc _ hsp, fun z => ?_⟩, .inr (.inl rfl), by simp, by simp⟩, rfl⟩
        rw [hcur, List.append_assoc, List.append_assoc, hg]
        show sh ++ goE e (he ++ (wh ++ 61 :: z)) = (sh ++ he ++ wh ++ []) ++ goE e (61 :: z)
        rw [goE_hw hhe hwh h4]
        simp
    · have h3' : [c] ≠ [61] := by simpa using h3
      by_cases h4 : wh = []
      · cases h5 : isHx c with
        | false =>
          rw [sl7 h1 h2 h3' h4 (.inr h5)]
          refine ⟨⟨⟨cur ++ [c], by simp, nw_snoc _ hsp, fun z => ?_⟩, .inl rfl, by simp, by simp⟩, rfl⟩
          rw [hcur, h4, List.append_nil, List.append_assoc, hg]
          show sh ++ goE e (he ++ c :: z) = (sh ++ he ++ [c]) ++ goE e z
          rw [goE_held hhe h5, goE_cons h3]
          simp
        | true =>
          rcases hhe with q | q | ⟨x, q, hx⟩
          · rw [sl7 h1 h2 h3' h4 (.inl q)]
            refine ⟨⟨⟨cur ++ [c], by simp, nw_snoc _ hsp, fun z => ?_⟩, .inl rfl, by simp, by simp⟩, rfl⟩
            rw [hcur, h4, List.append_nil, List.append_assoc, hg, q]
            show sh ++ goE e (c :: z) = (sh ++ [] ++ [c]) ++ goE e z
            rw [goE_cons h3]
            simp
          · rw [sl8 h1 h2 h3' h4 h5 q]
            refine ⟨⟨⟨cur ++ [c], by simp, nw_snoc _ hsp, fun z => ?_⟩, .inr (.inr ⟨c, by rw [q]; rfl, h5⟩), by simp, by simp⟩, rfl⟩
            rw [hcur, h4, List.append_nil, List.append_assoc, hg]
            simp
          · subst q
            rw [sl9 h1 h2 h3' h4 h5]
            refine ⟨⟨⟨cur ++ [c], by simp, nw_snoc _ hsp, fun z => ?_⟩, .inl rfl, by simp, by simp⟩, rfl⟩
            rw [hcur, h4, List.append_nil, List.append_assoc, hg]
            show sh ++ goE e (61 :: x :: c :: z) = _
            rw [goE_esc hx h5]
            simp
      · rw [sl6 h1 h2 h3' h4]
        refine ⟨⟨⟨cur ++ [c], by simp, nw_snoc _ hsp, fun z => ?_⟩, .inl rfl, by simp, by simp⟩, rfl⟩
        rw [hcur, List.append_assoc, List.append_assoc, hg]
        show sh ++ goE e (he ++ (wh ++ c :: z)) = (sh ++ he ++ wh ++ [] ++ [c]) ++ goE e z
        rw [goE_hw hhe hwh h4, goE_cons h3]
        simp
theorem rsl_whites : ∀ (n : Nat) (w : List Nat), w.length = n → (∀ c ∈ w, isWh c = true) → rsl w = []
  | 0, w, h, _ => by rw [List.length_eq_zero_iff.mp h]; rfl
  | n + 1, w, h, hw => by
    have hne : w ≠ [] := by intro e; subst e; simp at h
    obtain ⟨z, c, rfl⟩ : ∃ z c, w = z ++ [c] := ⟨_, _, (List.dropLast_concat_getLast hne).symm⟩
    rw [rsl_white _ _ (wh_space (hw c (by simp)))]
    exact rsl_whites n z (by simpa using h) fun x hx => hw x (by simp [hx])
/-- what the open line says if it is closed now -/
theorem tells_line {e cur : List Nat} {r : RS} (t : Tells e r cur) : DL e cur = if r.he = [61] then r.sh else r.sh ++ r.he ++ e := by
  obtain ⟨⟨l0, hcur, hnw, hg⟩, hhe, hwh, hbg⟩ := t
  unfold DL
  rw [hcur, rsl_append hnw, rsl_whites _ _ rfl hwh, hg]
  rcases hhe with q | q | ⟨x, q, hx⟩
  · rw [q]; simp [goE]
  · rw [q]; simp [goE]
  · rw [q, List.append_nil, goE_lit1, goE_cons (hx_ne hx)]
    simp [goE]
theorem tells_end {e cur : List Nat} {r : RS} {c : Nat} (t : Tells e r cur) (h1 : isEnd c = true) : Tells e (stepL r c e) [] ∧ (stepL r c e).dn = r.dn ++ DL e cur := by
  have hl := tells_line t
  have hs : stepL r c e = ⟨r.dn ++ (if r.he = [61] then r.sh else r.sh ++ r.he ++ e), [], [], [], false⟩ := by unfold stepL; rw [if_pos h1]
  rw [hs, hl]
  exact ⟨⟨⟨[], rfl, .inl rfl, fun _ => rfl⟩, .inl rfl, by simp, by simp⟩, rfl⟩
end Mine
end P_Pb

section P_Pc
open PySem PySem.W PyProof.Rows PySem.Builtin PySem.Builtin.Str
namespace Mine
/-- the lines' way, step by step: the open line, a CR just before, the closed lines -/
structure LS where
  cur : List Nat
  cr : Bool
  cl : List (List Nat)
def lnStep (s : LS) (c : Nat) : LS := if c = 10 ∧ s.cr = true then ⟨s.cur, false, s.cl⟩ else if isEnd c = true then ⟨[], decide (c = 13), s.cl ++ [s.cur]⟩ else ⟨s.cur ++ [c], false, s.cl⟩
def lnRun (p : List Nat) : LS := p.foldl lnStep ⟨[], false, []⟩
theorem lnB_run : ∀ (p : List Nat) (s : LS) (r : List Nat), s.cl ++ lnB s.cur s.cr (p ++ r) = (p.foldl lnStep s).cl ++ lnB (p.foldl lnStep s).cur (p.foldl lnStep s).cr r
  | [], _, _ => rfl
  | c :: p, s, r => by
    rw [List.foldl_cons, ← lnB_run p (lnStep s c) r]
    show s.cl ++ lnB s.cur s.cr (c :: (p ++ r)) = _
    rw [lnB]
    unfold lnStep
    split
    · rfl
    · split
      · simp
      · rfl
theorem lnB_eq (p r : List Nat) : lnB [] false (p ++ r) = (lnRun p).cl ++ lnB (lnRun p).cur (lnRun p).cr r := by
  exact lnB_run p ⟨[], false, []⟩ r
theorem lnRun_snoc (p : List Nat) (c : Nat) : lnRun (p ++ [c]) = lnStep (lnRun p) c := by unfold lnRun; rw [List.foldl_append]; rfl
theorem sumD_app (e : List Nat) (a b : List (List Nat)) : sumD e (a ++ b) = sumD e a ++ sumD e b := by unfold sumD; rw [List.map_append, List.flatten_append]
structure Inv (e p : List Nat) : Prop where
  te : Tells e (runS e p).1 (lnRun p).cur
  dn : (runS e p).1.dn = sumD e (lnRun p).cl
  cr : (lnRun p).cr = true ↔ (runS e p).2 = [13]
theorem inv0 (e : List Nat) : Inv e [] := ⟨tells0 e, rfl, by simp [lnRun, runS]⟩
theorem inv_snoc {e p : List Nat} {c : Nat} (h : Inv e p) (hc : c < 256) : Inv e (p ++ [c]) := by
  obtain ⟨te, dn, cr⟩ := h
  refine ⟨?_, ?_, ?_⟩
  all_goals (rw [runS_snoc, lnRun_snoc]; unfold run1 lnStep; dsimp only)
  · by_cases h1 : c = 10 ∧ (runS e p).2 = [13]
    · rw [if_pos h1, if_pos ⟨h1.1, cr.mpr h1.2⟩]
      exact te
    · rw [if_neg h1, if_neg (fun q => h1 ⟨q.1, cr.mp q.2⟩)]
      cases h2 : isEnd c with
      | true => exact (tells_end te h2).1
      | false => exact (tells_step te hc h2).1
  · by_cases h1 : c = 10 ∧ (runS e p).2 = [13]
    · rw [if_pos h1, if_pos ⟨h1.1, cr.mpr h1.2⟩]
      exact dn
    · rw [if_neg h1, if_neg (fun q => h1 ⟨q.1, cr.mp q.2⟩)]
      cases h2 : isEnd c with
      | true =>
        rw [(tells_end te h2).2, dn]
        simp only [if_true]
        rw [sumD_app]
        simp [sumD]
      | false => rw [(tells_step te hc h2).2, dn]; rfl
  · by_cases h1 : c = 10 ∧ (runS e p).2 = [13]
    · rw [if_pos ⟨h1.1, cr.mpr h1.2⟩, h1.1]
      simp
    · rw [if_neg (fun q => h1 ⟨q.1, cr.mp q.2⟩)]
      cases h2 : isEnd c with
      | true => simp
      | false =>
        simp only [Bool.false_eq_true, if_false, false_iff]
        intro q
        have : c = 13 := by simpa using q
        subst this
        revert h2; decide
theorem inv_all (e : List Nat) : ∀ (n : Nat) (p : List Nat), p.length = n → (∀ c ∈ p, c < 256) → Inv e p
  | 0, p, h, _ => by rw [List.length_eq_zero_iff.mp h]; exact inv0 e
  | n + 1, p, h, hp => by
    have hne : p ≠ [] := by intro q; subst q; simp at h
    obtain ⟨z, c, rfl⟩ : ∃ z c, p = z ++ [c] := ⟨_, _, (List.dropLast_concat_getLast hne).symm⟩
    exact inv_snoc (inv_all e n z (by simpa using h) fun x hx => hp x (by simp [hx])) (hp c (by simp))
/-- (A) -/
theorem plain_A {e p : List Nat} (hp : ∀ c ∈ p, c < 256) : sumD e (lnB [] false p) = toldE (runS e p).1 e := by
  obtain ⟨te, dn, cr⟩ := inv_all e _ p rfl hp
  have h := lnB_eq p []
  rw [List.append_nil] at h
  rw [h, sumD_app, ← dn]
  unfold toldE lnB
  by_cases hc : (lnRun p).cur = []
  · rw [if_pos hc, if_neg (fun q => te.bg.mp q hc)]
    simp [sumD]
  · rw [if_neg hc, if_pos (te.bg.mpr hc), ← tells_line te]
    simp [sumD]
theorem goE_dot (e : List Nat) : ∀ l : List Nat, ∃ Z, goE e (l ++ [46]) = Z ++ e
  | [] => ⟨[46], by simp [goE]⟩
  | [c] => by
    show ∃ Z, goE e [c, 46] = Z ++ e
    refine ⟨[c, 46], ?_⟩
    simp [goE]
  | [c, a] => by
    obtain ⟨Z, hZ⟩ := goE_dot e [a]
    refine ⟨c :: Z, ?_⟩
    show goE e (c :: a :: 46 :: []) = _
    rw [goE, if_neg (fun q => absurd q.2.2 (by decide))]
    show c :: goE e ([a] ++ [46]) = _
    rw [hZ]; rfl
  | c :: a :: b :: r => by
    show ∃ Z, goE e (c :: a :: b :: (r ++ [46])) = Z ++ e
    rw [goE]
    split
    · obtain ⟨Z, hZ⟩ := goE_dot e r
      exact ⟨_ :: Z, by rw [hZ]; rfl⟩
    · obtain ⟨Z, hZ⟩ := goE_dot e (a :: b :: r)
      refine ⟨c :: Z, ?_⟩
      show c :: goE e ((a :: b :: r) ++ [46]) = _
      rw [hZ]; rfl
theorem dot_end : isEnd 46 = false ∧ Unicode.isSpace 46 = false := by decide +kernel
theorem lnB_dot (cur : List Nat) (cr : Bool) : lnB cur cr [46] = [cur ++ [46]] := by
  rw [lnB, if_neg (by simp), if_neg (by rw [dot_end.1]; decide), lnB, if_neg (by simp)]
theorem sum_dot (e : List Nat) : ∀ (y cur : List Nat) (cr : Bool), ∃ Z, sumD e (lnB cur cr (y ++ [46])) = Z ++ e
  | [], cur, cr => by
    obtain ⟨Z, hZ⟩ := goE_dot e cur
    refine ⟨Z, ?_⟩
    rw [List.nil_append, lnB_dot]
    unfold sumD DL
    simp only [List.map_cons, List.map_nil, List.flatten_cons, List.flatten_nil, List.append_nil]
    rw [rsl_keep _ _ dot_end.2, hZ]
  | c :: y, cur, cr => by
    show ∃ Z, sumD e (lnB cur cr (c :: (y ++ [46]))) = Z ++ e
    rw [lnB]
    split
    · exact sum_dot e y _ _
    split
    · obtain ⟨Z, hZ⟩ := sum_dot e y [] (decide (c = 13))
      exact ⟨DL e cur ++ Z, by rw [sumD_cons, hZ, List.append_assoc]⟩
    · exact sum_dot e y _ _
theorem cut_dot (Z e : List Nat) : cutE (Z ++ e) 46 e = Z := by
  unfold cutE
  rw [if_pos]
  · simp
  · refine ⟨⟨by decide, by decide⟩, ?_⟩
    simp
end Mine
end P_Pc

section P_Pd
open PySem PySem.W PyProof.Rows PySem.Builtin PySem.Builtin.Str
namespace Mine
theorem lnB_f (cur : List Nat) (c : Nat) (r : List Nat) : lnB cur false (c :: r) = if isEnd c = true then cur :: lnB [] (decide (c = 13)) r else lnB (cur ++ [c]) false r := by
  rw [lnB, if_neg (by simp)]
theorem lnB_plain : ∀ (a cur y : List Nat), (∀ c ∈ a, isEnd c = false) → lnB cur false (a ++ y) = lnB (cur ++ a) false y
  | [], cur, y, _ => by simp
  | c :: a, cur, y, h => by
    show lnB cur false (c :: (a ++ y)) = _
    rw [lnB, if_neg (by simp), if_neg (by rw [h c (.head _)]; decide), lnB_plain a _ y fun x hx => h x (.tail _ hx)]
    simp
theorem lnB_nocr {y cur : List Nat} {cr : Bool} (h : cr = true → y.take 1 ≠ [10]) : lnB cur cr y = lnB cur false y := by
  cases y with
  | nil => rfl
  | cons c y =>
    by_cases h1 : c = 10 ∧ cr = true
    · exact absurd (by rw [h1.1]; rfl) (h h1.2)
    · rw [lnB_f, lnB, if_neg h1]
theorem lnB_same (e : List Nat) : ∀ (y cur cur' : List Nat), (∀ z, DL e (cur ++ z) = DL e (cur' ++ z)) → sumD e (lnB cur false (y ++ [46])) = sumD e (lnB cur' false (y ++ [46]))
  | [], cur, cur', h => by
    rw [List.nil_append, lnB_dot, lnB_dot]
    unfold sumD
    simp only [List.map_cons, List.map_nil, h]
  | c :: y, cur, cur', h => by
    show sumD e (lnB cur false (c :: (y ++ [46]))) = sumD e (lnB cur' false (c :: (y ++ [46])))
    rw [lnB_f, lnB_f]
    split
    · rw [sumD_cons, sumD_cons]
      have := h []
      rw [List.append_nil, List.append_nil] at this
      rw [this]
    · refine lnB_same e y _ _ fun z => ?_
      rw [List.append_assoc, List.append_assoc, h]
theorem hexd_hx : ∀ k < 16, isHx (hexd k) = true ∧ hxv (hexd k) = k ∧ isEnd (hexd k) = false := by decide +kernel
theorem goE_escs (e : List Nat) : ∀ (sh z : List Nat), (∀ c ∈ sh, c < 256) → goE e (esc sh ++ z) = sh ++ goE e z
  | [], _, _ => rfl
  | c :: sh, z, h => by
    have hc := h c (.head _)
    have h1 := hexd_hx (c / 16) (by omega)
    have h2 := hexd_hx (c % 16) (by omega)
    show goE e (61 :: hexd (c / 16) :: hexd (c % 16) :: (esc sh ++ z)) = c :: (sh ++ goE e z)
    rw [goE_esc h1.1 h2.1, h1.2.1, h2.2.1, goE_escs e sh z fun x hx => h x (.tail _ hx)]
    congr 1
    omega
theorem esc_snoc (sh : List Nat) (c : Nat) : esc (sh ++ [c]) = esc sh ++ [61, hexd (c / 16)] ++ [hexd (c % 16)] := by
  unfold esc; simp
theorem nw_esc (sh he : List Nat) (h : ∀ c ∈ sh, c < 256) (hh : heOk he) : nw (esc sh ++ he) := by
  rcases hh with rfl | rfl | ⟨x, rfl, hx⟩
  · rw [List.append_nil]
    by_cases hne : sh = []
    · subst hne; exact .inl rfl
    · obtain ⟨z, c, rfl⟩ : ∃ z c, sh = z ++ [c] := ⟨_, _, (List.dropLast_concat_getLast hne).symm⟩
      rw [esc_snoc]
      exact nw_snoc _ (hx_space (hexd_hx _ (by omega)).1)
  · exact nw_snoc _ (by decide +kernel)
  · have : esc sh ++ [61, x] = (esc sh ++ [61]) ++ [x] := by simp
    rw [this]
    exact nw_snoc _ (hx_space hx)
theorem tells_anew {e cur : List Nat} {r : RS} (t : Tells e r cur) (hs : ∀ c ∈ r.sh, c < 256) (z : List Nat) : DL e (cur ++ z) = DL e (esc r.sh ++ r.he ++ r.wh ++ z) := by
  obtain ⟨⟨l0, hcur, hnw, hg⟩, hhe, hwh, hbg⟩ := t
  unfold DL
  rw [hcur, List.append_assoc, rsl_append hnw, hg, List.append_assoc, rsl_append (nw_esc _ _ hs hhe), List.append_assoc, goE_escs e _ _ hs]
theorem anew_noend {r : RS} (hs : ∀ c ∈ r.sh, c < 256) (hh : heOk r.he) (hw : ∀ c ∈ r.wh, isWh c = true) : ∀ c ∈ esc r.sh ++ r.he ++ r.wh, isEnd c = false := by
  intro c hc
  have h61 : isEnd 61 = false := by decide
  have hxe : ∀ x, isHx x = true → isEnd x = false := by
    intro x hx
    have : ∀ c ∈ hxl, isEnd c = false := by decide
    exact this x (mem_hxl hx)
  rcases List.mem_append.mp hc with hc | hc
  · rcases List.mem_append.mp hc with hc | hc
    · unfold esc at hc
      obtain ⟨x, hx, hc⟩ := List.mem_flatMap.mp hc
      have hx' := hs x hx
      simp only [List.mem_cons, List.not_mem_nil, or_false] at hc
      rcases hc with rfl | rfl | rfl
      · exact h61
      · exact (hexd_hx _ (by omega)).2.2
      · exact (hexd_hx _ (by omega)).2.2
    · rcases hh with q | q | ⟨x, q, hx⟩ <;> rw [q] at hc
      · cases hc
      · rw [List.mem_singleton.mp hc]; exact h61
      · simp only [List.mem_cons, List.not_mem_nil, or_false] at hc
        rcases hc with rfl | rfl
        · exact h61
        · exact hxe _ hx
  · have : ∀ c < 256, isWh c = true → isEnd c = false := by decide +kernel
    exact this c (isWh_lt (hw c hc)) (hw c hc)
/-- (B), over the lines -/
theorem plain_B {e p rest : List Nat} (hp : ∀ c ∈ p, c < 256) (hs : ∀ c ∈ (runS e p).1.sh, c < 256) (h : ¬ ((runS e p).2 = [13] ∧ rest.take 1 = [10])) :
    (runS e p).1.dn ++ sumD e (lnB [] false (esc (runS e p).1.sh ++ (runS e p).1.he ++ (runS e p).1.wh ++ rest ++ [46])) = sumD e (lnB [] false (p ++ rest ++ [46])) := by
  obtain ⟨te, dn, cr⟩ := inv_all e _ p rfl hp
  rw [List.append_assoc p rest [46], lnB_eq p (rest ++ [46]), sumD_app, ← dn, List.append_assoc _ rest [46], lnB_plain _ _ _ (anew_noend hs te.he te.wh), List.nil_append]
  congr 1
  rw [lnB_nocr (cur := (lnRun p).cur)]
  · exact (lnB_same e rest _ _ fun z => tells_anew te hs z).symm
  · intro hcr hq
    refine h ⟨cr.mp hcr, ?_⟩
    cases rest with
    | nil => simp at hq
    | cons a b => simpa using hq
end Mine
end P_Pd

section P_Pe
open PySem PySem.W PyProof.Rows PySem.Builtin PySem.Builtin.Str
namespace Mine
theorem brk_tab : ∀ c < 256, Unicode.isLineBreak c = isEnd c := by decide +kernel
def gS (x : List Nat) (sp : Nat × Nat × Nat) : List Nat := (x.take sp.2.1).drop sp.1
theorem getD_S (x : List Nat) (i : Nat) (h : i < x.length) : (S x).cps.getD i 0 = x[i] := by
  simp [S, Array.getD, h]
theorem at_S (x : List Nat) (i : Nat) : (S x).cps[i]? = x[i]? := by simp [S]
theorem cur_snoc {x : List Nat} {i start : Nat} (h : i < x.length) (hs : start ≤ i) : (x.take (i + 1)).drop start = (x.take i).drop start ++ [x[i]] := by
  rw [List.take_succ_eq_append_getElem h, List.drop_append_of_le_length (by rw [List.length_take]; omega)]
theorem spans_run {x : List Nat} (hx : ∀ c ∈ x, c < 256) : ∀ (m i : Nat) (arr : Array (Nat × Nat × Nat)) (start : Nat), i + m = x.length →
    (start ≤ i → (StrLaws.lsEnd (S x) (Id.run (forIn (m := Id) (List.range' i m) (arr, start) (StrLaws.lsBody (S x))))).map (gS x) = arr.toList.map (gS x) ++ lnB ((x.take i).drop start) false (x.drop i)) ∧
    (start = i + 1 → x[i]? = some 10 → (StrLaws.lsEnd (S x) (Id.run (forIn (m := Id) (List.range' i m) (arr, start) (StrLaws.lsBody (S x))))).map (gS x) = arr.toList.map (gS x) ++ lnB [] true (x.drop i))
  | 0, i, arr, start, h => by
    have hi : i = x.length := by omega
    subst hi
    refine ⟨fun hs => ?_, fun _ q => ?_⟩
    · show (StrLaws.lsEnd (S x) (arr, start)).map (gS x) = _
      unfold StrLaws.lsEnd
      rw [S_len, List.take_length, List.drop_length, lnB]
      dsimp only
      by_cases h1 : start < x.length
      · rw [if_pos h1, if_neg (by intro q; have := congrArg List.length q; simp at this; omega)]
        simp [gS]
      · rw [if_neg h1, if_pos (List.drop_eq_nil_of_le (by omega))]
        simp
    · rw [List.getElem?_eq_none (Nat.le_refl _)] at q; cases q
  | m + 1, i, arr, start, h => by
    have hi : i < x.length := by omega
    have hc : x[i] < 256 := hx _ (List.getElem_mem hi)
    have hd : x.drop i = x[i] :: x.drop (i + 1) := List.drop_eq_getElem_cons hi
    have hrun : ∀ st : StrLaws.LsSt, (Id.run (forIn (m := Id) (List.range' i (m + 1)) st (StrLaws.lsBody (S x)))) = if (decide (st.2 ≤ i) && isEnd x[i]) = true then Id.run (forIn (m := Id) (List.range' (i + 1) m) (st.1.push (st.2, i, StrLaws.lsNext (S x) i), StrLaws.lsNext (S x) i) (StrLaws.lsBody (S x))) else Id.run (forIn (m := Id) (List.range' (i + 1) m) (st.1, st.2) (StrLaws.lsBody (S x))) := by
      intro st
      rw [List.range'_succ, List.forIn_cons]
      have hb : StrLaws.lsBody (S x) i st = if (decide (st.2 ≤ i) && isEnd x[i]) = true then pure (ForInStep.yield (st.1.push (st.2, i, StrLaws.lsNext (S x) i), StrLaws.lsNext (S x) i)) else pure (ForInStep.yield (st.1, st.2)) := by
        unfold StrLaws.lsBody
        rw [getD_S x i hi, brk_tab _ hc]
      rw [hb]
      split <;> rfl
    refine ⟨fun hs => ?_, fun hs q => ?_⟩
    · rw [hrun, hd, lnB_f]
      dsimp only
      cases he : isEnd x[i] with
      | false =>
        rw [Bool.and_false]
        simp only [Bool.false_eq_true, if_false]
        rw [(spans_run hx m (i + 1) arr start (by omega)).1 (by omega), cur_snoc hi hs]
      | true =>
        rw [decide_eq_true hs]
        simp only [Bool.and_self, if_true]
        have hg : gS x (start, i, StrLaws.lsNext (S x) i) = (x.take i).drop start := rfl
        have hnx : StrLaws.lsNext (S x) i = if (x[i] == 13 && x[i + 1]? == some 10) = true then i + 2 else i + 1 := by
          unfold StrLaws.lsNext
          rw [getD_S x i hi, at_S]
        by_cases h1 : (x[i] == 13 && x[i + 1]? == some 10) = true
        · have hn2 : StrLaws.lsNext (S x) i = i + 2 := by rw [hnx, if_pos h1]
          simp only [Bool.and_eq_true, beq_iff_eq] at h1
          rw [hn2] at hg ⊢
          rw [(spans_run hx m (i + 1) _ (i + 2) (by omega)).2 rfl h1.2, Array.toList_push, List.map_append, h1.1]
          simp [hg]
        · have hn2 : StrLaws.lsNext (S x) i = i + 1 := by rw [hnx, if_neg h1]
          rw [hn2] at hg ⊢
          rw [(spans_run hx m (i + 1) _ (i + 1) (by omega)).1 (Nat.le_refl _), Array.toList_push, List.map_append]
          have e0 : (x.take (i + 1)).drop (i + 1) = [] := List.drop_eq_nil_of_le (by rw [List.length_take]; omega)
          rw [e0, lnB_nocr (cr := decide (x[i] = 13))]
          · simp [hg]
          · intro h13 h10
            refine h1 ?_
            have h13' : x[i] = 13 := of_decide_eq_true h13
            have h10' : x[i + 1]? = some 10 := by
              cases hq : x.drop (i + 1) with
              | nil => rw [hq] at h10; simp at h10
              | cons a b =>
                rw [hq] at h10
                have ha : a = 10 := by simpa using h10
                have := congrArg (fun l => l[0]?) hq
                simp at this
                rw [this, ha]
            rw [h13', h10']; rfl
    · rw [hrun, hd]
      dsimp only
      have h10 : x[i] = 10 := by
        rw [List.getElem?_eq_getElem hi] at q
        exact Option.some.inj q
      rw [decide_eq_false (by omega : ¬ start ≤ i)]
      simp only [Bool.false_and, Bool.false_eq_true, if_false]
      rw [(spans_run hx m (i + 1) arr start (by omega)).1 (by omega), h10, lnB, if_pos ⟨rfl, rfl⟩]
      rw [hs, List.drop_eq_nil_of_le (by rw [List.length_take]; omega)]
theorem lines_S {x : List Nat} (hx : ∀ c ∈ x, c < 256) : (Txt.lines (S x)).map (fun q => q.cps.toList) = lnB [] false x := by
  have h1 : Txt.lines (S x) = linesOf (S x) := by
    unfold Txt.lines
    split
    · next h =>
      have h2 : lineCuts (S x) = [(0, (S x).length)] := by simpa using h
      unfold linesOf
      rw [h2]
      simp only [List.map_cons, List.map_nil]
      congr 1
      refine Str.ext' ?_
      simp [strSub, Str.length]
    · rfl
  rw [h1]
  unfold linesOf lineCuts
  rw [List.map_map, List.map_map]
  have h3 := (spans_run hx x.length 0 #[] 0 (by omega)).1 (Nat.le_refl _)
  rw [List.take_zero, List.drop_nil, List.drop_zero] at h3
  rw [StrLaws.ls_eq, S_len]
  simp only [List.map_nil, List.nil_append] at h3
  rw [← h3]
  refine List.map_congr_left fun sp _ => ?_
  obtain ⟨a, b, c⟩ := sp
  simp [strSub, gS, S, Function.comp, List.drop_take]
theorem decL_eq {x y : List Nat} (hx : ∀ c ∈ x, c < 256) (hne : x ≠ []) : decL x y = cutE (sumD y (lnB [] false x)) (x.getLast hne) y := by
  unfold decL
  rw [dif_neg hne, ← lines_S hx]
  unfold sumD
  rw [List.map_map]
  rfl
theorem last_snoc : ∀ (l : List Nat) (c : Nat) (h : l ++ [c] ≠ []), (l ++ [c]).getLast h = c := by
  intro l c h
  simp
theorem decL_dot {x y : List Nat} (hx : ∀ c ∈ x, c < 256) : ∃ Z, sumD y (lnB [] false (x ++ [46])) = Z ++ y ∧ decL (x ++ [46]) y = Z := by
  obtain ⟨Z, hZ⟩ := sum_dot y x [] false
  refine ⟨Z, hZ, ?_⟩
  rw [decL_eq (by intro c hc; rcases List.mem_append.mp hc with h | h; exact hx c h; rw [List.mem_singleton.mp h]; decide) (by simp), hZ]
  rw [last_snoc, cut_dot]
theorem law_A {T mk : List Nat} (hT : ∀ c ∈ T, c < 256) (i : Nat) (hi : i < T.length) : decL (T.take (i + 1)) mk = cutE (toldE (runS mk (T.take (i + 1))).1 mk) T[i] mk := by
  have hp : ∀ c ∈ T.take (i + 1), c < 256 := fun c hc => hT c (List.mem_of_mem_take hc)
  have he : T.take (i + 1) = T.take i ++ [T[i]] := List.take_succ_eq_append_getElem hi
  have hne : T.take (i + 1) ≠ [] := by rw [he]; exact List.append_ne_nil_of_right_ne_nil _ (by simp)
  rw [decL_eq hp hne, plain_A hp]
  congr 1
  have : ∀ (l : List Nat) (h : l ≠ []), l = T.take i ++ [T[i]] → l.getLast h = T[i] := by
    intro l h e
    subst e
    exact last_snoc _ _ _
  exact this _ hne he
theorem law_B {T mk : List Nat} (hm2 : mk.length ≤ 2) (hT : ∀ c ∈ T, c < 256) (i : Nat) (hi : i < T.length) (h : ¬ (T[i] = 13 ∧ (T.drop (i + 1)).take 1 = [10])) :
    (runS mk (T.take (i + 1))).1.dn ++ decL (esc (runS mk (T.take (i + 1))).1.sh ++ (runS mk (T.take (i + 1))).1.he ++ (runS mk (T.take (i + 1))).1.wh ++ T.drop (i + 1) ++ [46]) mk = decL (T ++ [46]) mk := by
  have hp : ∀ c ∈ T.take (i + 1), c < 256 := fun c hc => hT c (List.mem_of_mem_take hc)
  have hr : ∀ c ∈ T.drop (i + 1), c < 256 := fun c hc => hT c (List.mem_of_mem_drop hc)
  have hok := run_ok hm2 hT (i + 1) hi
  have h2 : (runS mk (T.take (i + 1))).2 = [T[i]] := by rw [runS_take hi]; rfl
  have hB := plain_B (e := mk) (rest := T.drop (i + 1)) hp hok.sml (by
    rw [h2]
    rintro ⟨q1, q2⟩
    exact h ⟨by simpa using q1, q2⟩)
  rw [List.take_append_drop] at hB
  have ha : ∀ c ∈ esc (runS mk (T.take (i + 1))).1.sh ++ (runS mk (T.take (i + 1))).1.he ++ (runS mk (T.take (i + 1))).1.wh ++ T.drop (i + 1), c < 256 := by
    intro c hc
    rcases List.mem_append.mp hc with hc | hc
    · rcases List.mem_append.mp hc with hc | hc
      · rcases List.mem_append.mp hc with hc | hc
        · unfold esc at hc
          obtain ⟨x, hx, hc⟩ := List.mem_flatMap.mp hc
          have hx' := hok.sml x hx
          simp only [List.mem_cons, List.not_mem_nil, or_false] at hc
          rcases hc with rfl | rfl | rfl
          · decide
          · exact isHx_lt (hexd_hx _ (by omega)).1
          · exact isHx_lt (hexd_hx _ (by omega)).1
        · exact heOk_lt hok.he c hc
      · exact hok.wsm c hc
    · exact hr c hc
  obtain ⟨Z1, e1, d1⟩ := decL_dot (y := mk) ha
  obtain ⟨Z2, e2, d2⟩ := decL_dot (y := mk) hT
  rw [d1, d2]
  rw [e1, e2, ← List.append_assoc] at hB
  exact List.append_cancel_right hB
end Mine
end P_Pe

section P_La
open PySem PySem.W PyProof.Rows
namespace Mine
def theInts (ns : List Int) : List Int := List.take 1 (List.take 9 ns) ++ [0, 1, 2, 3, 0, 4, 0, 11] ++ List.drop 1 (List.take 9 ns)
def theText (ns : List Int) : List Nat := (theInts ns).map signOf
theorem strs_of_I : ∀ {ys : List Value} {xs : List Int}, ys.length = xs.length → (∀ (j : Nat) (y : Value), ys[j]? = some y → ∃ x tt, xs[j]? = some x ∧ y = .str (S [signOf x]) tt) → StrsAre ys ((xs.map fun x => [signOf x]).map S)
  | [], [], _, _ => .nil
  | [], _ :: _, h, _ => by simp at h
  | _ :: _, [], h, _ => by simp at h
  | y :: ys, c :: sh, h, hG => by
    obtain ⟨c', tt, h1, h2⟩ := hG 0 y rfl
    simp at h1
    subst h1
    subst h2
    exact .cons _ _ (strs_of_I (by simpa using h) fun j y' hj => hG (j + 1) y' (by simpa using hj))
theorem one_flat : ∀ xs : List Int, (xs.map fun x => [signOf x]).flatten = xs.map signOf
  | [] => rfl
  | x :: r => by simp [one_flat r]
theorem sum_one : ∀ xs : List Int, (((xs.map fun x => [signOf x]).map S).map (·.length)).sum = xs.length
  | [] => rfl
  | x :: r => by
    simp only [List.map_cons, List.sum_cons, sum_one r, List.length_cons]
    show 1 + _ = _
    omega
theorem ints_len (ns : List Int) : (theInts ns).length ≤ 18 := by
  unfold theInts
  simp only [List.length_append, List.length_take, List.length_drop, List.length_cons, List.length_nil]
  omega
theorem mark_mono {prog : Program} {w : World} {A : Around} {e : Expr} {env : Env} {h₀ : Heap} {L : Addr} {m : Str → Option Value} {s : Shared} {Q E : Value → Shared → Prop} (_F : Fr h₀ L s.heap m)
    (h : wpAny (model prog w) A (eval e env) (fun v s' => ∃ (mk : List Nat) (tm : Tok) (h' : Heap) (tk' : Nat), v = .str (S mk) tm ∧ (1 ≤ mk.length ∧ mk.length ≤ 2) ∧ s' = { s with heap := h', toks := tk' } ∧ Fr h₀ L h' m) E s)
    (h2 : ∀ (mk : List Nat) (tm : Tok) (h' : Heap) (tk' : Nat), 1 ≤ mk.length → mk.length ≤ 2 → Fr h₀ L h' m → News h₀ L h' [] → Q (.str (S mk) tm) { s with heap := h', toks := tk' }) : wpAny (model prog w) A (eval e env) Q E s := by
  refine wpAny_mono h (fun v s' hq => ?_) fun _ _ x => x
  obtain ⟨mk, tm, h', tk', rfl, ⟨hm1, hm2⟩, rfl, F⟩ := hq
  exact h2 mk tm h' tk' hm1 hm2 F News.nil
theorem str_crlf : Str.ofString "\x0d\n" = S [13, 10] := by decide +kernel
theorem str_a : Str.ofString "a" = S [97] := by decide +kernel
theorem str_ke : Str.ofString "k=" = S [107, 61] := by decide +kernel
theorem str_dot : Str.ofString "." = S [46] := by decide +kernel
theorem run1_step {mk bf : List Nat} {r : RS} {c : Nat} (h : [c] ≠ [10] ∨ bf ≠ [13]) : (run1 mk (r, bf) c).1 = stepL r c mk := by
  unfold run1
  dsimp only
  rw [if_neg]
  rintro ⟨h1, h2⟩
  rcases h with h | h
  · exact h (by rw [h1])
  · exact h h2
theorem run1_stay {mk bf : List Nat} {r : RS} {c : Nat} (h1 : [c] = [10]) (h2 : bf = [13]) : (run1 mk (r, bf) c).1 = r := by
  unfold run1
  dsimp only
  rw [if_pos ⟨by simpa using h1, h2⟩]
theorem off_of_lt {own : List (Addr × Obj)} {a : Addr} {p : Addr × Obj} (h : AllLt a (p :: own)) : OwnOff own [a] := by
  intro q hq b hb
  rw [List.mem_singleton.mp hb]
  exact Nat.ne_of_lt (kst_ltOf h q (List.mem_cons_of_mem _ hq))
theorem slice_k1 (T : List Nat) (i : Nat) : Txt.slice (S T) none (some ((i : Int) + 1)) = S (T.take (i + 1)) := slice_to T (i + 1)
theorem slice_k2 (T : List Nat) (i : Nat) : Txt.slice (S T) (some ((i : Int) + 1)) (some ((i : Int) + 2)) = S ((T.drop (i + 1)).take 1) := by
  have := slice_nat T (i + 1) (i + 2) (by omega)
  rw [show i + 2 - (i + 1) = 1 by omega] at this
  exact this
theorem slice_k3 (T : List Nat) (i : Nat) (h : i < T.length) : Txt.slice (S T) (some ((i : Int) + 1)) none = S (T.drop (i + 1)) := slice_from T (i + 1) h
theorem decL_len {x y : List Nat} (hx : x.length ≤ 1000) (hy : y.length ≤ 2) : (decL x y).length ≤ 5000 := by
  unfold decL
  split
  · simp
  · have h1 : (((Txt.lines (S x)).map fun q => DL y q.cps.toList).flatten).length ≤ 3000 := by
      have h2 := flat_all (x := x) (y := y) (l := (Txt.lines (S x)).map fun q => (q, 0)) (by rw [List.map_map]; exact List.map_id _) hx hy
      rw [List.map_map] at h2
      exact h2
    unfold cutE
    split
    · rw [List.length_take]; omega
    · omega
theorem join_test {prog : Program} {w : World} {A : Around} {test : Expr} {env : Env} {h₀ : Heap} {L : Addr} {m : Str → Option Value} {nx : List (Addr × Obj)} {s : Shared} {Q : Bool → Shared → Prop} {E : Value → Shared → Prop} (P : Bool → Prop) (_F : Fr h₀ L s.heap m) (_N : News h₀ L s.heap nx)
    (h : wpAny (model prog w) A (isTrue test env (eval test env)) (fun b s' => ∃ h' tk', s' = { s with heap := h', toks := tk' } ∧ Fr h₀ L h' m ∧ News h₀ L h' nx ∧ P b) E s)
    (h2 : ∀ b h' tk', P b → Fr h₀ L h' m → News h₀ L h' nx → Q b { s with heap := h', toks := tk' }) : wpAny (model prog w) A (isTrue test env (eval test env)) Q E s := by
  refine wpAny_mono h (fun b s' hq => ?_) fun _ _ x => x
  obtain ⟨h', tk', rfl, F, N, hP⟩ := hq
  exact h2 b h' tk' hP F N
theorem text_lt (ns : List Int) : ∀ c ∈ theText ns, c < 256 := by
  intro c hc
  obtain ⟨x, _, rfl⟩ := List.mem_map.mp hc
  exact sign_lt x
theorem law_holds : PySem.Challenge.rw_nb0379_01.Holds := hd (by
  k_go0
  all_goals try k_fold
  rename_i ns hs hlay0 hL1 hr1 hl2 w4 w3 sc vs0 w0 hLs ra0 wl r0 hIs hr0 hc63 hcT K0 hD h1 F0 N0
  repeat' (first | ((fail_if_success (with_reducible show wpAny _ _ (eval (Expr.ListComp _ _ _ _) _) _ _ _)); first | (k_unfold; (try dsimp only)) | (k_end; wrow_close) | walk1 | (dsimp only; walk1) | (leave1; try dsimp only)))
  rename Fr _ _ _ _ => F1
  k_dflt (refine LCg.ListComp_U F1 (by rfl) (by decide) (by rfl) (by decide) (by rfl) ?_)
  repeat' (first | ((fail_if_success (with_reducible show LCg.CompSrc _ _ _ _ _ _ _ _ _ _ _ _ _ _)); first | (k_unfold; (try dsimp only)) | (k_end; wrow_close) | walk1 | (dsimp only; walk1) | (leave1; try dsimp only)))
  rename_i D4 ws4 h6 hI4 hC2 hL2 l15 h5 D3 ws3 h4' hI3 hC1 hL1 l14 l' h3' l13 D2 ws2 h2' hI2 l12 D1 ws1 h1' hI1 hC0 hL0 l11 D0 ws0 h0' F2 N2 hI0 l10
  have hTI : theInts ns = List.take 1 (List.take 9 ns) ++ [0, 1, 2, 3, 0, 4, 0, 11] ++ List.drop 1 (List.take 9 ns) := rfl
  rw [← hTI] at hI0
  have hTL := ints_len ns
  have hwl : ws0.toArray.size = (theInts ns).length := by rw [List.size_toArray]; exact hI0.length
  refine LCg.CompSrc.ledger (news := [(D0, W.listOf ws0.toArray 0), (D4, W.listOf ws4.toArray 0)]) (by rfl) F2 (cb_drop N2 (List.forall_mem_cons.mpr ⟨by k_mem, List.forall_mem_cons.mpr ⟨by k_mem, List.forall_mem_nil _⟩⟩)) (List.Mem.head _) (by rw [hwl]; exact Nat.le_trans hTL (by decide)) ?_
  intro g3
  rw [hwl]
  refine rest_all (n := (theInts ns).length) (fun i y => ∃ x tt, (theInts ns)[i]? = some x ∧ y = .str (S [signOf x]) tt) (.inr ⟨_, List.Mem.head _, rfl, _, rfl⟩) ?fin ?hel _ 0 [] (by simp) rfl (by intro j y hj; simp at hj)
  case hel =>
    intro i v I oI C oC D ys m₂ h4 tk4 Q' E' hi hv hC hx F4 N4 hk
    obtain ⟨x, hx1⟩ : ∃ x, (theInts ns)[i]? = some x := ⟨_, List.getElem?_eq_getElem hi⟩
    obtain ⟨tt, hx2⟩ := hI0.get i x hx1
    have hv' : ws0[i]? = some v := by simpa using hv
    rw [hx2] at hv'
    cases hv'
    clear F2 N2
    repeat' (first | ((fail_if_success (with_reducible show wpAny _ _ (PySem.call (Value.ref _) _) _ _ _)); first | (k_unfold; (try dsimp only)) | (k_end; wrow_close) | walk1 | (dsimp only; walk1) | (leave1; try dsimp only)))
    have hU := fun ww mean mg mb nw tt => sign_cb ww mean mg mb nw x tt
    unfold Claim CbClaim at hU
    dsimp only [CbLists, CbRet] at hU
    k_dflt (refine' hU _ _ _ _ _ _ _ _ _ _ _ _ _ _ _ _ _ _ _ _ _ _ _ ?k1 ?k2 ?k3 ?k4 ?k5 ?kK ?kp ?kd ?ku ?kR)
    case k1 => k_asm
    case k2 => k_asm
    case k3 => k_asm
    case k4 => k_asm
    case k5 => k_asm
    case kK => exact rfl
    case kp => trivial
    case kd => ktr_room
    case ku => ktr_units
    clear hU
    intro t9 h9 tk9 F9 N9
    (try dsimp only)
    refine' hk _ _ _ ⟨x, _, hx1, rfl⟩ F9 N9
  case fin =>
    intro ys hyl hG
    have hsa := strs_of_I hyl hG
    have hsum : ((((theInts ns).map fun x => [signOf x]).map S).map (·.length)).sum + (((theInts ns).map fun x => [signOf x]).map S).length ≤ 1048576 := by
      rw [sum_one, List.length_map, List.length_map]
      omega
    clear F2 N2
    unfold LCg.FinE
    intro D h4 tk4 F4 N4 off4
    (try dsimp only)
    k_steps
    refine join_listW (News.isList N4 (.head _)) hsa (by decide) hsum ?_
    intro t5 k5
    rw [join_S, one_flat]
    have hT : (theInts ns).map signOf = theText ns := rfl
    have hTlen : (theText ns).length ≤ 18 := by unfold theText; rw [List.length_map]; exact hTL
    rw [hT]
    generalize hTd : theText ns = T at hTlen
    have sT : (S T).length ≤ 18 := by rw [S_len]; exact hTlen
    replace N4 := cb_drop (news := [(D4, W.listOf ws4.toArray 0)]) N4 (List.forall_mem_cons.mpr ⟨by k_mem, List.forall_mem_nil _⟩)
    clear hsa hsum hG hyl hwl hTI hI0 l10 off4 hI1 hC0 hL0 l11 hI2 l12 l13 hI3 hC1 l14
    repeat' (first | ((fail_if_success (with_reducible show wpAny _ _ (eval (Expr.Subscript (Expr.List _ _) _ _) _) _ _ _)); first | (k_unfold; (try dsimp only)) | (k_end; wrow_close) | walk1 | (dsimp only; walk1) | (leave1; try dsimp only)))
    rename Fr _ _ _ _ => F5
    refine mark_mono F5 ?mark ?rest
    case mark =>
      k_steps
      all_goals first | k_asm | decide +kernel
    case rest =>
      intro mk tm h7 tk7 hm1 hm2 F6 N6
      clear F5
      have sm1 : 1 ≤ (S mk).length := by rw [S_len]; exact hm1
      have sm2 : (S mk).length ≤ 2 := by rw [S_len]; exact hm2
      clear hT hTL
      repeat' (first | ((fail_if_success (with_reducible show wpAny _ _ (PySem.call (Value.ref _) _) _ _ _)); first | (k_unfold; (try dsimp only)) | (k_end; wrow_close) | walk1 | (dsimp only; walk1) | (leave1; try dsimp only)))
      rw [str_dot, S_append]
      have hU := fun ww mean mg mb nw t u => decode_cb ww mean mg mb nw (T ++ [46]) mk t u
      unfold DClaim CbRec at hU
      dsimp only [CbLists, CbRet] at hU
      k_dflt (refine' hU _ _ _ _ _ _ _ _ _ _ _ _ _ _ _ _ _ _ _ _ _ _ _ _ ?wk1 ?wk2 ?wk3 ?wk4 ?wk5 ?wkK ?wkp ?wkd ?wku ?wkR)
      case wk1 => k_asm
      case wk2 => k_asm
      case wk3 => k_asm
      case wk4 => k_asm
      case wk5 => k_asm
      case wkK => exact rfl
      case wkp => exact ⟨by rw [List.length_append, List.length_singleton]; omega, hm1, hm2⟩
      case wkd => ktr_room
      case wku => ktr_units
      clear hU
      intro t9 h9 tk9 F9 N9
      (try dsimp only)
      generalize hwh : decL (T ++ [46]) mk = W at F9
      repeat' (first | ((fail_if_success (with_reducible show wpAny _ _ (pyIter _) _ _ _)); first | (k_unfold; (try dsimp only)) | (k_end; wrow_close) | walk1 | (dsimp only; walk1) | (leave1; try dsimp only)))
      have hTs : ∀ c ∈ T, c < 256 := by rw [← hTd]; exact text_lt ns
      rename Fr _ _ _ _ => F10
      rename News _ _ _ _ => N10
      rename IsRange _ _ _ _ _ _ _ _ => hR
      rw [S_len] at hR
      have sTl : (S T).length = T.length := S_len T
      refine loop_range (fun i m nx => ∃ (l : Addr) (u1 u2 u3 u4 : Tok) (n' : Nat) (tb : Tok), nx = [(l, stObj (runS mk (T.take i)).1 u1 u2 u3 u4 n')] ∧
        Has [(Str.ofString "state", .ref l), (Str.ofString "before", .str (S (runS mk (T.take i)).2) tb), (Str.ofString "whole", .str (S W) t9), (Str.ofString "mark", .str (S mk) tm), (Str.ofString "text", .str (S T) t5)] m) rfl hR (by omega) F10 N10 ?lst ?ltu ?ldo
      case lst =>
        refine' ⟨_, _, _, _, _, _, _, ?hA, Has.cons rfl (Has.cons ?hB (Has.cons rfl (Has.cons rfl (Has.cons rfl Has.nil))))⟩
        case hA => exact rfl
        case hB => exact rfl
      case ltu =>
        rintro i tk0 m₁ nx h8 tk8 own hi hoff ⟨l, u1, u2, u3, u4, n', tb, rfl, hH⟩ F11 N11
        have F12 := frHasX F11 hH
        dsimp only [ov] at F12
        clear F11 F10 N10
        repeat' (first | ((fail_if_success (with_reducible show wpAny _ _ (exec (Stmt.If _ _ _ _) _) _ _ _)); first | (k_unfold; (try dsimp only)) | (k_end; wrow_close) | walk1 | (dsimp only; walk1) | (leave1; try dsimp only)))
        rename Fr _ _ _ _ => F13
        rename News _ _ _ _ => N13
        rw [item_nat T i hi] at F13
        have hok := run_ok hm2 hTs i (Nat.le_of_lt hi)
        have hrt := runS_take (mk := mk) hi
        have hci : T[i] < 256 := hTs _ (List.getElem_mem _)
        refine join_if (fun m nx => ∃ (l : Addr) (u1 u2 u3 u4 : Tok) (n' : Nat) (tb tg : Tok), OwnOff own [l] ∧ nx = (l, stObj (runS mk (T.take (i + 1))).1 u1 u2 u3 u4 n') :: own ∧
          Has [(Str.ofString "state", .ref l), (Str.ofString "sign", .str (S [T[i]]) tg), (Str.ofString "k", .int (i : Int) tk0), (Str.ofString "before", .str (S (runS mk (T.take i)).2) tb), (Str.ofString "whole", .str (S W) t9), (Str.ofString "mark", .str (S mk) tm), (Str.ofString "text", .str (S T) t5)] m) F13 ?iff ?irest
        case iff =>
          rw [hrt]
          generalize runS mk (T.take i) = p at F13 N13 hok
          obtain ⟨r, bf⟩ := p
          dsimp only at F13 N13 hok ⊢
          simp only [List.cons_append, List.nil_append] at N13
          clear hH
          repeat' (first | ((fail_if_success (with_reducible show wpAny _ _ (PySem.call (Value.ref _) _) _ _ _)); (fail_if_success (with_reducible show (Flow.next = Flow.next) ∧ _)); first | (k_unfold; (try dsimp only)) | (k_end; wrow_close) | walk1 | (dsimp only; walk1) | (leave1; try dsimp only)))
          · rw [run1_step (.inl (nes_t (by rw [← str_10]; assumption)))]
            have hU := fun ww mean mg mb nw a1 a2 a3 a4 a5 a6 a7 => step_cb ww mean mg mb nw l r T[i] mk a1 a2 a3 a4 a5 a6 a7
            unfold StepClaim at hU
            k_dflt (refine' hU _ _ _ _ _ _ _ _ _ _ _ _ _ _ _ _ _ _ _ _ _ _ _ _ _ _ _ _ _ ?sak1 ?sak2 ?sak3 ?sak4 ?sak5 ?sakK ?sakp ?sakd ?saku ?sakR)
            case sak1 => k_asm
            case sak2 => k_asm
            case sak3 => k_asm
            case sak4 => k_asm
            case sak5 => k_asm
            case sakK => exact rfl
            case sakp => exact ⟨hci, hok.he, by have := hok.len; omega, by have := hok.len; omega, by have := hok.len; omega, hm1, hm2⟩
            case sakd => ktr_room
            case saku => ktr_units
            clear hU
            intro a' v1 v2 v3 v4 n'' h9 tk9 hlt F20 N20
            (try dsimp only)
            repeat' (first | ((fail_if_success (with_reducible show (Flow.next = Flow.next) ∧ _)); first | (k_unfold; (try dsimp only)) | (k_end; wrow_close) | walk1 | (dsimp only; walk1) | (leave1; try dsimp only)))
            refine' ⟨rfl, _, _, _, (a', stObj (stepL r T[i] mk) v1 v2 v3 v4 n'') :: own, rfl, (by k_asm), cb_drop (by k_asm) ?sasb, a', v1, v2, v3, v4, n'', _, _, off_of_lt hlt, rfl, Has.cons rfl (Has.cons rfl (Has.cons rfl (Has.cons rfl (Has.cons rfl (Has.cons rfl (Has.cons rfl Has.nil))))))⟩
            case sasb =>
              intro p hp
              rcases List.mem_cons.mp hp with rfl | hp
              · exact List.Mem.head _
              · exact List.mem_cons_of_mem _ (List.mem_cons_of_mem _ hp)
          · rw [run1_step (.inr (nes_t (by rw [← str_13]; assumption)))]
            have hU := fun ww mean mg mb nw a1 a2 a3 a4 a5 a6 a7 => step_cb ww mean mg mb nw l r T[i] mk a1 a2 a3 a4 a5 a6 a7
            unfold StepClaim at hU
            k_dflt (refine' hU _ _ _ _ _ _ _ _ _ _ _ _ _ _ _ _ _ _ _ _ _ _ _ _ _ _ _ _ _ ?sbk1 ?sbk2 ?sbk3 ?sbk4 ?sbk5 ?sbkK ?sbkp ?sbkd ?sbku ?sbkR)
            case sbk1 => k_asm
            case sbk2 => k_asm
            case sbk3 => k_asm
            case sbk4 => k_asm
            case sbk5 => k_asm
            case sbkK => exact rfl
            case sbkp => exact ⟨hci, hok.he, by have := hok.len; omega, by have := hok.len; omega, by have := hok.len; omega, hm1, hm2⟩
            case sbkd => ktr_room
            case sbku => ktr_units
            clear hU
            intro a' v1 v2 v3 v4 n'' h9 tk9 hlt F20 N20
            (try dsimp only)
            repeat' (first | ((fail_if_success (with_reducible show (Flow.next = Flow.next) ∧ _)); first | (k_unfold; (try dsimp only)) | (k_end; wrow_close) | walk1 | (dsimp only; walk1) | (leave1; try dsimp only)))
            refine' ⟨rfl, _, _, _, (a', stObj (stepL r T[i] mk) v1 v2 v3 v4 n'') :: own, rfl, (by k_asm), cb_drop (by k_asm) ?sbsb, a', v1, v2, v3, v4, n'', _, _, off_of_lt hlt, rfl, Has.cons rfl (Has.cons rfl (Has.cons rfl (Has.cons rfl (Has.cons rfl (Has.cons rfl (Has.cons rfl Has.nil))))))⟩
            case sbsb =>
              intro p hp
              rcases List.mem_cons.mp hp with rfl | hp
              · exact List.Mem.head _
              · exact List.mem_cons_of_mem _ (List.mem_cons_of_mem _ hp)
          · rw [run1_stay (nes_f (by rw [← str_10]; assumption)) (nes_f (by rw [← str_13]; assumption))]
            refine' ⟨rfl, _, _, _, _, rfl, (by k_asm), (by k_asm), l, u1, u2, u3, u4, n', _, _, (by simpa using hoff), rfl, Has.cons rfl (Has.cons rfl (Has.cons rfl (Has.cons rfl (Has.cons rfl (Has.cons rfl (Has.cons rfl Has.nil))))))⟩
        case irest =>
          rintro h12 tk12 m12 nx12 F14 N14 ⟨l2, v1, v2, v3, v4, n2, tb2, tg2, hoff2, rfl, hH2⟩
          have hok2 := run_ok hm2 hTs (i + 1) hi
          have hA := law_A (mk := mk) hTs i hi
          have hB := law_B hm2 hTs i hi
          generalize hr : (runS mk (T.take (i + 1))).1 = r at N14 hok2 hA hB
          have F15 := frHas F14 hH2
          dsimp only [ov] at F15
          clear F14 F13 N13 hH
          repeat' (first | ((fail_if_success (with_reducible show wpAny _ _ (PySem.call (Value.ref _) _) _ _ _)); first | (k_unfold; (try dsimp only)) | (k_end; wrow_close) | walk1 | (dsimp only; walk1) | (leave1; try dsimp only)))
          rw [slice_k1]
          have hU := fun ww mean mg mb nw t u => decode_cb ww mean mg mb nw (T.take (i + 1)) mk t u
          unfold DClaim CbRec at hU
          dsimp only [CbLists, CbRet] at hU
          k_dflt (refine' hU _ _ _ _ _ _ _ _ _ _ _ _ _ _ _ _ _ _ _ _ _ _ _ _ ?dak1 ?dak2 ?dak3 ?dak4 ?dak5 ?dakK ?dakp ?dakd ?daku ?dakR)
          case dak1 => k_asm
          case dak2 => k_asm
          case dak3 => k_asm
          case dak4 => k_asm
          case dak5 => k_asm
          case dakK => exact rfl
          case dakp => exact ⟨by rw [List.length_take]; omega, hm1, hm2⟩
          case dakd => ktr_room
          case daku => ktr_units
          clear hU
          intro t20 h20 tk20 F20 N20
          (try dsimp only)
          rw [hA]
          repeat' (first | ((fail_if_success (with_reducible show wpAny _ _ (PySem.call (Value.ref _) _) _ _ _));  first | (k_unfold; (try dsimp only)) | (k_end; wrow_close) | walk1 | (dsimp only; walk1) | (leave1; try dsimp only)))
          have hV := fun ww mean mg mb nw a1 a2 a3 a4 a5 a6 a7 => told_cb ww mean mg mb nw l2 r T[i] mk a1 a2 a3 a4 a5 a6 a7
          unfold Claim CbClaim at hV
          dsimp only [CbLists, CbRet] at hV
          k_dflt (refine' hV _ _ _ _ _ _ _ _ _ _ _ _ _ _ _ _ _ _ _ _ _ _ _ _ _ _ _ _ _ ?tak1 ?tak2 ?tak3 ?tak4 ?tak5 ?takK ?takp ?takd ?taku ?takR)
          case tak1 => k_asm
          case tak2 => k_asm
          case tak3 => k_asm
          case tak4 => k_asm
          case tak5 => k_asm
          case takK => exact rfl
          case takp => exact ⟨by have := hok2.len; rcases hok2.he with e | e | ⟨x, e, _⟩ <;> rw [e] <;> simp, by have := hok2.len; omega, by have := hok2.len; omega, by have := hok2.len; omega, hm1, hm2⟩
          case takd => ktr_room
          case taku => ktr_units
          clear hV
          intro t21 h21 tk21 F21 N21
          (try dsimp only)
          repeat' (first | ((fail_if_success (with_reducible show wpAny _ _ (PySem.call (Value.ref _) _) _ _ _)); (fail_if_success (with_reducible show wpAny _ _ (exec (Stmt.If (Expr.BoolOp _ _ _) _ _ _) _) _ _ _)); first | (k_unfold; (try dsimp only)) | (k_end; wrow_close) | walk1 | (dsimp only; walk1) | (leave1; try dsimp only)))
          refine join_if (fun m nx => (∀ p ∈ (l2, stObj r v1 v2 v3 v4 n2) :: own, p ∈ nx) ∧ Has [(Str.ofString "state", .ref l2), (Str.ofString "sign", .str (S [T[i]]) tg2), (Str.ofString "whole", .str (S W) t9), (Str.ofString "mark", .str (S mk) tm), (Str.ofString "text", .str (S T) t5)] m) F21 ?jf ?jrest
          case jf =>
            dsimp only [stObj] at N21 ⊢
            repeat' (first | ((fail_if_success (with_reducible show wpAny _ _ (isTrue (Expr.BoolOp _ _ _) _ _) _ _ _)); first | (k_unfold; (try dsimp only)) | (k_end; wrow_close) | walk1 | (dsimp only; walk1) | (leave1; try dsimp only)))
            refine join_test (fun b => b = true → ¬ (T[i] = 13 ∧ (T.drop (i + 1)).take 1 = [10])) F21 N21 ?tst ?trs
            case tst =>
              repeat' (first | ((fail_if_success (with_reducible show Exists _)); first | (k_unfold; (try dsimp only)) | (k_end; wrow_close) | walk1 | (dsimp only; walk1) | (leave1; try dsimp only)))
              · exact ⟨_, _, rfl, by k_asm, by k_asm, fun _ h => nes_t (a := [T[i]]) (b := [13]) (by rw [← str_13]; assumption) (by rw [h.1])⟩
              · exact ⟨_, _, rfl, by k_asm, by k_asm, fun _ h => nes_t (a := (T.drop (i + 1)).take 1) (b := [10]) (by rw [← str_10, ← slice_k2]; assumption) h.2⟩
              · exact ⟨_, _, rfl, by k_asm, by k_asm, fun h => nomatch h⟩
            case trs =>
            intro b h40 tk40 hPb F40 N40
            clear F21 N21
            cases b
            · repeat' (first | ((fail_if_success (with_reducible show wpAny _ _ (PySem.call (Value.ref _) _) _ _ _)); (fail_if_success (with_reducible show (_ = Flow.next) ∧ _)); first | (k_unfold; (try dsimp only)) | (k_end; wrow_close) | walk1 | (dsimp only; walk1) | (leave1; try dsimp only)))
              refine' ⟨rfl, _, _, _, _, rfl, (by k_asm), (by k_asm), fun _ h => h, Has.cons rfl (Has.cons rfl (Has.cons rfl (Has.cons rfl (Has.cons rfl Has.nil))))⟩
            · have hnc := hPb rfl
              repeat' (first | ((fail_if_success (with_reducible show wpAny _ _ (PySem.call (Value.ref _) _) _ _ _)); (fail_if_success (with_reducible show (_ = Flow.next) ∧ _)); first | (k_unfold; (try dsimp only)) | (k_end; wrow_close) | walk1 | (dsimp only; walk1) | (leave1; try dsimp only)))
              have hV := fun ww mean mg mb nw a1 a2 a3 a4 a5 => anew_cb ww mean mg mb nw l2 r.dn r.sh r.he r.wh r.bg a1 a2 a3 a4 a5
              unfold Claim CbClaim at hV
              dsimp only [CbLists, CbRet] at hV
              k_dflt (refine' hV _ _ _ _ _ _ _ _ _ _ _ _ _ _ _ _ _ _ _ _ _ _ _ _ _ _ _ ?paak1 ?paak2 ?paak3 ?paak4 ?paak5 ?paakK ?paakp ?paakd ?paaku ?paakR)
              case paak1 => k_asm
              case paak2 => k_asm
              case paak3 => k_asm
              case paak4 => k_asm
              case paak5 => k_asm
              case paakK => exact rfl
              case paakp => exact ⟨by have := hok2.len; omega, by have := hok2.len; omega, by have := hok2.len; omega, by have := hok2.len; omega, hok2.sml⟩
              case paakd => ktr_room
              case paaku => ktr_units
              clear hV
              intro t22 h22 tk22 F22 N22
              (try dsimp only)
              have hel := esc_len r.sh
              have hrl := hok2.len
              have sal : (S (esc r.sh ++ r.he ++ r.wh)).length ≤ 400 := by rw [S_len]; simp only [List.length_append]; omega
              repeat' (first | ((fail_if_success (with_reducible show wpAny _ _ (PySem.call (Value.ref _) _) _ _ _)); (fail_if_success (with_reducible show (_ = Flow.next) ∧ _)); first | (k_unfold; (try dsimp only)) | (k_end; wrow_close) | walk1 | (dsimp only; walk1) | (leave1; try dsimp only)))
              rw [slice_k3 T i hi, S_append, S_append]
              have hU := fun ww mean mg mb nw t u => decode_cb ww mean mg mb nw (esc r.sh ++ r.he ++ r.wh ++ T.drop (i + 1) ++ [46]) mk t u
              unfold DClaim CbRec at hU
              dsimp only [CbLists, CbRet] at hU
              k_dflt (refine' hU _ _ _ _ _ _ _ _ _ _ _ _ _ _ _ _ _ _ _ _ _ _ _ _ ?padk1 ?padk2 ?padk3 ?padk4 ?padk5 ?padkK ?padkp ?padkd ?padku ?padkR)
              case padk1 => k_asm
              case padk2 => k_asm
              case padk3 => k_asm
              case padk4 => k_asm
              case padk5 => k_asm
              case padkK => exact rfl
              case padkp => exact ⟨by simp only [List.length_append, List.length_singleton, List.length_drop]; omega, hm1, hm2⟩
              case padkd => ktr_room
              case padku => ktr_units
              clear hU
              intro t23 h23 tk23 F23 N23
              (try dsimp only)
              have hBB := hB hnc
              have hYl : (decL (esc r.sh ++ r.he ++ r.wh ++ T.drop (i + 1) ++ [46]) mk).length ≤ 5000 := decL_len (by simp only [List.length_append, List.length_singleton, List.length_drop]; omega) hm2
              generalize decL (esc r.sh ++ r.he ++ r.wh ++ T.drop (i + 1) ++ [46]) mk = Y at hBB hYl
              have sYl : (S Y).length ≤ 5000 := by rw [S_len]; exact hYl
              have sdl : (S r.dn).length ≤ 400 := by rw [S_len]; omega
              have hSS : S r.dn ++ S Y = S W := by rw [S_append, hBB, hwh]
              repeat' (first | ((fail_if_success (with_reducible show wpAny _ _ (PySem.call (Value.ref _) _) _ _ _)); (fail_if_success (with_reducible show (_ = Flow.next) ∧ _)); first | (k_unfold; (try dsimp only)) | (k_end; wrow_close) | walk1 | (dsimp only; walk1) | (leave1; try dsimp only)))
              · exfalso
                have hx : (S r.dn ++ S Y != S W) = true := by assumption
                rw [hSS] at hx
                simp at hx
              · refine' ⟨rfl, _, _, _, _, rfl, (by k_asm), (by k_asm), fun _ h => h, Has.cons rfl (Has.cons rfl (Has.cons rfl (Has.cons rfl (Has.cons rfl Has.nil))))⟩
          case jrest =>
            rintro h30 tk30 m30 nx30 F30 N30 ⟨hsub, hH30⟩
            have F31 := frHas F30 hH30
            dsimp only [ov] at F31
            clear F30
            k_steps
            have h2e : (runS mk (T.take (i + 1))).2 = [T[i]] := by rw [hrt]; rfl
            refine' ⟨_, _, _, _, [(l2, stObj r v1 v2 v3 v4 n2)], rfl, (by k_asm), (by k_asm), ?ja, ?jb, hoff2, l2, v1, v2, v3, v4, n2, _, rfl, Has.cons rfl (Has.cons (congrArg (fun q => some (Value.str (S q) _)) h2e.symm) (Has.cons rfl (Has.cons rfl (Has.cons rfl Has.nil))))⟩
            case ja =>
              intro p hp
              rw [List.mem_singleton.mp hp]
              exact hsub _ (List.Mem.head _)
            case jb =>
              intro p hp
              exact hsub _ (List.mem_cons_of_mem _ hp)
      case ldo =>
        intro m₁ nx h8 tk8 hJ F11 N11
        k_steps)
end Mine
end P_La

theorem PySem.Challenge.cw_nb0379_01_holds : PySem.Challenge.rw_nb0379_01.Holds :=
  Mine.law_holds
