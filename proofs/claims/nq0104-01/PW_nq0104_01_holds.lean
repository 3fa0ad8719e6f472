import PyProof.Rows.All
import Wide.All
import OpenK.AllK
import Wide.FinOn
import PySem.Challenge.RW_nq0104_01
set_option Elab.async false
set_option maxRecDepth 100000
set_option maxHeartbeats 8000000
section
open PySem PySem.W PyProof.Rows
namespace Mine
open_top hd for PySem.Challenge.rw_nq0104_01
end Mine
end

-- part M0
section
open PySem PySem.W PySem.Spec PySem.Calls PyProof.Rows
set_option maxRecDepth 100000
set_option maxHeartbeats 8000000
namespace Mine

/-- what stood before stands after -/
abbrev Kept (h h' : Heap) : Prop := ∀ b o, h.get? b = some o → h'.get? b = some o

/-- a call of the def at f from a plain frame: nothing that stood is changed; R tells what comes back -/
abbrev Gives (w : World) (f : Addr) (d : Nat) (vs : List Value) (Pre : Heap → Prop) (R : Heap → Value → Heap → Prop) : Prop :=
  ∀ (mean : ExcName → Option Value) (mg mb : Str → Option Value) (dp un : Nat) (gd : Option (List Code)) (cn : Str) (cs : Scope) (a : Addr) (ccd : Value) (cl : List (Str × Addr)) (outer : List Env) (A₀ : Around) (base h₀ : Heap) (L : Addr) (m : Str → Option Value) (s : Shared) (Q E : Value → Shared → Prop),
    Below A₀ base outer h₀ → Fr h₀ L s.heap m → (hd.heap_39 w.params).In h₀ → Top hd.view_39 (looseW hd.view_39 [Str.ofString "nsmallest"]) mean mg mb h₀ → cs.kind = .function →
    dp + d < recursionLimit → un + 8 * d < cLine → Pre s.heap →
    (∀ (v : Value) (h' : Heap) (tk' : Nat), R s.heap v h' → Kept s.heap h' → Q v { s with heap := h', toks := tk' }) →
      wpAny (model PySem.Challenge.rw_nq0104_01.row.prog w) (ktrTop dp un gd cn cs L a ccd cl outer) (call (.ref f) vs) Q E s

theorem Gives.use {w : World} {f : Addr} {d : Nat} {vs : List Value} {Pre : Heap → Prop} {R : Heap → Value → Heap → Prop} (G : Gives w f d vs Pre R)
    {mean : ExcName → Option Value} {mg mb : Str → Option Value} {dp un : Nat} {gd : Option (List Code)} {cn : Str} {cs : Scope} {a : Addr} {ccd : Value} {cl : List (Str × Addr)} {outer : List Env} {A₀ : Around} {base h₀ : Heap} {L : Addr} {m : Str → Option Value} {s : Shared} {Q E : Value → Shared → Prop}
    (B : Below A₀ base outer h₀) (F : Fr h₀ L s.heap m) (X : (hd.heap_39 w.params).In h₀) (T : Top hd.view_39 (looseW hd.view_39 [Str.ofString "nsmallest"]) mean mg mb h₀) (hk : cs.kind = .function)
    (hdp : dp + d < recursionLimit) (hun : un + 8 * d < cLine) (hp : Pre s.heap)
    (hret : ∀ (v : Value) (h' : Heap) (tk' : Nat), R s.heap v h' → Kept s.heap h' → Q v { s with heap := h', toks := tk' }) :
    wpAny (model PySem.Challenge.rw_nq0104_01.row.prog w) (ktrTop dp un gd cn cs L a ccd cl outer) (call (.ref f) vs) Q E s :=
  G mean mg mb dp un gd cn cs a ccd cl outer A₀ base h₀ L m s Q E B F X T hk hdp hun hp hret

section
variable {prog : Program} {w : World} {A₀ A : Around} {E : Value → Shared → Prop} {s : Shared} {base h₀ : Heap} {outer : List Env} {L : Addr} {m : Str → Option Value} {env : Env}

theorem enter0 {K : Frag} {p : Program} {loose : List Str} {mean : ExcName → Option Value} {mg mb : Str → Option Value} {R : Result → Shared → Prop} {name qual : Str} {params : Arguments} {body : List Stmt} {scope : Scope} {dV kV doc pm cdv ct oc : Value} {an od : Option Addr} {osl : Array (Option Value)} {f : Addr} {args : Args} {binds : List (Str × Value)}
    (B : Below A₀ base outer h₀) (F : Fr h₀ L s.heap m) (X₀ : K.In h₀) (T : Top p loose mean mg mb h₀) (hA : A.frames = some (env :: outer)) (hf : env.frame = some L) (hke : env.scope.kind = .function)
    (ho : K.lookup f = some ⟨oc, od, .func (fnOf name qual params body scope dV kV doc pm an cdv ct), osl⟩) (hcd : codeIn K cdv qual = true) (hroom : A.depth < recursionLimit)
    (hbind : BindsTo s (fnOf name qual params body scope dV kV doc pm an cdv ct) args binds) (hloc : ∀ y ∈ binds, scope.names.lookup y.1 = some .local)
    (h : ∀ g L' h₁, Kept s.heap g → Fr h₀ L g m → Fr g L' h₁ (fun y => binds.reverse.lookup y) → News g L' h₁ [] → Below A base (env :: outer) g → K.In g → Top p loose mean mg mb g →
      wpAny (model prog w) (A.deeper (envOf qual scope L' f cdv)) (execs body (envOf qual scope L' f cdv))
        (fun fl s' => LeaveK h₀ L m g R (match fl with | .ret v => v | _ => .none) s')
        (fun e s' => wpAny (model prog w) (A.deeper (envOf qual scope L' f cdv)) (leaving (envOf qual scope L' f cdv) e) (fun _ s'' => R (.error e) s'') (fun e' s'' => R (.error e') s'') s')
        { s with heap := h₁, toks := s.toks + binds.length })
    (hco : scope.isCoroutine = false) (hgen : scope.isGenerator = false) (hk : scope.kind = .function)
    (hcell : ∀ x ∈ scope.names, x.2 ≠ .cell) : codeAny (model prog w) A (.call (.ref f) args) R s :=
  code_defG B F X₀ News.nil T hA hf hke ho hcd hroom hbind hloc (fun g L' h₁ FG F' N' B' X' T' G => h g L' h₁ (fun b o e => G b o e (fun hm => nomatch hm)) FG F' N' B' X' T') hco hgen hk hcell

theorem enterC {K : Frag} {p : Program} {loose : List Str} {mean : ExcName → Option Value} {mg mb : Str → Option Value} {R : Result → Shared → Prop} {name qual : Str} {params : Arguments} {body : List Stmt} {scope : Scope} {dV kV doc pm cdv ct oc : Value} {an od : Option Addr} {osl : Array (Option Value)} {f : Addr} {args : Args} {binds : List (Str × Value)}
    (B : Below A₀ base outer h₀) (F : Fr h₀ L s.heap m) (X₀ : K.In h₀) (T : Top p loose mean mg mb h₀) (hA : A.frames = some (env :: outer)) (hf : env.frame = some L) (hke : env.scope.kind = .function)
    (ho : K.lookup f = some ⟨oc, od, .func (fnOf name qual params body scope dV kV doc pm an cdv ct), osl⟩) (hcd : codeIn K cdv qual = true) (hroom : A.depth < recursionLimit)
    (hbind : BindsTo s (fnOf name qual params body scope dV kV doc pm an cdv ct) args binds) (hkind : (binds.all fun y => scope.names.lookup y.1 == some .local || scope.names.lookup y.1 == some .cell) = true)
    (hnd : ((cellsFrom 0 scope.names []).map (·.1)).Nodup)
    (h : ∀ g L' h₁ tk cells, Kept s.heap g → Fr h₀ L g m → Fr g L' h₁ (bindL (envOfC qual scope L' f cdv).kindOf binds fun _ => none) → News g L' h₁ cells →
      CellsAre (bindC (envOfC qual scope L' f cdv).kindOf binds fun _ => none) (cellsFrom (L' + 1) scope.names []) cells → Below A base (env :: outer) g → K.In g → Top p loose mean mg mb g →
      wpAny (model prog w) (A.deeper (envOfC qual scope L' f cdv)) (execs body (envOfC qual scope L' f cdv))
        (fun fl s' => LeaveK h₀ L m g R (match fl with | .ret v => v | _ => .none) s')
        (fun e s' => wpAny (model prog w) (A.deeper (envOfC qual scope L' f cdv)) (leaving (envOfC qual scope L' f cdv) e) (fun _ s'' => R (.error e) s'') (fun e' s'' => R (.error e') s'') s')
        { s with heap := h₁, toks := tk })
    (hco : scope.isCoroutine = false) (hgen : scope.isGenerator = false) (hk : scope.kind = .function) : codeAny (model prog w) A (.call (.ref f) args) R s := by
  obtain ⟨FG, BG, st, lv⟩ := groundX (R := R) B F (News.nil (h₀ := h₀) (L := L) (h := s.heap)) hA hf hke
  have e0 : hideAll s.heap (([] : List (Addr × Obj)).map (·.1)) = s.heap := rfl
  rw [e0] at FG BG st lv
  refine codeAny_call_function hroom ((X₀.keeps F.keep) _ _ ho) rfl hco hgen rfl (codeRec_of (X₀.keeps F.keep) hcd) (hbind _ _ _ _ ?_)
  refine wpAny_newFunctionEnv_cells hk (kindsX hkind _) fun env' he s' x => ?_
  subst he
  refine ⟨(T.nolimit.keeps F.keep).keeps x.toInCall.keep, codeAny_func ?_⟩
  obtain ⟨h₁, tk, rfl, _⟩ := x.done
  have hk₁ := x.toInCall.keep
  obtain ⟨cells, NC, Y⟩ := Cl.news (h₀ := s.heap) (Nat.le_refl _) fun n c hm => ⟨x.cell n c (lookup_of_mem_nodup (cellsFrom_names scope.names 0 (s.heap.objs.size + 1) [] [] rfl ▸ hnd) hm), x.above n c hm⟩
  exact wpAny_mono (h _ s.heap.objs.size h₁ tk cells (fun _ _ e => e) FG ⟨x.toInCall.ns, fun b o e => hk₁ b o e, Nat.le_refl _⟩ NC Y BG (X₀.keeps st) (T.keeps st)) (fun fl s' hl => lv _ _ hl) fun _ _ y => y
end

/-- how a loop leaves: the frame and the ledger that P tells -/
def Ex (h₀ : Heap) (L : Addr) (s : Shared) (P : (Str → Option Value) → List (Addr × Obj) → Prop) (s₂ : Shared) : Prop :=
  ∃ h' tk m₂ news₂, s₂ = { s with heap := h', toks := tk } ∧ Fr h₀ L h' m₂ ∧ News h₀ L h' news₂ ∧ P m₂ news₂
theorem Ex.intro {h₀ h' : Heap} {L : Addr} {s : Shared} {P : (Str → Option Value) → List (Addr × Obj) → Prop} {m₂ : Str → Option Value} {news₂ : List (Addr × Obj)} {tk : Nat}
    (F : Fr h₀ L h' m₂) (N : News h₀ L h' news₂) (hP : P m₂ news₂) : Ex h₀ L s P { s with heap := h', toks := tk } := ⟨h', tk, m₂, news₂, rfl, F, N, hP⟩

section
variable {prog : Program} {w : World} {A : Around} {E : Value → Shared → Prop} {Q : Flow → Shared → Prop} {s : Shared} {env : Env} {h₀ : Heap} {L : Addr}
theorem while_P {test : Expr} {body : List Stmt} {pos : Pos} {m : Str → Option Value} {news : List (Addr × Obj)} (J : Nat → (Str → Option Value) → List (Addr × Obj) → Prop) (P : (Str → Option Value) → List (Addr × Obj) → Prop) (n₀ : Nat)
    (F : Fr h₀ L s.heap m) (N : News h₀ L s.heap news) (hJ : J n₀ m news)
    (turn : ∀ n m₁ news₁ h₁ tk₁, Fr h₀ L h₁ m₁ → News h₀ L h₁ news₁ → J n m₁ news₁ →
      wpAny (model prog w) A (isTrue test env (eval test env)) (fun b s₂ =>
        if b = true then wpAny (model prog w) A (execs body env) (WhileStep2 h₀ L s J (fun f s' => match f with | .next => Ex h₀ L s P s' | f => Q f s') n) E s₂ else Ex h₀ L s P s₂) E { s with heap := h₁, toks := tk₁ })
    (cont : ∀ m₁ news₁ h₁ tk₁, Fr h₀ L h₁ m₁ → News h₀ L h₁ news₁ → P m₁ news₁ → Q .next { s with heap := h₁, toks := tk₁ })
    (hE : PassesOwn (model prog w) A env E) :
    wpAny (model prog w) A (exec (.While test body [] pos) env) Q E s := by
  refine wpAny_mono (While_inv2 J F N hJ turn hE) (fun f s' h => ?_) fun _ _ e => e
  cases f with
  | next =>
    obtain ⟨h', tk, m₂, news₂, rfl, F₂, N₂, hP⟩ := h
    exact cont m₂ news₂ h' tk F₂ N₂ hP
  | brk => exact h
  | cont => exact h
  | ret v => exact h
end
end Mine

end

-- part M1
section
open PySem PySem.W PySem.Spec PySem.Calls PyProof.Rows
set_option maxRecDepth 100000
set_option maxHeartbeats 8000000
namespace Mine

local macro_rules | `(tactic| walk_at "call builtin:str.lower") => `(tactic| k_extra "M1_1")

theorem subCost (w : World) (a b : Str) (ta tb : Tok) (ha : a.length ≤ 1) (hb : b.length ≤ 1) (hla : Txt.lower a = a) (hlb : Txt.lower b = b) :
    Gives w 55 1 [.str a ta, .str b tb] (fun _ => True) (fun _ v _ => ∃ t, v = .int (if a = b then 0 else 2) t) := by
  w_top off
  k_with_none
  (k_with "M1_1" => (k_here; (with_reducible show wpAny _ _ (call (Value.builtin "str.lower") [Value.str _ _]) _ _ _); (refine SCL.lower (by omega) ?_); intro _))
  unfold Gives
  k_fill
  intro mean mg mb dp un gd cn cs fa ccd cl outer A₀ base h₀ L m s Q E B F X T hkf hdp hun hpre hret
  refine wpAny_call ?_
  k_dflt (refine' enter0 ?k1 ?k2 ?k3 ?k5 ?kA ?kF ?kK ?k6 ?k7 ?k8 ?k9 ?kB ?_ ?c2 ?c3 ?c4 ?c5; (case kA => exact rfl); (case kF => exact rfl); (case kK => assumption); (case k1 => k_asm); (case k2 => k_asm); (case k3 => k_asm); (case k5 => k_asm); (case k6 => k_is); (case k7 => k_is); (case k8 => ktr_room); (case k9 => exact BindsTo.of_eq rfl); (case c5 => decide); (case kB => exact locs rfl); (case c2 => exact rfl); (case c3 => exact rfl); (case c4 => exact rfl); k_whole; intro g' L' h' G9 FG' F' N' B' X' T'; (try dsimp only); (try k_fold))
  repeat' (first | (k_unfold; (try dsimp only)) | walk1 | (dsimp only; walk1) | (leave1; walk_say "STEP leave1"; try dsimp only) | fail "no step")
  all_goals (refine hret _ _ _ ⟨_, congrArg (Value.int · _) ?_⟩ (fun b o e => Fr.keep (by k_asm) b o (G9 b o e)); simp_all)
end Mine

end

-- part M2
section
open PySem PySem.W PySem.Spec PySem.Calls PyProof.Rows
set_option maxRecDepth 100000
namespace Mine

/-- a text by the list of its signs -/
def S (l : List Nat) : Str := ⟨l.toArray⟩
theorem S_len (l : List Nat) : (S l).length = l.length := rfl
theorem S_inj {a b : List Nat} : S a = S b ↔ a = b := by
  constructor
  · intro h
    have : (S a).cps.toList = (S b).cps.toList := by rw [h]
    simpa [S] using this
  · rintro rfl; rfl
theorem S_eta (x : Str) : x = S x.cps.toList := by cases x; simp [S]
theorem S_from (l : List Nat) (k : Nat) : Txt.slice (S l) (some (k : Int)) none = S (l.drop k) := by
  by_cases h : (k : Int) ≤ ((S l).length : Nat)
  · rw [slice_from_eq (b := ((S l).length : Nat)) (by omega) h rfl]
    show (⟨((l.drop k).take _).toArray⟩ : Str) = ⟨(l.drop k).toArray⟩
    congr 2
    apply List.take_of_length_le
    rw [S_len, List.length_drop]; omega
  · rw [slice_beyond (by omega)]
    rw [S_len] at h
    rw [List.drop_eq_nil_of_le (by omega)]
    rfl
theorem slice_txt (x : Str) (l u : Option Int) : Txt.slice x l u = StrLaws.sliceText x l u := rfl
theorem S_to (l : List Nat) (k : Nat) : Txt.slice (S l) none (some (k : Int)) = S (l.take k) := by
  by_cases h : k ≤ l.length
  · rw [slice_txt, StrLaws.sliceText_to ⟨by omega, by simp [S]; omega⟩]
    simp [S]
  · rw [slice_to_beyond (by rw [S_len]; omega), slice_txt, StrLaws.sliceText_to ⟨by omega, by simp [S, Str.length]⟩]
    rw [List.take_of_length_le (l := l) (by omega)]
    simp [S, Str.length]
theorem S_all (l : List Nat) : Txt.slice (S l) none none = S l := by
  rw [slice_txt]
  unfold StrLaws.sliceText
  rw [StrLaws.sliceIdx_none_lo, StrLaws.sliceIdx_none_hi]
  have e := StrLaws.strSliceIndices_plain (a := 0) (b := (S l).length) (len := (S l).length) (by omega) (by omega)
  rw [show ((0 : Nat) : Int) = 0 from rfl] at e
  rw [e]
  simp
theorem S_toNeg (l : List Nat) (k : Nat) (h0 : 0 < k) (h : k ≤ l.length) : Txt.slice (S l) none (some (-(k : Int))) = S (l.take (l.length - k)) := by
  rw [slice_txt, StrLaws.sliceText_neg_hi _ _ (by omega) (by rw [S_len]; omega), ← slice_txt]
  have : -(k : Int) + ((S l).length : Nat) = ((l.length - k : Nat) : Int) := by rw [S_len]; omega
  rw [this, S_to]
theorem S_item (l : List Nat) (k : Nat) (h : k < l.length) : Txt.item (S l) (k : Int) = S [l.getD k 0] := by
  rw [item_meets ⟨by omega, by rw [S_len]; omega⟩]
  simp [S]
theorem S_itemNeg (l : List Nat) (k : Nat) (h0 : 0 < k) (h : k ≤ l.length) : Txt.item (S l) (-(k : Int)) = S [l.getD (l.length - k) 0] := by
  unfold Txt.item Txt.charAt seqIndex?
  have h1 : -(k : Int) < 0 := by omega
  have h2 : -(k : Int) + ((S l).length : Nat) = ((l.length - k : Nat) : Int) := by rw [S_len]; omega
  have h3 : l.length - k < l.length := by omega
  simp only [h1, if_true, h2]
  have h4 : l.length - k < (⟨l.toArray⟩ : Str).length := h3
  simp [h3, S, h4]

/-- a frame's names as a written list -/
def setL : List (Str × Value) → Str → Value → List (Str × Value)
  | [], x, v => [(x, v)]
  | (y, u) :: r, x, v => if y = x then (x, v) :: r else (y, u) :: setL r x v
theorem lk_set (x : Str) (v : Value) (y : Str) : ∀ l : List (Str × Value), (if y = x then some v else List.lookup y l) = List.lookup y (setL l x v)
  | [] => by
    unfold setL
    by_cases h : y = x
    · simp [h]
    · have : (y == x) = false := by simpa using h
      simp [h, List.lookup_cons, this]
  | (z, u) :: r => by
    unfold setL
    by_cases h : y = x
    · subst h
      by_cases hz : z = y
      · simp [hz]
      · have : (y == z) = false := by simpa using fun e => hz e.symm
        have ih := lk_set y v y r
        rw [if_pos rfl] at ih
        rw [if_neg hz, if_pos rfl, List.lookup_cons, this]
        exact ih
    · by_cases hz : z = x
      · subst hz
        have : (y == z) = false := by simpa using h
        simp [h, List.lookup_cons, this]
      · rw [if_neg h, if_neg hz, List.lookup_cons, List.lookup_cons]
        have ih := lk_set x v y r
        rw [if_neg h] at ih
        cases (y == z) with
        | true => rfl
        | false => simpa using ih

section
variable {prog : Program} {w : World} {A : Around} {E : Value → Shared → Prop} {Q : Flow → Shared → Prop} {s : Shared} {env : Env} {h₀ : Heap} {L : Addr}
/-- a statement whose ways meet in what P tells -/
theorem exec_P {st : Stmt} {m : Str → Option Value} (F : Fr h₀ L s.heap m) (P : (Str → Option Value) → List (Addr × Obj) → Prop)
    (h : wpAny (model prog w) A (exec st env) (fun f s' => match f with | .next => Ex h₀ L s P s' | f => Q f s') E s)
    (cont : ∀ m₁ news₁ h₁ tk₁, Fr h₀ L h₁ m₁ → News h₀ L h₁ news₁ → P m₁ news₁ → Q .next { s with heap := h₁, toks := tk₁ }) :
    wpAny (model prog w) A (exec st env) Q E s := by
  have _ := F
  refine wpAny_mono h (fun f s' h => ?_) fun _ _ e => e
  cases f with
  | next =>
    obtain ⟨h', tk, m₂, news₂, rfl, F₂, N₂, hP⟩ := h
    exact cont m₂ news₂ h' tk F₂ N₂ hP
  | brk => exact h
  | cont => exact h
  | ret v => exact h
end

/-- the common head struck off both -/
def sp : List Nat → List Nat → List Nat × List Nat
  | x :: xs, y :: ys => if x = y then sp xs ys else (x :: xs, y :: ys)
  | [], ys => ([], ys)
  | x :: xs, [] => (x :: xs, [])

structure DP where
  row : List Int
  dist : Int
  res : Int
  mn : Int
def dpStep (c : Nat) (a : List Nat) (st : DP) (i : Nat) : DP :=
  let res' := if (st.dist + if c = a.getD i 0 then 0 else 2) < (if st.row.getD i 0 < st.res then st.row.getD i 0 else st.res) + 2 then
      st.dist + if c = a.getD i 0 then 0 else 2
    else (if st.row.getD i 0 < st.res then st.row.getD i 0 else st.res) + 2
  ⟨st.row.set i res', st.row.getD i 0, res', if res' < st.mn then res' else st.mn⟩
def dpAt (c : Nat) (a : List Nat) (row : List Int) (d : Int) (j : Nat) : DP := (List.range j).foldl (dpStep c a) ⟨row, d, d, 9223372036854775807⟩
theorem dpAt_succ (c : Nat) (a : List Nat) (row : List Int) (d : Int) (j : Nat) : dpAt c a row d (j + 1) = dpStep c a (dpAt c a row d j) j := by
  unfold dpAt
  rw [List.range_succ, List.foldl_append]
  rfl
theorem dpAt_len (c : Nat) (a : List Nat) (row : List Int) (d : Int) : ∀ j, (dpAt c a row d j).row.length = row.length
  | 0 => rfl
  | j + 1 => by rw [dpAt_succ]; simp only [dpStep, List.length_set]; exact dpAt_len c a row d j
def dpGo (a : List Nat) : List Nat → Int → List Int → Int → Int
  | [], _, _, res => res
  | c :: bs, d, row, _ => if 5 < (dpAt c a row d a.length).mn then 6 else dpGo a bs (d + 2) (dpAt c a row d a.length).row (dpAt c a row d a.length).res
theorem dpGo_drop {a b : List Nat} {i : Nat} (hi : i < b.length) (d : Int) (row : List Int) (res : Int) :
    dpGo a (b.drop i) d row res = if 5 < (dpAt (b.getD i 0) a row d a.length).mn then 6 else dpGo a (b.drop (i + 1)) (d + 2) (dpAt (b.getD i 0) a row d a.length).row (dpAt (b.getD i 0) a row d a.length).res := by
  rw [List.drop_eq_getElem_cons hi]
  have e : b.getD i 0 = b[i] := by simp [List.getD, hi]
  rw [e]
  rfl
def row0 (n : Nat) : List Int := (List.range n).map fun (i : Nat) => 2 * (i : Int) + 2
def levD (a b : List Nat) : Int := if 5 < ((b.length : Int) - a.length) * 2 then 6 else dpGo a b 0 (row0 a.length) 0
def levC (a b : List Nat) : Int :=
  if a = [] ∨ b = [] then 2 * ((a.length : Int) + b.length) else if b.length < a.length then levD b a else levD a b
def lev (l r : List Nat) : Int :=
  if l = r then 0 else levC (sp (sp l r).1.reverse (sp l r).2.reverse).1.reverse (sp (sp l r).1.reverse (sp l r).2.reverse).2.reverse

theorem sp_drop : ∀ (k : Nat) (a b : List Nat), (∀ j, j < k → a.getD j 0 = b.getD j 0) → k ≤ a.length → k ≤ b.length → sp a b = sp (a.drop k) (b.drop k)
  | 0, _, _, _, _, _ => rfl
  | k + 1, [], _, _, h, _ => by simp at h
  | k + 1, _ :: _, [], _, _, h => by simp at h
  | k + 1, x :: xs, y :: ys, h, h1, h2 => by
    have e : x = y := by simpa using h 0 (by omega)
    subst e
    show (if x = x then sp xs ys else _) = _
    rw [if_pos rfl]
    exact sp_drop k xs ys (fun j hj => by simpa using h (j + 1) (by omega)) (by simpa using h1) (by simpa using h2)
theorem sp_nil_l (b : List Nat) : sp [] b = ([], b) := by simp [sp]
theorem sp_nil_r (a : List Nat) : sp a [] = (a, []) := by cases a <;> simp [sp]
theorem sp_stop {a b : List Nat} (ha : a ≠ []) (hb : b ≠ []) (h : a.getD 0 0 ≠ b.getD 0 0) : sp a b = (a, b) := by
  cases a with
  | nil => exact absurd rfl ha
  | cons x xs =>
    cases b with
    | nil => exact absurd rfl hb
    | cons y ys =>
      have : ¬ x = y := by simpa using h
      simp [sp, this]
end Mine

end

-- part M2b
section
open PySem PySem.W PySem.Spec PySem.Calls PyProof.Rows
set_option maxRecDepth 100000
namespace Mine

/-- some names' values laid over a map -/
def ov : List (Str × Value) → (Str → Option Value) → Str → Option Value
  | [], u => u
  | (x, v) :: r, u => fun y => if y = x then some v else ov r u y
def AllAt (m : Str → Option Value) : List (Str × Value) → Prop
  | [] => True
  | (x, v) :: r => m x = some v ∧ AllAt m r
theorem ov_self (m : Str → Option Value) : ∀ l : List (Str × Value), AllAt m l → m = ov l m
  | [], _ => rfl
  | (x, v) :: r, h => by
    funext y
    show m y = if y = x then some v else ov r m y
    by_cases e : y = x
    · rw [if_pos e, e]; exact h.1
    · rw [if_neg e]; exact congrFun (ov_self m r h.2) y

theorem someInt {x y : Int} {t : Tok} (h : x = y) : some (Value.int x t) = some (Value.int y t) := by rw [h]

/-- how a turn of a for ends: the iterator as it was, the frame and the ledger that J tells -/
def Turn (h₀ : Heap) (L I : Addr) (oI : Obj) (J : (Str → Option Value) → List (Addr × Obj) → Prop) (s₁ : Shared) (Q : Flow → Shared → Prop) (f : Flow) (s₂ : Shared) : Prop :=
  match f with
  | .ret v => Q (.ret v) s₂
  | .brk => Q .next s₂
  | _ => ∃ h' tk m' news', s₂ = { s₁ with heap := h', toks := tk } ∧ Fr h₀ L h' m' ∧ News h₀ L h' ((I, oI) :: news') ∧ (∀ p ∈ news', p.1 ≠ I) ∧ J m' news'

section
variable {prog : Program} {w : World} {A : Around} {E : Value → Shared → Prop} {s : Shared} {env : Env} {h₀ : Heap} {x : Str} {body : List Stmt} {Q : Flow → Shared → Prop}

theorem for_W {I : Addr} {fp : List Addr} {n : Nat} {P : Nat → Value → Prop} {St : Nat → Heap → Prop} {m₀ : Str → Option Value} {news : List (Addr × Obj)} (J : Nat → (Str → Option Value) → List (Addr × Obj) → Prop)
    (W : Walks prog w A I fp [I] n P St) (hfp : ∀ b ∈ fp, b ≠ I → ∃ o, h₀.get? b = some o) (hLf : env.locals ∉ fp) (hI : h₀.get? I = none) (hlive : ∀ i h, St i h → ∃ o, h.get? I = some o)
    (hst : St 0 s.heap) (F : Fr h₀ env.locals s.heap m₀) (N : News h₀ env.locals s.heap news) (hnI : ∀ p ∈ news, p.1 ≠ I) (hj : J 0 m₀ news)
    (turn : ∀ i v m₁ news₁ h tk oI, i < n → P i v → J i m₁ news₁ → (∀ p ∈ news₁, p.1 ≠ I) → Fr h₀ env.locals h (fun y => if y = x then some v else m₁ y) → News h₀ env.locals h ((I, oI) :: news₁) →
      wpAny (model prog w) A (execs body env) (Turn h₀ env.locals I oI (J (i + 1)) { s with heap := h, toks := tk } Q) E { s with heap := h, toks := tk })
    (done : ∀ m₁ news₁ h tk, J n m₁ news₁ → (∀ p ∈ news₁, p.1 ≠ I) → Fr h₀ env.locals h m₁ → News h₀ env.locals h news₁ → Q .next { s with heap := h, toks := tk }) :
    LoopAtV prog w A h₀ env x body Q E (.ref I) s := by
  have hIf : I ∈ fp := W.sub I (List.mem_singleton.mpr rfl)
  refine ⟨I, fp, [I], n, P, St, m₀, news, J, rfl, W, hLf, fun b hb => by rw [List.mem_singleton.mp hb]; exact hI, fun p hp hm => hnI p hp (List.mem_singleton.mp hm), hst, F, N, hj, ?_, ?_⟩
  · rintro i v m₁ news₁ s₁ own ⟨hh', tk', rfl⟩ hin hP hJ hoff hown hget hall hst₁ F₁ N₁
    obtain ⟨oI, hoI⟩ := hlive _ _ hst₁
    have hmem : (I, oI) ∈ own := hall I hIf hI oI hoI
    have honly : ∀ p ∈ own, p = (I, oI) := fun p hp => by
      have h1 := hown p hp
      have h2 := (N₁ p (List.mem_append_left _ hp))
      by_cases e : p.1 = I
      · have h3 := hget p hp
        rw [e] at h3
        have : p.2 = oI := Option.some.inj (h3.symm.trans hoI)
        exact Prod.ext e this
      · obtain ⟨o, ho⟩ := hfp p.1 h1 e
        rw [h2.2.2] at ho; cases ho
    have hne : ∀ p ∈ news₁, p.1 ≠ I := fun p hp e => hoff p hp (List.mem_singleton.mpr e)
    have N₂ : News h₀ env.locals hh' ((I, oI) :: news₁) := fun p hp => by
      rcases List.mem_cons.mp hp with rfl | hp
      · exact N₁ _ (List.mem_append_left _ hmem)
      · exact N₁ p (List.mem_append_right _ hp)
    refine wpAny_mono (turn i v m₁ news₁ hh' tk' oI hin hP hJ hne F₁ N₂) (fun f s₂ p => ?_) fun _ _ e => e
    have fin : (∃ h' tk m' news', s₂ = { s with heap := h', toks := tk } ∧ Fr h₀ env.locals h' m' ∧ News h₀ env.locals h' ((I, oI) :: news') ∧ (∀ p ∈ news', p.1 ≠ I) ∧ J (i + 1) m' news') →
        LoopStepU h₀ env.locals [I] own (J (i + 1)) { s with heap := hh', toks := tk' } .next s₂ := by
      rintro ⟨h', tk, m', news', e, F', N', hn', hJ'⟩
      refine ⟨rfl, h', tk, m', news', e, F', fun p hp => ?_, fun p hp hm => hn' p hp (List.mem_singleton.mp hm), hJ'⟩
      rcases List.mem_append.mp hp with hp | hp
      · rw [honly p hp]; exact N' _ List.mem_cons_self
      · exact N' p (List.mem_cons_of_mem _ hp)
    cases f with
    | ret v => exact .ret p
    | brk => exact .brk p
    | next => exact .next (fin p)
    | cont => exact .cont (fin p)
  · rintro h' tk m' news' F' N' hoff hJ
    exact done m' news' h' tk hJ (fun p hp e => hoff p hp (List.mem_singleton.mpr e)) F' N'

/-- for x in range(n) -/
theorem forR {L r : Addr} {b₀ : Int} {t₀ u₀ v₀ : Tok} {m₀ : Str → Option Value} {news : List (Addr × Obj)} (hL : env.locals = L) (n : Nat) (J : Nat → (Str → Option Value) → List (Addr × Obj) → Prop)
    (hh : A.handled = none) (hr : IsRange s.heap r 0 b₀ 1 t₀ u₀ v₀) (hb : b₀ = (n : Int)) (hn : n ≤ 1000) (F : Fr h₀ L s.heap m₀) (N : News h₀ L s.heap news) (hj : J 0 m₀ news)
    (turn : ∀ i t m₁ news₁ h tk I oI, i < n → J i m₁ news₁ → (∀ p ∈ news, p.1 < I) → (∀ p ∈ news₁, p.1 ≠ I) → Fr h₀ L h (fun y => if y = x then some (.int (i : Int) t) else m₁ y) → News h₀ L h ((I, oI) :: news₁) →
      wpAny (model prog w) A (execs body env) (Turn h₀ L I oI (J (i + 1)) { s with heap := h, toks := tk } Q) E { s with heap := h, toks := tk })
    (done : ∀ m₁ news₁ h tk, J n m₁ news₁ → Fr h₀ L h m₁ → News h₀ L h news₁ → Q .next { s with heap := h, toks := tk }) :
    wpAny (model prog w) A (pyIter (.ref r)) (fun it s₂ => LoopAtV prog w A h₀ env x body Q E it s₂) E s := by
  subst hb
  subst hL
  have hsz : Builtin.Range.rangeSize 0 (n : Int) 1 = (n : Int) := by
    unfold Builtin.Range.rangeSize
    by_cases h : (0 : Int) < n
    · rw [if_pos (by decide), if_pos h]; omega
    · rw [if_pos (by decide), if_neg h]; omega
  have hsmall : Builtin.Range.small 0 (n : Int) 1 = true := by
    refine small_one ?_ ?_ ?_ ?_ <;> first | omega | decide
  refine wpAny_pyIter_range hr hsmall ?_
  have W : Walks prog w A s.heap.objs.size [s.heap.objs.size] [s.heap.objs.size] n (fun i v => i < n ∧ ∃ t, v = .int (0 + i * 1) t)
      (fun i h => IsRangeIter h s.heap.objs.size (0 + (i : Nat) * 1) ((n : Int) - (i : Nat)) 1) := (Walks.range hh _ 0 1 n).bound
  have hlt : ∀ p ∈ news, p.1 < s.heap.objs.size := fun p hp => Heap.lt_size (N p hp).1
  refine for_W J W (fun b hb h => absurd (List.mem_singleton.mp hb) h) (fun hm => absurd F.ns.lt ((List.mem_singleton.mp hm) ▸ Nat.lt_irrefl _)) (next_is_new F) (fun i h st => ⟨_, st⟩)
    (by show IsRangeIter _ _ _ _ _; rw [hsz]; simpa using Heap.get?_push_size _ rfl) (F.push _) (fun p hp => ⟨Heap.get?_push_of_some _ (N p hp).1, (N p hp).2⟩) (fun p hp => Nat.ne_of_lt (hlt p hp)) hj ?_ (fun m₁ news₁ h tk hJ _ F' N' => done m₁ news₁ h tk hJ F' N')
  rintro i v m₁ news₁ h tk oI hi ⟨_, t, rfl⟩ hJ hne F₁ N₁
  have e1 : (0 : Int) + (i : Int) * 1 = (i : Int) := by omega
  rw [e1] at F₁
  exact turn i t m₁ news₁ h tk _ oI hi hJ hlt hne F₁ N₁

/-- list(range(2, 2 * (n + 1), 2)) -/
theorem list_rng {r : Addr} {b₀ : Int} {t u v : Tok} {m₀ : Str → Option Value} {news : List (Addr × Obj)} {L : Addr} {Q : Value → Shared → Prop} (n : Nat) (hh : A.handled = none) (hr : IsRange s.heap r 2 b₀ 2 t u v) (hb : b₀ = 2 * ((n : Int) + 1)) (hn : n ≤ 1000)
    (F : Fr h₀ L s.heap m₀) (N : News h₀ L s.heap news)
    (h : ∀ D vs c h' tk, Fr h₀ L h' m₀ → News h₀ L h' ((D, listOf vs.toArray c) :: news) → (∀ p ∈ news, p.1 < D) → IntsAre vs (row0 n) → Q (.ref D) { s with heap := h', toks := tk }) :
    wpAny (model prog w) A (call (.type "list") [.ref r]) Q E s := by
  have hsz : Builtin.Range.rangeSize 2 b₀ 2 = (n : Int) := by
    unfold Builtin.Range.rangeSize
    by_cases h : (2 : Int) < b₀
    · rw [if_pos (by decide), if_pos h]; omega
    · rw [if_pos (by decide), if_neg h]; omega
  have hsmall : Builtin.Range.small 2 b₀ 2 = true := by
    have f : ∀ z : Int, 0 ≤ z → z ≤ 3000 → Builtin.Range.rangeFitsLong z = true := fun z h1 h2 => by
      unfold Builtin.Range.rangeFitsLong
      simp
      omega
    unfold Builtin.Range.small
    rw [hsz, f 2 (by decide) (by decide), f b₀ (by omega) (by omega), f (n : Int) (by omega) (by omega), if_pos (by decide), f (b₀ + (2 - 1)) (by omega) (by omega)]
    simp
  refine call_list_range hh hr hsmall hsz (by omega) fun h' tk acc' c' hk hD hit => ?_
  have key : ∀ (k : Nat) (vs : List Value) (j : Nat), vs.length = k → (∀ i v, vs[i]? = some v → ∃ t, v = Value.int (2 + ((j + i : Nat) : Int) * 2) t) → IntsAre vs ((List.range' j k).map fun (i : Nat) => 2 * (i : Int) + 2) := by
    intro k
    induction k with
    | zero => intro vs j hl _; rw [List.length_eq_zero_iff.mp hl]; exact .nil
    | succ k ih =>
      intro vs j hl hv
      cases vs with
      | nil => simp at hl
      | cons a vs =>
        obtain ⟨t, rfl⟩ := hv 0 a rfl
        have e : (2 : Int) + ((j + 0 : Nat) : Int) * 2 = 2 * (j : Int) + 2 := by omega
        rw [e, List.range'_succ, List.map_cons]
        exact .cons _ _ (ih vs (j + 1) (by simpa using hl) fun i v h => by
          obtain ⟨t, rfl⟩ := hv (i + 1) v (by simpa using h)
          exact ⟨t, by congr 2; omega⟩)
  have hI : IntsAre acc'.toList (row0 n) := by
    unfold row0
    rw [List.range_eq_range']
    exact key n acc'.toList 0 (by simpa using hit.1) fun i v h => by simpa using hit.2 i v (by simpa using h)
  refine h _ acc'.toList c' h' tk (F.keeps hk) (fun p hp => ?_) (fun p hp => Heap.lt_size (N p hp).1) hI
  rcases List.mem_cons.mp hp with rfl | hp
  · exact ⟨hD, Ne.symm (Nat.ne_of_lt F.ns.lt), next_is_new F⟩
  · exact ⟨hk _ _ (N p hp).1, (N p hp).2⟩
end
theorem Turn.next {h₀ h' : Heap} {L I : Addr} {oI : Obj} {J : (Str → Option Value) → List (Addr × Obj) → Prop} {s₁ : Shared} {Q : Flow → Shared → Prop} {tk : Nat} {m' : Str → Option Value} {news' all : List (Addr × Obj)}
    (F : Fr h₀ L h' m') (N : News h₀ L h' all) (hs : ∀ p ∈ (I, oI) :: news', p ∈ all) (hn : ∀ p ∈ news', p.1 ≠ I) (hJ : J m' news') : Turn h₀ L I oI J s₁ Q .next { s₁ with heap := h', toks := tk } :=
  ⟨h', tk, m', news', rfl, F, fun p hp => N p (hs p hp), hn, hJ⟩
end Mine

end

-- part M3
section
open PySem PySem.W PySem.Spec PySem.Calls PyProof.Rows
set_option maxRecDepth 100000
set_option maxHeartbeats 4000000
namespace Mine

def Bits (l : List Nat) : Prop := ∀ c ∈ l, c = 48 ∨ c = 49

theorem fw_pos {l : List Nat} {k : Nat} (h : ((Txt.slice (S l) (some (k : Int)) none).length : Int) ≠ 0) : k < l.length := by
  rw [S_from, S_len, List.length_drop] at h; omega
theorem fw_zero {l : List Nat} {k : Nat} (h : ((Txt.slice (S l) (some (k : Int)) none).length : Int) = 0) : l.drop k = [] := by
  rw [S_from, S_len] at h; exact List.length_eq_zero_iff.mp (by omega)
theorem fw_item {l r : List Nat} {k : Nat} {b : Bool} (h1 : k < l.length) (h2 : k < r.length) (h : (Txt.item (S l) (k : Int) == Txt.item (S r) (k : Int)) = b) : (decide (l.getD k 0 = r.getD k 0)) = b := by
  rw [S_item l k h1, S_item r k h2] at h
  rw [← h]
  by_cases e : l.getD k 0 = r.getD k 0
  · rw [decide_eq_true e, e]; exact (beq_self_eq_true _).symm
  · have : ¬ S [l.getD k 0] = S [r.getD k 0] := by rw [S_inj]; simpa using e
    rw [decide_eq_false e]
    exact (beq_eq_false_iff_ne.mpr this).symm
theorem fw_step {l r : List Nat} {k : Nat} (hk : ∀ j, j < k → l.getD j 0 = r.getD j 0) (ha : ((Txt.slice (S l) (some (k : Int)) none).length : Int) ≠ 0) (hb : ((Txt.slice (S r) (some (k : Int)) none).length : Int) ≠ 0)
    (h : (Txt.item (S l) (k : Int) == Txt.item (S r) (k : Int)) = true) : k + 1 ≤ l.length ∧ k + 1 ≤ r.length ∧ ∀ j, j < k + 1 → l.getD j 0 = r.getD j 0 := by
  have h1 := fw_pos ha
  have h2 := fw_pos hb
  refine ⟨h1, h2, fun j hj => ?_⟩
  by_cases e : j < k
  · exact hk j e
  · have : j = k := by omega
    subst this
    simpa using fw_item h1 h2 h
theorem fw_ne {l r : List Nat} {k : Nat} (hk : ∀ j, j < k → l.getD j 0 = r.getD j 0) (ha : ((Txt.slice (S l) (some (k : Int)) none).length : Int) ≠ 0) (hb : ((Txt.slice (S r) (some (k : Int)) none).length : Int) ≠ 0)
    (h : (Txt.item (S l) (k : Int) == Txt.item (S r) (k : Int)) = false) : sp l r = (l.drop k, r.drop k) := by
  have h1 := fw_pos ha
  have h2 := fw_pos hb
  have h3 := fw_item h1 h2 h
  rw [sp_drop k l r hk (by omega) (by omega)]
  refine sp_stop (by simp; omega) (by simp; omega) ?_
  simpa using h3
theorem fw_a {l r : List Nat} {k : Nat} (hk : ∀ j, j < k → l.getD j 0 = r.getD j 0) (h1 : k ≤ l.length) (h2 : k ≤ r.length) (ha : ((Txt.slice (S l) (some (k : Int)) none).length : Int) = 0) : sp l r = (l.drop k, r.drop k) := by
  rw [sp_drop k l r hk h1 h2, fw_zero ha, sp_nil_l]
theorem fw_b {l r : List Nat} {k : Nat} (hk : ∀ j, j < k → l.getD j 0 = r.getD j 0) (h1 : k ≤ l.length) (h2 : k ≤ r.length) (ha : ((Txt.slice (S r) (some (k : Int)) none).length : Int) = 0) : sp l r = (l.drop k, r.drop k) := by
  rw [sp_drop k l r hk h1 h2, fw_zero ha, sp_nil_r]

theorem lower_bit {c : Nat} (h : c = 48 ∨ c = 49) : Txt.lower (S [c]) = S [c] := by
  rcases h with rfl | rfl <;> decide +kernel
theorem Bits.getD {l : List Nat} (h : Bits l) {i : Nat} (hi : i < l.length) : l.getD i 0 = 48 ∨ l.getD i 0 = 49 := by
  refine h _ ?_
  rw [List.getD_eq_getElem?_getD, List.getElem?_eq_getElem hi]
  exact List.getElem_mem hi
theorem subAt (w : World) {a b : List Nat} {i j : Nat} (ta tb : Tok) (hi : i < b.length) (hj : j < a.length) (ba : Bits a) (bb : Bits b) :
    Gives w 55 1 [.str (Txt.item (S b) (i : Int)) ta, .str (Txt.item (S a) (j : Int)) tb] (fun _ => True) (fun _ v _ => ∃ t, v = .int (if b.getD i 0 = a.getD j 0 then 0 else 2) t) := by
  rw [S_item b i hi, S_item a j hj]
  have h := subCost w (S [b.getD i 0]) (S [a.getD j 0]) ta tb (Nat.le_of_eq (S_len _)) (Nat.le_of_eq (S_len _)) (lower_bit (bb.getD hi)) (lower_bit (ba.getD hj))
  have e : (S [b.getD i 0] = S [a.getD j 0]) = (b.getD i 0 = a.getD j 0) := by rw [S_inj]; simp
  simp only [e] at h
  exact h

section
variable {prog : Program} {w : World} {A : Around} {E : Value → Shared → Prop} {Q : Value → Shared → Prop} {s : Shared} {h₀ : Heap} {L : Addr} {m : Str → Option Value} {news : List (Addr × Obj)} {value slice : PySem.Expr} {p : List Nat} {t : Tok}
/-- p[:post or None] where post is nought: the value None -/
theorem orCut0 {j : Nat} {x : Int} (hx : x = -(j : Int)) (h0 : x = 0) (hF : Fr h₀ L s.heap m) (hN : News h₀ L s.heap news) (h : ∀ h' t' k, Fr h₀ L h' m → News h₀ L h' news → (S (p.take (p.length - j))).length ≤ (S p).length → Q (.str (S (p.take (p.length - j))) t') { s with heap := h', toks := k })
    (hs : subscripted slice false (.str (S p) t) (.ref s.heap.objs.size) = operate [.ref s.heap.objs.size, .str (S p) t] (getItem (.str (S p) t) (.ref s.heap.objs.size)))
    (ht : ∀ r, letTemporaryGo value (.str (S p) t) r = pure ()) (hsz : (S p).length ≤ sizeLine) :
    wpAny (model prog w) A (subscriptTail value slice (.str (S p) t) (.ref s.heap.objs.size)) Q E { s with heap := s.heap.push { cls := .type "slice", data := .fields #[.none, .none, .none] } } := by
  refine slice_strN_nn hF hN (fun h' t' k F' N' => ?_) hs ht hsz
  have e : j = 0 := by omega
  subst e
  have := h h' t' k F' N' (by rw [S_len, S_len, List.length_take]; omega)
  rw [S_all]
  simpa using this
theorem orCutS {j : Nat} {x : Int} {u : Tok} (hx : x = -(j : Int)) (h0 : x ≠ 0) (hj : j ≤ p.length) (hF : Fr h₀ L s.heap m) (hN : News h₀ L s.heap news) (h : ∀ h' t' k, Fr h₀ L h' m → News h₀ L h' news → (S (p.take (p.length - j))).length ≤ (S p).length → Q (.str (S (p.take (p.length - j))) t') { s with heap := h', toks := k })
    (hs : subscripted slice false (.str (S p) t) (.ref s.heap.objs.size) = operate [.ref s.heap.objs.size, .str (S p) t] (getItem (.str (S p) t) (.ref s.heap.objs.size)))
    (ht : ∀ r, letTemporaryGo value (.str (S p) t) r = pure ()) (hsz : (S p).length ≤ sizeLine) :
    wpAny (model prog w) A (subscriptTail value slice (.str (S p) t) (.ref s.heap.objs.size)) Q E { s with heap := s.heap.push { cls := .type "slice", data := .fields #[.none, .int x u, .none] } } := by
  refine slice_strN_ns hF hN (fun h' t' k F' N' => ?_) hs ht hsz
  rw [hx, S_toNeg p j (by omega) hj]
  exact h h' t' k F' N' (by rw [S_len, S_len, List.length_take]; omega)
theorem orItem {j : Nat} {x : Int} {u : Tok} (hx : x = -(j : Int)) (h0 : ((S (p.take (p.length - j))).length : Int) ≠ 0) (h : Q (.str (S [p.reverse.getD j 0]) s.toks) { s with toks := s.toks + 1 }) (hp : p.length ≤ 7)
    (hs : subscripted slice false (.str (S p) t) (.int (x - 1) u) = operate [.str (S p) t, .int (x - 1) u] (getItem (.str (S p) t) (.int (x - 1) u)))
    (ht : ∀ r, letTemporaryGo value (.str (S p) t) r = pure ()) :
    wpAny (model prog w) A (subscriptTail value slice (.str (S p) t) (.int (x - 1) u)) Q E s := by
  rw [S_len, List.length_take] at h0
  have hj : j < p.length := by omega
  have hl := S_len p
  refine item_str (fitsSsize_of (N := 9223372036854775808) (by omega) (by omega) (Int.le_refl _)) (by omega) (by omega) (fun _ => ?_) hs ht
  have e : x - 1 = -((j + 1 : Nat) : Int) := by omega
  rw [e, S_itemNeg p (j + 1) (by omega) (by omega)]
  have e2 : p.reverse.getD j 0 = p.getD (p.length - (j + 1)) 0 := by
    rw [List.getD_eq_getElem?_getD, List.getElem?_reverse hj, ← List.getD_eq_getElem?_getD]
    congr 1
    omega
  rw [← e2]
  exact h
end
theorem bw_pos {p : List Nat} {j : Nat} (h : ((S (p.take (p.length - j))).length : Int) ≠ 0) : j < p.length := by
  rw [S_len, List.length_take] at h; omega
theorem bw_zero {p : List Nat} {j : Nat} (h1 : j ≤ p.length) (h : ((S (p.take (p.length - j))).length : Int) = 0) : p.reverse.drop j = [] := by
  rw [S_len, List.length_take] at h
  have : p.length = j := by omega
  simp [this]
theorem bw_item {x y : Nat} {b : Bool} (h : (S [x] == S [y]) = b) : (decide (x = y)) = b := by
  rw [← h]
  by_cases e : x = y
  · rw [decide_eq_true e, e]; exact (beq_self_eq_true _).symm
  · have : ¬ S [x] = S [y] := by rw [S_inj]; simpa using e
    rw [decide_eq_false e]
    exact (beq_eq_false_iff_ne.mpr this).symm
theorem bw_step {p q : List Nat} {j : Nat} (hj : ∀ i, i < j → p.reverse.getD i 0 = q.reverse.getD i 0) (ha : ((S (p.take (p.length - j))).length : Int) ≠ 0) (hb : ((S (q.take (q.length - j))).length : Int) ≠ 0)
    (h : (S [p.reverse.getD j 0] == S [q.reverse.getD j 0]) = true) : j + 1 ≤ p.length ∧ j + 1 ≤ q.length ∧ ∀ i, i < j + 1 → p.reverse.getD i 0 = q.reverse.getD i 0 := by
  refine ⟨bw_pos ha, bw_pos hb, fun i hi => ?_⟩
  by_cases e : i < j
  · exact hj i e
  · have : i = j := by omega
    subst this
    simpa using bw_item h
theorem bw_ne {p q : List Nat} {j : Nat} (hj : ∀ i, i < j → p.reverse.getD i 0 = q.reverse.getD i 0) (ha : ((S (p.take (p.length - j))).length : Int) ≠ 0) (hb : ((S (q.take (q.length - j))).length : Int) ≠ 0)
    (h : (S [p.reverse.getD j 0] == S [q.reverse.getD j 0]) = false) : sp p.reverse q.reverse = (p.reverse.drop j, q.reverse.drop j) := by
  have h1 := bw_pos ha
  have h2 := bw_pos hb
  have h3 := bw_item h
  rw [sp_drop j p.reverse q.reverse hj (by simp; omega) (by simp; omega)]
  refine sp_stop (by simp; omega) (by simp; omega) ?_
  simpa using h3
theorem bw_a {p q : List Nat} {j : Nat} (hj : ∀ i, i < j → p.reverse.getD i 0 = q.reverse.getD i 0) (h1 : j ≤ p.length) (h2 : j ≤ q.length) (ha : ((S (p.take (p.length - j))).length : Int) = 0) : sp p.reverse q.reverse = (p.reverse.drop j, q.reverse.drop j) := by
  rw [sp_drop j p.reverse q.reverse hj (by simp; omega) (by simp; omega), bw_zero h1 ha, sp_nil_l]
theorem bw_b {p q : List Nat} {j : Nat} (hj : ∀ i, i < j → p.reverse.getD i 0 = q.reverse.getD i 0) (h1 : j ≤ p.length) (h2 : j ≤ q.length) (ha : ((S (q.take (q.length - j))).length : Int) = 0) : sp p.reverse q.reverse = (p.reverse.drop j, q.reverse.drop j) := by
  rw [sp_drop j p.reverse q.reverse hj (by simp; omega) (by simp; omega), bw_zero h2 ha, sp_nil_r]

local macro_rules | `(tactic| walk_at "subscriptTail Name Slice str ref") => `(tactic| k_extra "M3_1")
local macro_rules | `(tactic| walk_at "call ref") => `(tactic| k_extra "M3_2")
local macro_rules | `(tactic| walk_at "call type:list") => `(tactic| k_extra "M3_3")
local macro_rules | `(tactic| walk_at "subscriptTail Name BinOp str int") => `(tactic| k_extra "M3_4")

theorem lev_gives (w : World) (l r : List Nat) (ta tb tm : Tok) (hl : l.length ≤ 7) (hr : r.length ≤ 7) (bl : Bits l) (br : Bits r) :
    Gives w 62 2 [.str (S l) ta, .str (S r) tb, .int 5 tm] (fun _ => True) (fun _ v _ => ∃ t, v = .int (lev l r) t) := by
  have sl := S_len l
  have sr := S_len r
  w_top off
  k_with_none
  (k_with "M3_1" => ((with_reducible show wpAny _ _ (subscriptTail _ (Expr.Slice none (some (Expr.BoolOp _ _ _)) none _) _ _) _ _ _); (with_reducible rename Fr _ _ _ _ => F'); (with_reducible rename News _ _ _ _ => N'); first | ((refine orCut0 (s := ⟨_, _, _, _, _⟩) (by assumption) (by assumption) F' N' ?_ (by with_unfolding_all rfl) (by intro _; with_unfolding_all rfl) (by size_fits)); intro _ _ _ _ _ _; (try dsimp only)) | ((refine orCutS (s := ⟨_, _, _, _, _⟩) (by assumption) (by assumption) (by assumption) F' N' ?_ (by with_unfolding_all rfl) (by intro _; with_unfolding_all rfl) (by size_fits)); intro _ _ _ _ _ _; (try dsimp only))))
  (k_with "M3_2" => ((with_reducible show wpAny _ _ (call (Value.ref 55) [Value.str (Txt.item _ _) _, Value.str (Txt.item _ _) _]) _ _ _); (with_reducible rename Fr _ _ _ _ => F9); (with_reducible rename News _ _ _ _ => N9); k_dflt (refine' Gives.use (subAt _ _ _ (by assumption) (by assumption) (by assumption) (by assumption)) ?k1 F9 ?k3 ?k5 ?kK ?kd ?ku ?kp ?_; (case k1 => k_asm); (case k3 => k_asm); (case k5 => k_asm); (case kK => first | exact rfl | assumption); (case kd => ktr_room); (case ku => ktr_units)); (case kp => trivial); intro v9 h9 tk9 hR9 hk9; obtain ⟨t9, e9⟩ := hR9; subst e9; (have F10 := Fr.keeps F9 hk9); (have N10 := News.grown N9 hk9); clear F9 N9; (try dsimp only)))
  (k_with "M3_3" => ((with_reducible show wpAny _ _ (call (Value.type "list") [Value.ref _]) _ _ _); (with_reducible rename IsRange _ _ _ _ _ _ _ _ => R'); (with_reducible rename Fr _ _ _ _ => F'); (with_reducible rename News _ _ _ _ => N'); (refine list_rng _ rfl R' (by first | (rw [S_len]; rfl) | rfl) (by omega) F' N' ?_); intro _ _ _ _ _ _ _ _ _; (try dsimp only)))
  (k_with "M3_4" => ((with_reducible show wpAny _ _ (subscriptTail _ _ (Value.str (S _) _) (Value.int (_ - 1) _)) _ _ _); (refine orItem (by assumption) (by assumption) ?_ (by assumption) (by with_unfolding_all rfl) (by intro _; with_unfolding_all rfl)); (try dsimp only)))
  unfold Gives
  k_fill
  intro mean mg mb dp un gd cn cs fa ccd cl outer A₀ base h₀ L m s Q E B F X T hkf hdp hun hpre hret
  refine wpAny_call ?_
  k_dflt (refine' enter0 ?k1 ?k2 ?k3 ?k5 ?kA ?kF ?kK ?k6 ?k7 ?k8 ?k9 ?kB ?_ ?c2 ?c3 ?c4 ?c5; (case kA => exact rfl); (case kF => exact rfl); (case kK => assumption); (case k1 => k_asm); (case k2 => k_asm); (case k3 => k_asm); (case k5 => k_asm); (case k6 => k_is); (case k7 => k_is); (case k8 => ktr_room); (case k9 => exact BindsTo.of_eq rfl); (case c5 => decide); (case kB => exact locs rfl); (case c2 => exact rfl); (case c3 => exact rfl); (case c4 => exact rfl); k_whole; intro g' L' h' G9 FG' F' N' B' X' T'; (try dsimp only); (try k_fold))
  replace F' : Fr _ _ _ (fun y => List.lookup y [((Str.ofString "max_cost"), Value.int 5 tm), ((Str.ofString "b"), Value.str (S r) tb), ((Str.ofString "a"), Value.str (S l) ta)]) := F'
  repeat' ((fail_if_success (with_reducible show wpAny _ _ (exec (Stmt.While _ _ _ _) _) _ _ _)); (fail_if_success (with_reducible show wpAny _ _ (exec (Stmt.For _ _ _ _ _) _) _ _ _)); (fail_if_success (with_reducible show wpAny _ _ (eval (Expr.ListComp _ _ _ _) _) _ _ _)); (fail_if_success (with_reducible show wpAny _ _ (exec (Stmt.Assign _ (Expr.ListComp _ _ _ _) _) _) _ _ _)); (fail_if_success (with_reducible show Mine.Ex _ _ _ _ _)); (fail_if_success (with_reducible show WhileStep2 _ _ _ _ _ _ _ _)); (first | (k_unfold; (try dsimp only)) | walk1 | (dsimp only; walk1) | (leave1; walk_say "STEP leave1"; try dsimp only) | fail "no step"))
  · refine hret _ _ _ ⟨_, congrArg (Value.int · _) ?_⟩ (fun b o e => Fr.keep (by k_asm) b o (G9 b o e))
    unfold lev
    rw [if_pos (by simpa [S_inj] using (by assumption : (S l == S r) = true))]
  have hne : ¬ l = r := by simpa [S_inj] using (by assumption : (S l == S r) = false)
  rename News _ _ _ _ => N9
  rename Fr _ _ _ _ => F9
  k_unmd
  k_fold
  refine while_P
    (fun n m₁ news₁ => ∃ (k : Nat) (t : Tok), n = l.length - k ∧ k ≤ l.length ∧ k ≤ r.length ∧ (∀ j, j < k → l.getD j 0 = r.getD j 0) ∧ news₁ = [] ∧
      m₁ = (fun y => List.lookup y [((Str.ofString "max_cost"), Value.int 5 tm), ((Str.ofString "b"), Value.str (S r) tb), ((Str.ofString "a"), Value.str (S l) ta), ((Str.ofString "pre"), Value.int (k : Int) t)]))
    (fun m₁ news₁ => ∃ (k : Nat) (t : Tok), sp l r = (l.drop k, r.drop k) ∧ news₁ = [] ∧
      m₁ = (fun y => List.lookup y [((Str.ofString "max_cost"), Value.int 5 tm), ((Str.ofString "b"), Value.str (S r) tb), ((Str.ofString "a"), Value.str (S l) ta), ((Str.ofString "pre"), Value.int (k : Int) t)]))
    l.length F9 N9 ?hJ ?turn ?cont ?hE
  case hE => with_unfolding_all passes_own
  case hJ => exact ⟨0, _, by omega, by omega, by omega, fun j hj => absurd hj (by omega), rfl, by funext y; simp only [lk_set]; rfl⟩
  case turn =>
    clear F9 N9
    rintro n m₁ news₁ h₁ tk₁ F9 N9 ⟨k, t, rfl, hk1, hk2, hk, rfl, rfl⟩
    repeat' ((fail_if_success (with_reducible show wpAny _ _ (exec (Stmt.While _ _ _ _) _) _ _ _)); (fail_if_success (with_reducible show wpAny _ _ (exec (Stmt.For _ _ _ _ _) _) _ _ _)); (fail_if_success (with_reducible show wpAny _ _ (eval (Expr.ListComp _ _ _ _) _) _ _ _)); (fail_if_success (with_reducible show wpAny _ _ (exec (Stmt.Assign _ (Expr.ListComp _ _ _ _) _) _) _ _ _)); (fail_if_success (with_reducible show Mine.Ex _ _ _ _ _)); (fail_if_success (with_reducible show WhileStep2 _ _ _ _ _ _ _ _)); (first | (k_unfold; (try dsimp only)) | walk1 | (dsimp only; walk1) | (leave1; walk_say "STEP leave1"; try dsimp only) | fail "no step"))
    · obtain ⟨q1, q2, q3⟩ := fw_step hk (by assumption) (by assumption) (by assumption)
      exact ⟨_, _, _, _, _, rfl, by k_asm, by k_asm, by omega, k + 1, _, rfl, q1, q2, q3, rfl, by funext y; simp only [lk_set]; rfl⟩
    · exact Ex.intro (by k_asm) (by k_asm) ⟨k, _, fw_ne hk (by assumption) (by assumption) (by assumption), rfl, rfl⟩
    · exact Ex.intro (by k_asm) (by k_asm) ⟨k, _, fw_b hk hk1 hk2 (by assumption), rfl, rfl⟩
    · exact Ex.intro (by k_asm) (by k_asm) ⟨k, _, fw_a hk hk1 hk2 (by assumption), rfl, rfl⟩
  case cont =>
    clear F9 N9
    rintro m₁ news₁ h₁ tk₁ F9 N9 ⟨k, t, hsp, rfl, rfl⟩
    repeat' ((fail_if_success (with_reducible show wpAny _ _ (exec (Stmt.While _ _ _ _) _) _ _ _)); (fail_if_success (with_reducible show wpAny _ _ (exec (Stmt.For _ _ _ _ _) _) _ _ _)); (fail_if_success (with_reducible show wpAny _ _ (eval (Expr.ListComp _ _ _ _) _) _ _ _)); (fail_if_success (with_reducible show wpAny _ _ (exec (Stmt.Assign _ (Expr.ListComp _ _ _ _) _) _) _ _ _)); (fail_if_success (with_reducible show Mine.Ex _ _ _ _ _)); (fail_if_success (with_reducible show WhileStep2 _ _ _ _ _ _ _ _)); (first | (k_unfold; (try dsimp only)) | walk1 | (dsimp only; walk1) | (leave1; walk_say "STEP leave1"; try dsimp only) | fail "no step"))
    rename News _ _ _ _ => N9
    rename Fr _ _ _ _ => F9
    rw [S_from, S_from] at F9
    have lp : (l.drop k).length ≤ 7 := by rw [List.length_drop]; omega
    have lq : (r.drop k).length ≤ 7 := by rw [List.length_drop]; omega
    have bp : Bits (l.drop k) := fun c hc => bl c (List.mem_of_mem_drop hc)
    have bq : Bits (r.drop k) := fun c hc => br c (List.mem_of_mem_drop hc)
    generalize l.drop k = p at *
    generalize r.drop k = q at *
    have sp' := S_len p
    have sq' := S_len q
    k_unmd
    k_fold
    refine while_P
      (fun n m₁ news₁ => ∃ (j : Nat) (x : Int) (ta tb tm t t' : Tok), x = -(j : Int) ∧ n = p.length - j ∧ j ≤ p.length ∧ j ≤ q.length ∧ (∀ i, i < j → p.reverse.getD i 0 = q.reverse.getD i 0) ∧ news₁ = [] ∧
        m₁ = (fun y => List.lookup y [((Str.ofString "max_cost"), Value.int 5 tm), ((Str.ofString "b"), Value.str (S q) tb), ((Str.ofString "a"), Value.str (S p) ta), ((Str.ofString "pre"), Value.int (k : Int) t), ((Str.ofString "post"), Value.int x t')]))
      (fun m₁ news₁ => ∃ (j : Nat) (x : Int) (ta tb tm t t' : Tok), x = -(j : Int) ∧ j ≤ p.length ∧ j ≤ q.length ∧ sp p.reverse q.reverse = (p.reverse.drop j, q.reverse.drop j) ∧ news₁ = [] ∧
        m₁ = (fun y => List.lookup y [((Str.ofString "max_cost"), Value.int 5 tm), ((Str.ofString "b"), Value.str (S q) tb), ((Str.ofString "a"), Value.str (S p) ta), ((Str.ofString "pre"), Value.int (k : Int) t), ((Str.ofString "post"), Value.int x t')]))
      p.length F9 N9 ?hJ ?turn ?cont ?hE
    case hE => with_unfolding_all passes_own
    case hJ => exact ⟨0, 0, _, _, _, _, _, by omega, by omega, by omega, by omega, fun j hj => absurd hj (by omega), rfl, by funext y; simp only [lk_set]; rfl⟩
    case turn =>
      clear F9 N9
      rintro n m₁ news₁ h₁ tk₁ F9 N9 ⟨j, x, ta', tb', tm', t1, t2, hx, rfl, hj1, hj2, hj, rfl, rfl⟩
      repeat' ((fail_if_success (with_reducible show wpAny _ _ (exec (Stmt.While _ _ _ _) _) _ _ _)); (fail_if_success (with_reducible show wpAny _ _ (exec (Stmt.For _ _ _ _ _) _) _ _ _)); (fail_if_success (with_reducible show wpAny _ _ (eval (Expr.ListComp _ _ _ _) _) _ _ _)); (fail_if_success (with_reducible show wpAny _ _ (exec (Stmt.Assign _ (Expr.ListComp _ _ _ _) _) _) _ _ _)); (fail_if_success (with_reducible show Mine.Ex _ _ _ _ _)); (fail_if_success (with_reducible show WhileStep2 _ _ _ _ _ _ _ _)); (first | (k_unfold; (try dsimp only)) | walk1 | (dsimp only; walk1) | (leave1; walk_say "STEP leave1"; try dsimp only) | fail "no step"))
      all_goals w_strict (first
        | (have q0 := bw_step hj (by assumption) (by assumption) (by assumption)
           obtain ⟨q1, q2, q3⟩ := q0
           exact ⟨_, _, _, _, _, rfl, by k_asm, by k_asm, by omega, j + 1, x - 1, _, _, _, _, _, by omega, rfl, q1, q2, q3, rfl, by funext y; simp only [lk_set]; rfl⟩)
        | exact Ex.intro (by k_asm) (by k_asm) ⟨j, x, _, _, _, _, _, hx, hj1, hj2, bw_ne hj (by assumption) (by assumption) (by assumption), rfl, rfl⟩
        | exact Ex.intro (by k_asm) (by k_asm) ⟨j, x, _, _, _, _, _, hx, hj1, hj2, bw_b hj hj1 hj2 (by assumption), rfl, rfl⟩
        | exact Ex.intro (by k_asm) (by k_asm) ⟨j, x, _, _, _, _, _, hx, hj1, hj2, bw_a hj hj1 hj2 (by assumption), rfl, rfl⟩
        | (exfalso; omega))
    case cont =>
      clear F9 N9
      rintro m₁ news₁ h₁ tk₁ F9 N9 ⟨j, x, ta', tb', tm', t1, t2, hx, hj1, hj2, hsp2, rfl, rfl⟩
      repeat' ((fail_if_success (with_reducible show wpAny _ _ (exec _ _) _ _ _)); (first | (k_unfold; (try dsimp only)) | walk1 | (dsimp only; walk1) | (leave1; walk_say "STEP leave1"; try dsimp only) | fail "no step"))
      k_unmd
      k_fold
      refine exec_P F9 (fun m₁ news₁ => ∃ (ta tb tm t t' : Tok), news₁ = [] ∧
          m₁ = (fun y => List.lookup y [((Str.ofString "max_cost"), Value.int 5 tm), ((Str.ofString "b"), Value.str (S q) tb), ((Str.ofString "a"), Value.str (S (p.take (p.length - j))) ta), ((Str.ofString "pre"), Value.int (k : Int) t), ((Str.ofString "post"), Value.int x t')])) ?turn ?cont
      case turn =>
        repeat' ((fail_if_success (with_reducible show wpAny _ _ (exec (Stmt.While _ _ _ _) _) _ _ _)); (fail_if_success (with_reducible show wpAny _ _ (exec (Stmt.For _ _ _ _ _) _) _ _ _)); (fail_if_success (with_reducible show wpAny _ _ (eval (Expr.ListComp _ _ _ _) _) _ _ _)); (fail_if_success (with_reducible show wpAny _ _ (exec (Stmt.Assign _ (Expr.ListComp _ _ _ _) _) _) _ _ _)); (fail_if_success (with_reducible show Mine.Ex _ _ _ _ _)); (fail_if_success (with_reducible show WhileStep2 _ _ _ _ _ _ _ _)); (first | (k_unfold; (try dsimp only)) | walk1 | (dsimp only; walk1) | (leave1; walk_say "STEP leave1"; try dsimp only) | fail "no step"))
        all_goals exact Ex.intro (by k_asm) (by k_asm) ⟨_, _, _, _, _, rfl, by funext y; simp only [lk_set]; rfl⟩
      case cont =>
      clear F9 N9
      rintro m₁ news₁ h₁ tk₁ F9 N9 ⟨ta', tb', tm', t1, t2, rfl, rfl⟩
      repeat' ((fail_if_success (with_reducible show wpAny _ _ (exec _ _) _ _ _)); (first | (k_unfold; (try dsimp only)) | walk1 | (dsimp only; walk1) | (leave1; walk_say "STEP leave1"; try dsimp only) | fail "no step"))
      k_unmd
      k_fold
      refine exec_P F9 (fun m₁ news₁ => ∃ (ta tb tm t t' : Tok), news₁ = [] ∧
          m₁ = (fun y => List.lookup y [((Str.ofString "max_cost"), Value.int 5 tm), ((Str.ofString "b"), Value.str (S (q.take (q.length - j))) tb), ((Str.ofString "a"), Value.str (S (p.take (p.length - j))) ta), ((Str.ofString "pre"), Value.int (k : Int) t), ((Str.ofString "post"), Value.int x t')])) ?turn ?cont
      case turn =>
        repeat' ((fail_if_success (with_reducible show wpAny _ _ (exec (Stmt.While _ _ _ _) _) _ _ _)); (fail_if_success (with_reducible show wpAny _ _ (exec (Stmt.For _ _ _ _ _) _) _ _ _)); (fail_if_success (with_reducible show wpAny _ _ (eval (Expr.ListComp _ _ _ _) _) _ _ _)); (fail_if_success (with_reducible show wpAny _ _ (exec (Stmt.Assign _ (Expr.ListComp _ _ _ _) _) _) _ _ _)); (fail_if_success (with_reducible show Mine.Ex _ _ _ _ _)); (fail_if_success (with_reducible show WhileStep2 _ _ _ _ _ _ _ _)); (first | (k_unfold; (try dsimp only)) | walk1 | (dsimp only; walk1) | (leave1; walk_say "STEP leave1"; try dsimp only) | fail "no step"))
        all_goals exact Ex.intro (by k_asm) (by k_asm) ⟨_, _, _, _, _, rfl, by funext y; simp only [lk_set]; rfl⟩
      case cont =>
      clear F9 N9
      rintro m₁ news₁ h₁ tk₁ F9 N9 ⟨ta', tb', tm', t1, t2, rfl, rfl⟩
      have hlev : lev l r = levC (p.take (p.length - j)) (q.take (q.length - j)) := by
        unfold lev
        rw [if_neg hne, hsp]
        dsimp only
        rw [hsp2, List.reverse_drop, List.reverse_drop]
        simp
      have lu : (p.take (p.length - j)).length ≤ 7 := by rw [List.length_take]; omega
      have lv : (q.take (q.length - j)).length ≤ 7 := by rw [List.length_take]; omega
      have bu : Bits (p.take (p.length - j)) := fun c hc => bp c (List.mem_of_mem_take hc)
      have bv : Bits (q.take (q.length - j)) := fun c hc => bq c (List.mem_of_mem_take hc)
      generalize p.take (p.length - j) = u at *
      generalize q.take (q.length - j) = v at *
      clear hsp hsp2 hj1 hj2 bp bq lp lq sp' sq'
      have su := S_len u
      have sv := S_len v
      repeat' ((fail_if_success (with_reducible show wpAny _ _ (exec (Stmt.While _ _ _ _) _) _ _ _)); (fail_if_success (with_reducible show wpAny _ _ (exec (Stmt.For _ _ _ _ _) _) _ _ _)); (fail_if_success (with_reducible show wpAny _ _ (eval (Expr.ListComp _ _ _ _) _) _ _ _)); (fail_if_success (with_reducible show wpAny _ _ (exec (Stmt.Assign _ (Expr.ListComp _ _ _ _) _) _) _ _ _)); (fail_if_success (with_reducible show Mine.Ex _ _ _ _ _)); (fail_if_success (with_reducible show WhileStep2 _ _ _ _ _ _ _ _)); (fail_if_success (with_reducible show wpAny _ _ (exec (Stmt.If _ [Stmt.Assign [Expr.Tuple _ _ _] _ _] [] _) _) _ _ _)); (first | (k_unfold; (try dsimp only)) | walk1 | (dsimp only; walk1) | (leave1; walk_say "STEP leave1"; try dsimp only) | fail "no step"))
      all_goals try w_strict (refine hret _ _ _ ⟨_, congrArg (Value.int · _) ?_⟩ (fun b o e => Fr.keep (by k_asm) b o (G9 b o e)); rw [hlev]; unfold levC; rw [if_pos (by first | exact Or.inl (List.length_eq_zero_iff.mp (by omega)) | exact Or.inr (List.length_eq_zero_iff.mp (by omega)))]; rw [su, sv])
      have nu : u ≠ [] := fun e => (by assumption : ((S u).length : Int) ≠ 0) (by rw [su, e]; rfl)
      have nv : v ≠ [] := fun e => (by assumption : ((S v).length : Int) ≠ 0) (by rw [sv, e]; rfl)
      rename News _ _ _ _ => N9
      rename Fr _ _ _ _ => F9
      k_unmd
      k_fold
      refine exec_P F9 (fun m₁ news₁ => ∃ (a b : List Nat) (ta tb tm t t' : Tok), news₁ = [] ∧ a.length ≤ b.length ∧ a ≠ [] ∧ a.length ≤ 7 ∧ b.length ≤ 7 ∧ Bits a ∧ Bits b ∧ lev l r = levD a b ∧
          m₁ = (fun y => List.lookup y [((Str.ofString "max_cost"), Value.int 5 tm), ((Str.ofString "b"), Value.str (S b) tb), ((Str.ofString "a"), Value.str (S a) ta), ((Str.ofString "pre"), Value.int (k : Int) t), ((Str.ofString "post"), Value.int x t')])) ?turn ?cont
      case turn =>
        repeat' ((fail_if_success (with_reducible show wpAny _ _ (exec (Stmt.While _ _ _ _) _) _ _ _)); (fail_if_success (with_reducible show wpAny _ _ (exec (Stmt.For _ _ _ _ _) _) _ _ _)); (fail_if_success (with_reducible show wpAny _ _ (eval (Expr.ListComp _ _ _ _) _) _ _ _)); (fail_if_success (with_reducible show wpAny _ _ (exec (Stmt.Assign _ (Expr.ListComp _ _ _ _) _) _) _ _ _)); (fail_if_success (with_reducible show Mine.Ex _ _ _ _ _)); (fail_if_success (with_reducible show WhileStep2 _ _ _ _ _ _ _ _)); (first | (k_unfold; (try dsimp only)) | walk1 | (dsimp only; walk1) | (leave1; walk_say "STEP leave1"; try dsimp only) | fail "no step"))
        · exact Ex.intro (by k_asm) News.nil ⟨v, u, _, _, _, _, _, rfl, by omega, nv, lv, lu, bv, bu, by rw [hlev]; unfold levC; rw [if_neg (by simp [nu, nv]), if_pos (by omega)], by funext y; simp only [lk_set]; rfl⟩
        · exact Ex.intro (by k_asm) News.nil ⟨u, v, _, _, _, _, _, rfl, by omega, nu, lu, lv, bu, bv, by rw [hlev]; unfold levC; rw [if_neg (by simp [nu, nv]), if_neg (by omega)], rfl⟩
      case cont =>
      clear F9 N9
      rintro m₁ news₁ h₁ tk₁ F9 N9 ⟨a, b, ta', tb', tm', t1, t2, rfl, lab, na, la, lb, ba, bb, hlev', rfl⟩
      clear hlev nu nv lu lv bu bv su sv
      have sa := S_len a
      have sb := S_len b
      repeat' ((fail_if_success (with_reducible show wpAny _ _ (exec (Stmt.While _ _ _ _) _) _ _ _)); (fail_if_success (with_reducible show wpAny _ _ (pyIter _) _ _ _)); (fail_if_success (with_reducible show wpAny _ _ (eval (Expr.ListComp _ _ _ _) _) _ _ _)); (fail_if_success (with_reducible show wpAny _ _ (exec (Stmt.Assign _ (Expr.ListComp _ _ _ _) _) _) _ _ _)); (fail_if_success (with_reducible show Mine.Ex _ _ _ _ _)); (fail_if_success (with_reducible show WhileStep2 _ _ _ _ _ _ _ _)); (fail_if_success (with_reducible show Mine.Turn _ _ _ _ _ _ _ _ _)); (fail_if_success (with_reducible show wpAny _ _ (exec (Stmt.Assign [Expr.Name (Str.ofString "row") _] _ _) _) _ _ _)); (first | (k_unfold; (try dsimp only)) | walk1 | (dsimp only; walk1) | (leave1; walk_say "STEP leave1"; try dsimp only) | fail "no step"))
      · refine hret _ _ _ ⟨_, congrArg (Value.int · _) ?_⟩ (fun b o e => Fr.keep (by k_asm) b o (G9 b o e))
        rw [hlev']
        unfold levD
        rw [if_pos (by rw [← sa, ← sb]; assumption)]
        rfl
      have hle : lev l r = dpGo a b 0 (row0 a.length) 0 := by
        rw [hlev']
        unfold levD
        rw [if_neg (by rw [← sa, ← sb]; assumption)]
      rename News _ _ _ _ => N9
      rename Fr _ _ _ _ => F9
      k_unmd
      k_fold
      refine exec_P F9 (fun m₁ news₁ => ∃ (D : Addr) (vs : List Value) (c : Nat) (ta tb tm : Tok) (u : Str → Option Value), news₁ = [(D, listOf vs.toArray c)] ∧ IntsAre vs (row0 a.length) ∧
          m₁ = ov [((Str.ofString "max_cost"), Value.int 5 tm), ((Str.ofString "b"), Value.str (S b) tb), ((Str.ofString "a"), Value.str (S a) ta), ((Str.ofString "row"), Value.ref D)] u) ?turn ?cont
      case turn =>
        repeat' ((fail_if_success (with_reducible show wpAny _ _ (exec (Stmt.While _ _ _ _) _) _ _ _)); (fail_if_success (with_reducible show wpAny _ _ (exec (Stmt.For _ _ _ _ _) _) _ _ _)); (fail_if_success (with_reducible show wpAny _ _ (eval (Expr.ListComp _ _ _ _) _) _ _ _)); (fail_if_success (with_reducible show wpAny _ _ (exec (Stmt.Assign _ (Expr.ListComp _ _ _ _) _) _) _ _ _)); (fail_if_success (with_reducible show Mine.Ex _ _ _ _ _)); (fail_if_success (with_reducible show WhileStep2 _ _ _ _ _ _ _ _)); (first | (k_unfold; (try dsimp only)) | walk1 | (dsimp only; walk1) | (leave1; walk_say "STEP leave1"; try dsimp only) | fail "no step"))
        refine Ex.intro (by k_asm) (by k_asm) ⟨_, _, _, _, _, _, _, rfl, ?_, ov_self _ _ ⟨rfl, rfl, rfl, rfl, trivial⟩⟩
        rename IntsAre _ _ => I9
        rw [sa] at I9
        exact I9
      case cont =>
      clear F9 N9
      rintro m₁ news₁ h₁ tk₁ F9 N9 ⟨D, vs, c, ta', tb', tm', u, rfl, I9, rfl⟩
      dsimp only [ov] at F9
      repeat' ((fail_if_success (with_reducible show wpAny _ _ (exec (Stmt.While _ _ _ _) _) _ _ _)); (fail_if_success (with_reducible show wpAny _ _ (pyIter _) _ _ _)); (fail_if_success (with_reducible show wpAny _ _ (eval (Expr.ListComp _ _ _ _) _) _ _ _)); (fail_if_success (with_reducible show wpAny _ _ (exec (Stmt.Assign _ (Expr.ListComp _ _ _ _) _) _) _ _ _)); (fail_if_success (with_reducible show Mine.Ex _ _ _ _ _)); (fail_if_success (with_reducible show WhileStep2 _ _ _ _ _ _ _ _)); (fail_if_success (with_reducible show Mine.Turn _ _ _ _ _ _ _ _ _)); (first | (k_unfold; (try dsimp only)) | walk1 | (dsimp only; walk1) | (leave1; walk_say "STEP leave1"; try dsimp only) | fail "no step"))
      rename IsRange _ _ 0 _ _ _ _ _ => R9
      rename News _ _ _ _ => N9
      rename Fr _ _ _ _ => F9
      rw [sb] at R9
      k_unmd
      refine forR rfl b.length (fun i m₁ news₁ => ∃ (vs : List Value) (c : Nat) (row : List Int) (res : Int) (ta tb tm t : Tok) (u : Str → Option Value), news₁ = [(D, listOf vs.toArray c)] ∧ IntsAre vs row ∧ row.length = a.length ∧
          dpGo a (b.drop i) ((i : Int) * 2) row res = lev l r ∧
          m₁ = ov [((Str.ofString "max_cost"), Value.int 5 tm), ((Str.ofString "b"), Value.str (S b) tb), ((Str.ofString "a"), Value.str (S a) ta), ((Str.ofString "row"), Value.ref D), ((Str.ofString "result"), Value.int res t)] u)
        rfl R9 rfl (by omega) F9 N9 ?hJ ?turn ?done
      case hJ => exact ⟨_, _, _, _, _, _, _, _, _, rfl, I9, by simp [row0], by rw [hle]; simp, ov_self _ _ ⟨rfl, rfl, rfl, rfl, rfl, trivial⟩⟩
      case turn =>
        clear F9 N9 I9
        rintro i ti m₁ news₁ h tk I oI hi ⟨vs, c, row, res, ta1, tb1, tm1, t1, u1, rfl, I9, hrow, hgo, rfl⟩ hlt hne F9 N9
        dsimp only [ov] at F9
        have hDI : @Ne Nat D I := hne _ (List.mem_singleton.mpr rfl)
        repeat' ((fail_if_success (with_reducible show wpAny _ _ (exec (Stmt.While _ _ _ _) _) _ _ _)); (fail_if_success (with_reducible show wpAny _ _ (pyIter _) _ _ _)); (fail_if_success (with_reducible show wpAny _ _ (eval (Expr.ListComp _ _ _ _) _) _ _ _)); (fail_if_success (with_reducible show wpAny _ _ (exec (Stmt.Assign _ (Expr.ListComp _ _ _ _) _) _) _ _ _)); (fail_if_success (with_reducible show Mine.Ex _ _ _ _ _)); (fail_if_success (with_reducible show WhileStep2 _ _ _ _ _ _ _ _)); (fail_if_success (with_reducible show Mine.Turn _ _ _ _ _ _ _ _ _)); (first | (k_unfold; (try dsimp only)) | walk1 | (dsimp only; walk1) | (leave1; walk_say "STEP leave1"; try dsimp only) | fail "no step"))
        rename IsRange _ _ 0 _ _ _ _ _ => R9
        rename News _ _ _ _ => N9
        rename Fr _ _ _ _ => F9
        rw [sa] at R9
        k_unmd
        refine forR rfl a.length (fun j m₁ news₁ => ∃ (vs : List Value) (c : Nat) (ta tb tm tr td tn tc : Tok) (u : Str → Option Value), news₁ = [(I, oI), (D, listOf vs.toArray c)] ∧
            IntsAre vs (dpAt (b.getD i 0) a row ((i : Int) * 2) j).row ∧
            m₁ = ov [((Str.ofString "minimum"), Value.int (dpAt (b.getD i 0) a row ((i : Int) * 2) j).mn tn),
              ((Str.ofString "result"), Value.int (dpAt (b.getD i 0) a row ((i : Int) * 2) j).res tr),
              ((Str.ofString "distance"), Value.int (dpAt (b.getD i 0) a row ((i : Int) * 2) j).dist td),
              ((Str.ofString "bchar"), Value.str (Txt.item (S b) (i : Int)) tc),
              ((Str.ofString "max_cost"), Value.int 5 tm), ((Str.ofString "b"), Value.str (S b) tb), ((Str.ofString "a"), Value.str (S a) ta), ((Str.ofString "row"), Value.ref D)] u)
          rfl R9 rfl (by omega) F9 N9 ?hJ2 ?turn2 ?done2
        case hJ2 => exact ⟨_, _, _, _, _, _, _, _, _, _, rfl, I9, ov_self _ _ ⟨rfl, rfl, rfl, rfl, rfl, rfl, rfl, rfl, trivial⟩⟩
        case turn2 =>
          clear F9 N9 I9
          rintro j tj m₁ news₁ h tk I2 oI2 hj ⟨vs, c, ta1, tb1, tm1, tr, td, tn, tc, u1, rfl, I9, rfl⟩ hlt2 hne2 F9 N9
          dsimp only [ov] at F9
          have hDI2 : @Ne Nat D I2 := hne2 (D, listOf vs.toArray c) (List.Mem.tail _ (List.Mem.head _))
          have hII2 : @Ne Nat I I2 := hne2 (I, oI) (List.Mem.head _)
          have hlr : (dpAt (b.getD i 0) a row ((i : Int) * 2) j).row.length = a.length := by rw [dpAt_len]; exact hrow
          simp only [dpAt_succ]
          generalize dpAt (b.getD i 0) a row ((i : Int) * 2) j = st at *
          repeat' ((fail_if_success (with_reducible show wpAny _ _ (exec (Stmt.While _ _ _ _) _) _ _ _)); (fail_if_success (with_reducible show wpAny _ _ (pyIter _) _ _ _)); (fail_if_success (with_reducible show wpAny _ _ (eval (Expr.ListComp _ _ _ _) _) _ _ _)); (fail_if_success (with_reducible show wpAny _ _ (exec (Stmt.Assign _ (Expr.ListComp _ _ _ _) _) _) _ _ _)); (fail_if_success (with_reducible show Mine.Ex _ _ _ _ _)); (fail_if_success (with_reducible show WhileStep2 _ _ _ _ _ _ _ _)); (fail_if_success (with_reducible show Mine.Turn _ _ _ _ _ _ _ _ _)); (first | (k_unfold; (try dsimp only)) | walk1 | (dsimp only; walk1) | (leave1; walk_say "STEP leave1"; try dsimp only) | fail "no step"))
          · rename (_ < DP.mn _) => hmn
            refine Turn.next (by k_asm) (by k_asm) (fun p hp => hp) (fun p hp => ?_) ⟨_, _, _, _, _, _, _, _, _, _, rfl, by k_asm, ov_self _ _ ⟨someInt (if_pos hmn).symm, rfl, rfl, rfl, rfl, rfl, rfl, rfl, trivial⟩⟩
            rcases List.mem_cons.mp hp with rfl | hp
            · exact hII2
            · rw [List.mem_singleton.mp hp]; exact hDI2
          · rename (¬ (_ < DP.mn _)) => hmn
            refine Turn.next (by k_asm) (by k_asm) (fun p hp => hp) (fun p hp => ?_) ⟨_, _, _, _, _, _, _, _, _, _, rfl, by k_asm, ov_self _ _ ⟨someInt (if_neg hmn).symm, rfl, rfl, rfl, rfl, rfl, rfl, rfl, trivial⟩⟩
            rcases List.mem_cons.mp hp with rfl | hp
            · exact hII2
            · rw [List.mem_singleton.mp hp]; exact hDI2
        case done2 =>
          clear F9 N9 I9
          rintro m₁ news₁ h tk ⟨vs, c, ta1, tb1, tm1, tr, td, tn, tc, u1, rfl, I9, rfl⟩ F9 N9
          dsimp only [ov] at F9
          rw [dpGo_drop hi] at hgo
          have hlr : (dpAt (b.getD i 0) a row ((i : Int) * 2) a.length).row.length = a.length := by rw [dpAt_len]; exact hrow
          generalize dpAt (b.getD i 0) a row ((i : Int) * 2) a.length = st at *
          repeat' ((fail_if_success (with_reducible show wpAny _ _ (exec (Stmt.While _ _ _ _) _) _ _ _)); (fail_if_success (with_reducible show wpAny _ _ (pyIter _) _ _ _)); (fail_if_success (with_reducible show wpAny _ _ (eval (Expr.ListComp _ _ _ _) _) _ _ _)); (fail_if_success (with_reducible show wpAny _ _ (exec (Stmt.Assign _ (Expr.ListComp _ _ _ _) _) _) _ _ _)); (fail_if_success (with_reducible show Mine.Ex _ _ _ _ _)); (fail_if_success (with_reducible show WhileStep2 _ _ _ _ _ _ _ _)); (fail_if_success (with_reducible show Mine.Turn _ _ _ _ _ _ _ _ _)); (first | (k_unfold; (try dsimp only)) | walk1 | (dsimp only; walk1) | (leave1; walk_say "STEP leave1"; try dsimp only) | fail "no step"))
          · unfold Turn
            dsimp only
            repeat' (first | (k_unfold; (try dsimp only)) | walk1 | (dsimp only; walk1) | (leave1; walk_say "STEP leave1"; try dsimp only) | fail "no step")
            refine hret _ _ _ ⟨_, congrArg (Value.int · _) ?_⟩ (fun b o e => Fr.keep (by k_asm) b o (G9 b o e))
            rw [if_pos (by assumption)] at hgo
            exact hgo
          · rw [if_neg (by assumption), show (i : Int) * 2 + 2 = ((i + 1 : Nat) : Int) * 2 by omega] at hgo
            refine Turn.next (by k_asm) (by k_asm) (fun p hp => hp) (fun p hp => ?_) ⟨_, _, _, _, _, _, _, _, _, rfl, I9, hlr, hgo, ov_self _ _ ⟨rfl, rfl, rfl, rfl, rfl, trivial⟩⟩
            rw [List.mem_singleton.mp hp]; exact hDI
      case done =>
        clear F9 N9 I9
        rintro m₁ news₁ h tk ⟨vs, c, row, res, ta1, tb1, tm1, t1, u1, rfl, I9, hrow, hgo, rfl⟩ F9 N9
        dsimp only [ov] at F9
        rw [List.drop_length] at hgo
        repeat' (first | (k_unfold; (try dsimp only)) | walk1 | (dsimp only; walk1) | (leave1; walk_say "STEP leave1"; try dsimp only) | fail "no step")
        refine hret _ _ _ ⟨_, congrArg (Value.int · _) ?_⟩ (fun b o e => Fr.keep (by k_asm) b o (G9 b o e))
        exact hgo
end Mine

end

-- part M4
section
open PySem PySem.W PySem.Spec PySem.Calls PyProof.Rows
set_option maxRecDepth 100000
set_option maxHeartbeats 4000000
namespace Mine

section
variable {prog : Program} {w : World} {A : Around} {E : Value → Shared → Prop} {s : Shared} {env : Env} {h₀ : Heap} {L : Addr} {m : Str → Option Value}
/-- a comprehension by what holds between its turns -/
theorem rest_inv {elt : PySem.Expr} {x : Str} {scope : Scope} {cl : List (Str × Addr)} {Sx : List (Addr × Obj) → Prop} {P : Nat → Value → Prop} {Fin : List Value → List (Addr × Obj) → Prop} {n : Nat} {news : List (Addr × Obj)}
    (J : Nat → List Value → List (Addr × Obj) → Prop) (h0 : J 0 [] news)
    (step : ∀ i ys nw v I oI C oC D m₂ h tk (E' : Value → Shared → Prop), i < n → J i ys nw → P i v → LCg.NsObj oC m₂ → m₂ x = some v → Fr h₀ L h m → News h₀ L h ((I, oI) :: (C, oC) :: (D, LCg.lst ys) :: nw) → LCg.Off3 I C D nw → ((@Ne Nat I C) ∧ (@Ne Nat I D) ∧ (@Ne Nat C D)) →
      wpAny (model prog w) A (eval elt (compEnvC scope cl C env)) (LCg.CompEnd h₀ L m { s with heap := h, toks := tk } I oI C oC D (LCg.lst ys) Sx (fun y nw' => J (i + 1) (ys ++ [y]) nw')) E' { s with heap := h, toks := tk })
    (fin : ∀ ys nw, J n ys nw → Fin ys nw) : LCg.CompRest prog w A h₀ L m env elt x scope cl s Sx P Fin n 0 [] news := by
  have key : ∀ k i ys nw, i + k = n → J i ys nw → LCg.CompRest prog w A h₀ L m env elt x scope cl s Sx P Fin k i ys nw := by
    intro k
    induction k with
    | zero =>
      intro i ys nw hi hJ
      have : i = n := by omega
      subst this
      exact LCg.CompRest.zero (fin _ _ hJ)
    | succ k ih =>
      intro i ys nw hi hJ
      refine LCg.CompRest.succ fun v I oI C oC D m₂ h tk E' hP hC hx F N off hne => ?_
      refine wpAny_mono (step i ys nw v I oI C oC D m₂ h tk E' (by omega) hJ hP hC hx F N off hne) (fun y s₂ q => ?_) fun _ _ e => e
      obtain ⟨h', tk', news', e, F', N', off', hS, hJ'⟩ := q
      exact ⟨h', tk', news', e, F', N', off', hS, ih (i + 1) _ _ (by omega) hJ'⟩
  exact key n 0 [] news (by omega) h0
theorem src_range {elt : PySem.Expr} {x : Str} {scope : Scope} {cl : List (Str × Addr)} {Fin : Shared → List Value → List (Addr × Obj) → Prop} {r : Addr} {b : Int} {t u v : Tok} {news : List (Addr × Obj)} {s₁ : Shared} (n : Nat)
    (hh : A.handled = none) (F : Fr h₀ L s₁.heap m) (N : News h₀ L s₁.heap news) (hr : IsRange s₁.heap r 0 b 1 t u v) (hb : b = (n : Int)) (hn : n ≤ 1000)
    (h : ∀ g, LCg.CompRest prog w A h₀ L m env elt x scope cl { s₁ with heap := g } (fun _ => True) (fun (i : Nat) (v : Value) => ∃ t, v = Value.int (i : Int) t) (Fin { s₁ with heap := g }) n 0 [] news) :
    LCg.CompSrc prog w A h₀ L m env elt x scope cl Fin (.ref r) s₁ := by
  subst hb
  have hsz : Builtin.Range.rangeSize 0 (n : Int) 1 = ((n : Nat) : Int) := by
    unfold Builtin.Range.rangeSize
    by_cases h : (0 : Int) < n
    · rw [if_pos (by decide), if_pos h]; omega
    · rw [if_pos (by decide), if_neg h]; omega
  have hsmall : Builtin.Range.small 0 (n : Int) 1 = true := by
    refine small_one ?_ ?_ ?_ ?_ <;> first | omega | decide
  refine LCg.CompSrc.range hh F N hr hsmall hsz (by rw [sizeLine_eq]; omega) fun g => ?_
  have e : (fun (i : Nat) (v : Value) => ∃ t, v = Value.int (0 + (i : Int)) t) = fun (i : Nat) (v : Value) => ∃ t, v = Value.int (i : Int) t := by funext i v; rw [Int.zero_add]
  rw [e]
  exact h g
/-- the same, with one test -/
theorem rest_invT {ct elt : PySem.Expr} {x : Str} {scope : Scope} {cl : List (Str × Addr)} {Sx : List (Addr × Obj) → Prop} {P : Nat → Value → Prop} {Fin : List Value → List (Addr × Obj) → Prop} {n : Nat} {news : List (Addr × Obj)}
    (J : Nat → List Value → List (Addr × Obj) → Prop) (h0 : J 0 [] news)
    (step : ∀ i ys nw v I oI C oC D m₂ h tk (E' : Value → Shared → Prop), i < n → J i ys nw → P i v → LCg.NsObj oC m₂ → m₂ x = some v → Fr h₀ L h m → News h₀ L h ((I, oI) :: (C, oC) :: (D, LCg.lst ys) :: nw) → LCg.Off3 I C D nw → ((@Ne Nat I C) ∧ (@Ne Nat I D) ∧ (@Ne Nat C D)) →
      wpAny (model prog w) A (isTrue ct (compEnvC scope cl C env) (eval ct (compEnvC scope cl C env))) (fun ok s' => if ok = true then
        wpAny (model prog w) A (eval elt (compEnvC scope cl C env)) (LCg.CompEnd h₀ L m { s with heap := h, toks := tk } I oI C oC D (LCg.lst ys) Sx (fun y nw' => J (i + 1) (ys ++ [y]) nw')) E' s'
        else LCg.CompEnd h₀ L m { s with heap := h, toks := tk } I oI C oC D (LCg.lst ys) Sx (fun _ nw' => J (i + 1) ys nw') Value.none s') E' { s with heap := h, toks := tk })
    (fin : ∀ ys nw, J n ys nw → Fin ys nw) : LCt.CompRestT prog w A h₀ L m env ct elt x scope cl s Sx P Fin n 0 [] news := by
  have key : ∀ k i ys nw, i + k = n → J i ys nw → LCt.CompRestT prog w A h₀ L m env ct elt x scope cl s Sx P Fin k i ys nw := by
    intro k
    induction k with
    | zero =>
      intro i ys nw hi hJ
      have : i = n := by omega
      subst this
      exact LCt.CompRestT.zero (fin _ _ hJ)
    | succ k ih =>
      intro i ys nw hi hJ
      refine LCt.CompRestT.succ fun v I oI C oC D m₂ h tk E' hP hC hx F N off hne => ?_
      refine wpAny_mono (step i ys nw v I oI C oC D m₂ h tk E' (by omega) hJ hP hC hx F N off hne) (fun ok s₂ q => ?_) fun _ _ e => e
      cases ok with
      | true =>
        rw [if_pos rfl] at q ⊢
        refine wpAny_mono q (fun y s₂ q => ?_) fun _ _ e => e
        obtain ⟨h', tk', news', e, F', N', off', hS, hJ'⟩ := q
        exact ⟨h', tk', news', e, F', N', off', hS, ih (i + 1) _ _ (by omega) hJ'⟩
      | false =>
        rw [if_neg (by simp)] at q ⊢
        obtain ⟨h', tk', news', e, F', N', off', hS, hJ'⟩ := q
        exact ⟨h', tk', news', e, F', N', off', hS, ih (i + 1) _ _ (by omega) hJ'⟩
  exact key n 0 [] news (by omega) h0
theorem src_rangeT {ct elt : PySem.Expr} {x : Str} {scope : Scope} {cl : List (Str × Addr)} {Fin : Shared → List Value → List (Addr × Obj) → Prop} {r : Addr} {b : Int} {t u v : Tok} {news : List (Addr × Obj)} {s₁ : Shared} (n : Nat)
    (hh : A.handled = none) (F : Fr h₀ L s₁.heap m) (N : News h₀ L s₁.heap news) (hr : IsRange s₁.heap r 0 b 1 t u v) (hb : b = (n : Int)) (hn : n ≤ 1000)
    (h : ∀ g, LCt.CompRestT prog w A h₀ L m env ct elt x scope cl { s₁ with heap := g } (fun _ => True) (fun (i : Nat) (v : Value) => ∃ t, v = Value.int (i : Int) t) (Fin { s₁ with heap := g }) n 0 [] news) :
    LCt.CompSrcT prog w A h₀ L m env ct elt x scope cl Fin (.ref r) s₁ := by
  subst hb
  have hsz : Builtin.Range.rangeSize 0 (n : Int) 1 = ((n : Nat) : Int) := by
    unfold Builtin.Range.rangeSize
    by_cases h : (0 : Int) < n
    · rw [if_pos (by decide), if_pos h]; omega
    · rw [if_pos (by decide), if_neg h]; omega
  have hsmall : Builtin.Range.small 0 (n : Int) 1 = true := by
    refine small_one ?_ ?_ ?_ ?_ <;> first | omega | decide
  refine LCt.CompSrcT.range hh F N hr hsmall hsz (by rw [sizeLine_eq]; omega) fun g => ?_
  have e : (fun (i : Nat) (v : Value) => ∃ t, v = Value.int (0 + (i : Int)) t) = fun (i : Nat) (v : Value) => ∃ t, v = Value.int (i : Int) t := by funext i v; rw [Int.zero_add]
  rw [e]
  exact h g
end

def wordL (v n : Nat) : List Nat := (List.range n).map fun k => 48 + v / 2 ^ k % 2

theorem wordL_len (v n : Nat) : (wordL v n).length = n := by simp [wordL]
theorem bit01 (v i : Nat) : Txt.item (Str.ofString "01") (((v : Int).fdiv (2 ^ (i : Int).toNat)).fmod 2) = S [48 + v / 2 ^ i % 2] := by
  have e1 : (v : Int).fdiv (2 ^ (i : Int).toNat) = ((v / 2 ^ i : Nat) : Int) := by
    rw [Int.toNat_natCast, Int.fdiv_eq_ediv_of_nonneg _ (by exact_mod_cast Nat.zero_le (2 ^ i))]
    norm_cast
  rw [e1, Int.fmod_eq_emod_of_nonneg _ (by decide)]
  have e2 : ((v / 2 ^ i : Nat) : Int) % 2 = ((v / 2 ^ i % 2 : Nat) : Int) := by norm_cast
  rw [e2]
  rcases Nat.mod_two_eq_zero_or_one (v / 2 ^ i) with h | h <;> rw [h] <;> decide +kernel
theorem strs_snoc {ys : List Value} {ss : List Str} (h : StrsAre ys ss) (x : Str) (t : Tok) : StrsAre (ys ++ [.str x t]) (ss ++ [x]) := StrsAre.append' h (.cons x t .nil)
theorem word_step {v n i : Nat} (hi : i < n) : ((wordL v n).take (i + 1)).map (fun c => S [c]) = ((wordL v n).take i).map (fun c => S [c]) ++ [S [48 + v / 2 ^ i % 2]] := by
  have h : (wordL v n)[i]? = some (48 + v / 2 ^ i % 2) := by simp [wordL, hi]
  rw [List.take_add_one, h]
  simp
theorem join_S : ∀ l : List Nat, Txt.join (Str.ofString "") (l.map fun c => S [c]) = S l := by
  intro l
  show Builtin.Str.glued _ _ = _
  rw [StrLaws.glued_eq_join]
  have e0 : Str.ofString "" = S [] := by decide +kernel
  rw [e0]
  have app : ∀ a b : List Nat, S a ++ S b = S (a ++ b) := fun a b => by
    apply Str.ext'
    show a.toArray ++ b.toArray = (a ++ b).toArray
    simp
  induction l with
  | nil => rfl
  | cons a r ih =>
    cases r with
    | nil => rfl
    | cons b r =>
      show S [a] ++ S [] ++ Str.join (S []) ((b :: r).map fun c => S [c]) = _
      rw [ih, app, app]
      rfl
theorem sum_ones (l : List Nat) : ((l.map fun c => S [c]).map (·.length)).sum = l.length := by
  induction l with
  | nil => rfl
  | cons a r ih =>
    simp only [List.map_cons, List.sum_cons, List.length_cons]
    rw [ih, S_len]
    simp; omega

theorem lst_isList {h₀ h : Heap} {L D : Addr} {ys : List Value} {news : List (Addr × Obj)} (N : News h₀ L h news) (hm : (D, LCg.lst ys) ∈ news) : h.IsList D ys.toArray := ⟨_, (N _ hm).1, rfl, _, rfl⟩

theorem word_gives (w : World) (v n : Nat) (ta tb : Tok) (hv : v < 128) (hn : n ≤ 7) :
    Gives w 67 1 [.int (v : Int) ta, .int (n : Int) tb] (fun _ => True) (fun _ x _ => ∃ t, x = .str (S (wordL v n)) t) := by
  w_top off
  k_with_none
  unfold Gives
  k_fill
  intro mean mg mb dp un gd cn cs fa ccd cl outer A₀ base h₀ L m s Q E B F X T hkf hdp hun hpre hret
  refine wpAny_call ?_
  k_dflt (refine' enterC ?k1 ?k2 ?k3 ?k5 ?kA ?kF ?kK ?k6 ?k7 ?k8 ?k9 ?kB ?kD ?_ ?c2 ?c3 ?c4; (case kA => exact rfl); (case kF => exact rfl); (case kK => assumption); (case k1 => k_asm); (case k2 => k_asm); (case k3 => k_asm); (case k5 => k_asm); (case k6 => k_is); (case k7 => k_is); (case k8 => ktr_room); (case k9 => exact BindsTo.of_eq rfl); (case kB => exact rfl); (case kD => decide +kernel); (case c2 => exact rfl); (case c3 => exact rfl); (case c4 => exact rfl); k_whole; intro g' L' h' tk' cells' G9 FG' F' N' Y' B' X' T'; k_cells Y'; (try dsimp only); (try k_fold))
  replace F' : Fr g' L' h' (ov [((Str.ofString "size"), Value.int (n : Int) tb)] (fun _ => none)) := F'
  dsimp only [ov] at F'
  rename _ = Data.cell _ => hcell
  repeat' ((fail_if_success (with_reducible show wpAny _ _ (exec (Stmt.While _ _ _ _) _) _ _ _)); (fail_if_success (with_reducible show wpAny _ _ (exec (Stmt.For _ _ _ _ _) _) _ _ _)); (fail_if_success (with_reducible show wpAny _ _ (eval (Expr.ListComp _ _ _ _) _) _ _ _)); (fail_if_success (with_reducible show wpAny _ _ (exec (Stmt.Assign _ (Expr.ListComp _ _ _ _) _) _) _ _ _)); (fail_if_success (with_reducible show Mine.Ex _ _ _ _ _)); (fail_if_success (with_reducible show WhileStep2 _ _ _ _ _ _ _ _)); (first | (k_unfold; (try dsimp only)) | walk1 | (dsimp only; walk1) | (leave1; walk_say "STEP leave1"; try dsimp only) | fail "no step"))
  rename News _ _ _ _ => N9
  rename Fr _ _ _ _ => F9
  k_unmd
  k_fold
  refine LCg.ListComp_U F9 rfl (by decide) rfl (by decide) rfl ?_
  repeat' ((fail_if_success (with_reducible show LCg.CompSrc _ _ _ _ _ _ _ _ _ _ _ _ _ _)); (first | (k_unfold; (try dsimp only)) | walk1 | (dsimp only; walk1) | (leave1; walk_say "STEP leave1"; try dsimp only) | fail "no step"))
  rename IsRange _ _ 0 _ _ _ _ _ => R9
  rename News _ _ _ _ => N9
  rename Fr _ _ _ _ => F9
  refine src_range n rfl F9 N9 R9 rfl (by omega) fun g => rest_inv (fun i ys nw => nw = _ ∧ StrsAre ys (((wordL v n).take i).map fun c => S [c])) ⟨rfl, .nil⟩ ?step ?fin
  case step =>
    clear F9 N9
    rintro i ys nw vi I oI C oC D m₂ h tk E' hi ⟨rfl, hys⟩ ⟨ti, rfl⟩ hC hx F9 N9 off ⟨ne1, ne2, ne3⟩
    dsimp only
    repeat' ((fail_if_success (with_reducible show wpAny _ _ (exec (Stmt.While _ _ _ _) _) _ _ _)); (fail_if_success (with_reducible show wpAny _ _ (exec (Stmt.For _ _ _ _ _) _) _ _ _)); (fail_if_success (with_reducible show wpAny _ _ (eval (Expr.ListComp _ _ _ _) _) _ _ _)); (fail_if_success (with_reducible show wpAny _ _ (exec (Stmt.Assign _ (Expr.ListComp _ _ _ _) _) _) _ _ _)); (fail_if_success (with_reducible show Mine.Ex _ _ _ _ _)); (fail_if_success (with_reducible show WhileStep2 _ _ _ _ _ _ _ _)); (first | (k_unfold; (try dsimp only)) | walk1 | (dsimp only; walk1) | (leave1; walk_say "STEP leave1"; try dsimp only) | fail "no step"))
    refine LCg.CompEnd.intro (by k_asm) (by k_asm) _ (fun p hp => hp) off trivial ⟨rfl, ?_⟩
    rw [word_step hi, bit01]
    exact strs_snoc hys _ _
  case fin =>
    clear F9 N9
    rintro ys nw ⟨rfl, hys⟩ D h tk F9 N9 off
    rw [List.take_of_length_le (Nat.le_of_eq (wordL_len v n))] at hys
    repeat' (first | (k_unfold; (try dsimp only)) | walk1 | (dsimp only; walk1) | (leave1; walk_say "STEP leave1"; try dsimp only) | fail "no step")
    refine join_list (lst_isList N9 (List.Mem.head _)) hys (by rw [sum_ones, List.length_map, wordL_len, show (Str.ofString "").length = 0 by decide +kernel]; omega) (fun _ _ => ?_)
    rw [join_S]
    repeat' (first | (k_unfold; (try dsimp only)) | walk1 | (dsimp only; walk1) | (leave1; walk_say "STEP leave1"; try dsimp only) | fail "no step")
    exact hret _ _ _ ⟨_, rfl⟩ (fun b o e => Fr.keep (by k_asm) b o (G9 b o e))
end Mine

end

-- part M5
section
open PySem PySem.W PySem.Spec PySem.Calls PyProof.Rows
set_option maxRecDepth 100000
set_option maxHeartbeats 4000000
namespace Mine

def bitB (v k : Nat) : Bool := v / 2 ^ k % 2 == 1
def ones (v n : Nat) : List Nat := (List.range n).filter (bitB v)
def chk (n v : Nat) : Nat := ((ones v n).map (· + 1)).sum % (2 * n)
def codeTo (n a i : Nat) : List (List Nat) := ((List.range i).filter fun v => chk n v == a).map fun v => wordL v n
def codeL (n a : Nat) : List (List Nat) := codeTo n a (2 ^ n)

local macro_rules | `(tactic| walk_at "call ref") => `(tactic| k_extra "M5_1")
theorem bit_test {v n k : Nat} (hk : k < n) : (Txt.item (S (wordL v n)) (k : Int) == Str.ofString "1") = bitB v k := by
  have h : (wordL v n).getD k 0 = 48 + v / 2 ^ k % 2 := by simp [wordL, hk]
  rw [S_item _ _ (by rw [wordL_len]; exact hk), h]
  unfold bitB
  rcases Nat.mod_two_eq_zero_or_one (v / 2 ^ k) with h | h <;> rw [h] <;> decide +kernel
theorem filter_succ (p : Nat → Bool) (k : Nat) : (List.range (k + 1)).filter p = (List.range k).filter p ++ (if p k then [k] else []) := by
  rw [List.range_succ, List.filter_append]
  cases h : p k <;> simp [h]
theorem codeTo_len (n a : Nat) : ∀ i, (codeTo n a i).length ≤ i := fun i => by
  unfold codeTo
  rw [List.length_map]
  exact Nat.le_trans (List.length_filter_le _ _) (Nat.le_of_eq List.length_range)
theorem codeTo_succ (n a i : Nat) : codeTo n a (i + 1) = codeTo n a i ++ (if chk n i == a then [wordL i n] else []) := by
  unfold codeTo
  rw [filter_succ, List.map_append]
  cases h : chk n i == a <;> simp
theorem chk_sum (n i : Nat) : (((List.range n).filter (bitB i)).map fun (q : Nat) => (q : Int) + 1).sum.fmod (2 * (n : Int)) = ((chk n i : Nat) : Int) := by
  have e : ∀ l : List Nat, (l.map fun (q : Nat) => (q : Int) + 1).sum = (((l.map (· + 1)).sum : Nat) : Int) := by
    intro l
    induction l with
    | nil => rfl
    | cons a r ih =>
      simp only [List.map_cons, List.sum_cons]
      rw [ih]
      omega
  rw [e, Int.fmod_eq_emod_of_nonneg _ (by omega)]
  unfold chk ones
  norm_cast
theorem fresh_of {h g : Heap} {D : Addr} (G : Kept h g) (e : g.get? D = none) : h.get? D = none := by
  cases q : h.get? D with
  | none => rfl
  | some o => rw [G D o q] at e; cases e
theorem ints_snoc {ys : List Value} {ns : List Int} (h : IntsAre ys ns) (x : Int) (t : Tok) : IntsAre (ys ++ [.int x t]) (ns ++ [x]) := IntsAre.append h (.cons x t .nil)

theorem code_gives (w : World) (n a : Nat) (ta tb : Tok) (h4 : 4 ≤ n) (h6 : n ≤ 6) (ha : a < 12) :
    Gives w 72 2 [.int (n : Int) ta, .int (a : Int) tb] (fun _ => True) (fun h x h' => ∃ D vs c, x = .ref D ∧ h.get? D = none ∧ h'.get? D = some (listOf vs.toArray c) ∧ StrsAre vs ((codeL n a).map S)) := by
  w_top off
  k_with_none
  (k_with "M5_1" => ((with_reducible show wpAny _ _ (call (Value.ref 67) [Value.int (Nat.cast _) _, Value.int (Nat.cast _) _]) _ _ _); (with_reducible rename Fr _ _ _ _ => F9); (with_reducible rename News _ _ _ _ => N9); k_dflt (refine' Gives.use (word_gives _ _ _ _ _ (by omega) (by omega)) ?k1 F9 ?k3 ?k5 ?kK ?kd ?ku ?kp ?_; (case k1 => k_asm); (case k3 => k_asm); (case k5 => k_asm); (case kK => first | exact rfl | assumption); (case kd => ktr_room); (case ku => ktr_units)); (case kp => trivial); intro v9 h9 tk9 hR9 hk9; obtain ⟨t9, e9⟩ := hR9; subst e9; (have F10 := Fr.keeps F9 hk9); (have N10 := News.grown N9 hk9); clear F9 N9; (try dsimp only)))
  unfold Gives
  k_fill
  intro mean mg mb dp un gd cn cs fa ccd cl outer A₀ base h₀ L m s Q E B F X T hkf hdp hun hpre hret
  refine wpAny_call ?_
  k_dflt (refine' enterC ?k1 ?k2 ?k3 ?k5 ?kA ?kF ?kK ?k6 ?k7 ?k8 ?k9 ?kB ?kD ?_ ?c2 ?c3 ?c4; (case kA => exact rfl); (case kF => exact rfl); (case kK => assumption); (case k1 => k_asm); (case k2 => k_asm); (case k3 => k_asm); (case k5 => k_asm); (case k6 => k_is); (case k7 => k_is); (case k8 => ktr_room); (case k9 => exact BindsTo.of_eq rfl); (case kB => exact rfl); (case kD => decide +kernel); (case c2 => exact rfl); (case c3 => exact rfl); (case c4 => exact rfl); k_whole; intro g' L' h' tk' cells' G9 FG' F' N' Y' B' X' T'; k_cells Y'; (try dsimp only); (try k_fold))
  replace F' : Fr g' L' h' (ov [((Str.ofString "a"), Value.int (a : Int) tb), ((Str.ofString "n"), Value.int (n : Int) ta)] (fun _ => none)) := F'
  dsimp only [ov] at F'
  rename _ = Data.cell _ => hcell
  repeat' ((fail_if_success (with_reducible show wpAny _ _ (exec (Stmt.While _ _ _ _) _) _ _ _)); (fail_if_success (with_reducible show wpAny _ _ (pyIter _) _ _ _)); (fail_if_success (with_reducible show wpAny _ _ (eval (Expr.ListComp _ _ _ _) _) _ _ _)); (fail_if_success (with_reducible show wpAny _ _ (exec (Stmt.Assign _ (Expr.ListComp _ _ _ _) _) _) _ _ _)); (fail_if_success (with_reducible show Mine.Ex _ _ _ _ _)); (fail_if_success (with_reducible show WhileStep2 _ _ _ _ _ _ _ _)); (fail_if_success (with_reducible show Mine.Turn _ _ _ _ _ _ _ _ _)); (fail_if_success (with_reducible show wpAny _ _ (exec (Stmt.Assign [Expr.Name (Str.ofString "code") _] _ _) _) _ _ _)); (first | (k_unfold; (try dsimp only)) | walk1 | (dsimp only; walk1) | (leave1; walk_say "STEP leave1"; try dsimp only) | fail "no step"))
  rename News _ _ _ _ => N9
  rename Fr _ _ _ _ => F9
  k_unmd
  k_fold
  refine exec_P F9 (fun m₁ news₁ => ∃ (D : Addr) (oc : Obj) (cv : Option Value) (u : Str → Option Value), @LT.lt Nat _ (L' + 1) D ∧ oc.data = Data.cell cv ∧ news₁ = [(D, listOf ([] : List Value).toArray 0), (L' + 1, oc)] ∧
      m₁ = ov [((Str.ofString "code"), Value.ref D), ((Str.ofString "a"), Value.int (a : Int) tb), ((Str.ofString "n"), Value.int (n : Int) ta)] u) ?turn ?cont
  case turn =>
    repeat' ((fail_if_success (with_reducible show wpAny _ _ (exec (Stmt.While _ _ _ _) _) _ _ _)); (fail_if_success (with_reducible show wpAny _ _ (exec (Stmt.For _ _ _ _ _) _) _ _ _)); (fail_if_success (with_reducible show wpAny _ _ (eval (Expr.ListComp _ _ _ _) _) _ _ _)); (fail_if_success (with_reducible show wpAny _ _ (exec (Stmt.Assign _ (Expr.ListComp _ _ _ _) _) _) _ _ _)); (fail_if_success (with_reducible show Mine.Ex _ _ _ _ _)); (fail_if_success (with_reducible show WhileStep2 _ _ _ _ _ _ _ _)); (first | (k_unfold; (try dsimp only)) | walk1 | (dsimp only; walk1) | (leave1; walk_say "STEP leave1"; try dsimp only) | fail "no step"))
    exact Ex.intro (by k_asm) (by k_asm) ⟨_, _, _, _, by assumption, hcell, rfl, ov_self _ _ ⟨rfl, rfl, rfl, trivial⟩⟩
  case cont =>
  clear F9 N9 hcell
  rintro m₁ news₁ h₁ tk₁ F9 N9 ⟨D, oc, cv, u, hDL, hcell, rfl, rfl⟩
  dsimp only [ov] at F9
  have hpow : 2 ^ n ≤ 64 := by
    have : n = 4 ∨ n = 5 ∨ n = 6 := by omega
    rcases this with rfl | rfl | rfl <;> decide
  repeat' ((fail_if_success (with_reducible show wpAny _ _ (exec (Stmt.While _ _ _ _) _) _ _ _)); (fail_if_success (with_reducible show wpAny _ _ (pyIter _) _ _ _)); (fail_if_success (with_reducible show wpAny _ _ (eval (Expr.ListComp _ _ _ _) _) _ _ _)); (fail_if_success (with_reducible show wpAny _ _ (exec (Stmt.Assign _ (Expr.ListComp _ _ _ _) _) _) _ _ _)); (fail_if_success (with_reducible show Mine.Ex _ _ _ _ _)); (fail_if_success (with_reducible show WhileStep2 _ _ _ _ _ _ _ _)); (fail_if_success (with_reducible show Mine.Turn _ _ _ _ _ _ _ _ _)); (fail_if_success (with_reducible show LCg.CompSrc _ _ _ _ _ _ _ _ _ _ _ _ _ _)); (fail_if_success (with_reducible show LCt.CompSrcT _ _ _ _ _ _ _ _ _ _ _ _ _ _ _)); (fail_if_success (with_reducible show LCg.CompEnd _ _ _ _ _ _ _ _ _ _ _ _ _ _)); (fail_if_success (with_reducible show Exists _)); (first | (k_unfold; (try dsimp only)) | walk1 | (dsimp only; walk1) | (leave1; walk_say "STEP leave1"; try dsimp only) | fail "no step"))
  rename IsRange _ _ 0 _ _ _ _ _ => R9
  rename News _ _ _ _ => N9
  rename Fr _ _ _ _ => F9
  k_unmd
  refine forR rfl (2 ^ n) (fun i m₁ news₁ => ∃ (oc : Obj) (cv : Option Value) (vs : List Value) (c : Nat) (u : Str → Option Value), oc.data = Data.cell cv ∧ news₁ = [(D, listOf vs.toArray c), (L' + 1, oc)] ∧ StrsAre vs ((codeTo n a i).map S) ∧
      m₁ = ov [((Str.ofString "code"), Value.ref D), ((Str.ofString "a"), Value.int (a : Int) tb), ((Str.ofString "n"), Value.int (n : Int) ta)] u)
    rfl R9 (by rw [Int.toNat_natCast]; norm_cast) (by omega) F9 N9 ?hJ ?turn ?done
  case hJ => exact ⟨_, _, _, _, _, hcell, rfl, .nil, ov_self _ _ ⟨rfl, rfl, rfl, trivial⟩⟩
  case turn =>
    clear F9 N9 hcell
    rintro i ti m₁ news₁ h tk I oI hi ⟨oc, cv, vs, c, u1, hcell, rfl, hvs, rfl⟩ hlt hne F9 N9
    dsimp only [ov] at F9
    have hDI : @Ne Nat D I := hne (D, listOf vs.toArray c) (List.Mem.head _)
    have hCI : @Ne Nat (L' + 1) I := hne (L' + 1, oc) (List.Mem.tail _ (List.Mem.head _))
    have hi2 : i < 128 := by omega
    repeat' ((fail_if_success (with_reducible show wpAny _ _ (exec (Stmt.While _ _ _ _) _) _ _ _)); (fail_if_success (with_reducible show wpAny _ _ (pyIter _) _ _ _)); (fail_if_success (with_reducible show wpAny _ _ (eval (Expr.ListComp _ _ _ _) _) _ _ _)); (fail_if_success (with_reducible show wpAny _ _ (exec (Stmt.Assign _ (Expr.ListComp _ _ _ _) _) _) _ _ _)); (fail_if_success (with_reducible show Mine.Ex _ _ _ _ _)); (fail_if_success (with_reducible show WhileStep2 _ _ _ _ _ _ _ _)); (fail_if_success (with_reducible show Mine.Turn _ _ _ _ _ _ _ _ _)); (fail_if_success (with_reducible show LCg.CompSrc _ _ _ _ _ _ _ _ _ _ _ _ _ _)); (fail_if_success (with_reducible show LCt.CompSrcT _ _ _ _ _ _ _ _ _ _ _ _ _ _ _)); (fail_if_success (with_reducible show LCg.CompEnd _ _ _ _ _ _ _ _ _ _ _ _ _ _)); (fail_if_success (with_reducible show Exists _)); (first | (k_unfold; (try dsimp only)) | walk1 | (dsimp only; walk1) | (leave1; walk_say "STEP leave1"; try dsimp only) | fail "no step"))
    rename News _ _ _ _ => N9
    rename Fr _ _ _ _ => F9
    k_unmd
    k_fold
    refine LCt.ListComp_T F9 rfl (by decide) rfl (by decide) rfl ?_
    repeat' ((fail_if_success (with_reducible show wpAny _ _ (exec (Stmt.While _ _ _ _) _) _ _ _)); (fail_if_success (with_reducible show wpAny _ _ (pyIter _) _ _ _)); (fail_if_success (with_reducible show wpAny _ _ (eval (Expr.ListComp _ _ _ _) _) _ _ _)); (fail_if_success (with_reducible show wpAny _ _ (exec (Stmt.Assign _ (Expr.ListComp _ _ _ _) _) _) _ _ _)); (fail_if_success (with_reducible show Mine.Ex _ _ _ _ _)); (fail_if_success (with_reducible show WhileStep2 _ _ _ _ _ _ _ _)); (fail_if_success (with_reducible show Mine.Turn _ _ _ _ _ _ _ _ _)); (fail_if_success (with_reducible show LCg.CompSrc _ _ _ _ _ _ _ _ _ _ _ _ _ _)); (fail_if_success (with_reducible show LCt.CompSrcT _ _ _ _ _ _ _ _ _ _ _ _ _ _ _)); (fail_if_success (with_reducible show LCg.CompEnd _ _ _ _ _ _ _ _ _ _ _ _ _ _)); (fail_if_success (with_reducible show Exists _)); (first | (k_unfold; (try dsimp only)) | walk1 | (dsimp only; walk1) | (leave1; walk_say "STEP leave1"; try dsimp only) | fail "no step"))
    rename IsRange _ _ 0 _ _ _ _ _ => R8
    rename News _ _ _ _ => N9
    rename Fr _ _ _ _ => F9
    refine src_rangeT n rfl F9 N9 R8 rfl (by omega) fun g => rest_invT (fun k ys nw => nw = _ ∧ IntsAre ys (((List.range k).filter (bitB i)).map fun (q : Nat) => (q : Int) + 1)) ⟨rfl, .nil⟩ ?step ?fin
    case step =>
      clear F9 N9
      rintro k ys nw vi I2 oI2 C oC D2 m₂ h tk E' hk ⟨rfl, hys⟩ ⟨ti, rfl⟩ hC hx F9 N9 off ⟨ne1, ne2, ne3⟩
      have sw : (S (wordL i n)).length = n := by rw [S_len, wordL_len]
      dsimp only
      repeat' ((fail_if_success (with_reducible show wpAny _ _ (exec (Stmt.While _ _ _ _) _) _ _ _)); (fail_if_success (with_reducible show wpAny _ _ (pyIter _) _ _ _)); (fail_if_success (with_reducible show wpAny _ _ (eval (Expr.ListComp _ _ _ _) _) _ _ _)); (fail_if_success (with_reducible show wpAny _ _ (exec (Stmt.Assign _ (Expr.ListComp _ _ _ _) _) _) _ _ _)); (fail_if_success (with_reducible show Mine.Ex _ _ _ _ _)); (fail_if_success (with_reducible show WhileStep2 _ _ _ _ _ _ _ _)); (fail_if_success (with_reducible show Mine.Turn _ _ _ _ _ _ _ _ _)); (fail_if_success (with_reducible show LCg.CompSrc _ _ _ _ _ _ _ _ _ _ _ _ _ _)); (fail_if_success (with_reducible show LCt.CompSrcT _ _ _ _ _ _ _ _ _ _ _ _ _ _ _)); (fail_if_success (with_reducible show LCg.CompEnd _ _ _ _ _ _ _ _ _ _ _ _ _ _)); (fail_if_success (with_reducible show Exists _)); (first | (k_unfold; (try dsimp only)) | walk1 | (dsimp only; walk1) | (leave1; walk_say "STEP leave1"; try dsimp only) | fail "no step"))
      · rename (Txt.item _ _ == _) = true => hb
        rw [bit_test hk] at hb
        refine LCg.CompEnd.intro (by k_asm) (by k_asm) _ (fun p hp => hp) off trivial ⟨rfl, ?_⟩
        rw [filter_succ, hb, List.map_append]
        exact ints_snoc hys _ _
      · rename (Txt.item _ _ == _) = false => hb
        rw [bit_test hk] at hb
        refine LCg.CompEnd.intro (by k_asm) (by k_asm) _ (fun p hp => hp) off trivial ⟨rfl, ?_⟩
        rw [filter_succ, hb]
        simpa using hys
    case fin =>
      clear F9 N9
      rintro ys nw ⟨rfl, hys⟩ D2 h tk F9 N9 off
      replace N9 : News g' _ h ((D2, listOf ys.toArray ys.length) :: _) := N9
      obtain ⟨o1, o2, o3, -⟩ := off
      dsimp only at o1 o2 o3
      have hvl : vs.length ≤ 64 := by
        have h1 := hvs.length
        have h2 := codeTo_len n a i
        rw [List.length_map] at h1
        omega
      repeat' ((fail_if_success (with_reducible show wpAny _ _ (exec (Stmt.While _ _ _ _) _) _ _ _)); (fail_if_success (with_reducible show wpAny _ _ (pyIter _) _ _ _)); (fail_if_success (with_reducible show wpAny _ _ (eval (Expr.ListComp _ _ _ _) _) _ _ _)); (fail_if_success (with_reducible show wpAny _ _ (exec (Stmt.Assign _ (Expr.ListComp _ _ _ _) _) _) _ _ _)); (fail_if_success (with_reducible show Mine.Ex _ _ _ _ _)); (fail_if_success (with_reducible show WhileStep2 _ _ _ _ _ _ _ _)); (fail_if_success (with_reducible show Mine.Turn _ _ _ _ _ _ _ _ _)); (fail_if_success (with_reducible show LCg.CompSrc _ _ _ _ _ _ _ _ _ _ _ _ _ _)); (fail_if_success (with_reducible show LCt.CompSrcT _ _ _ _ _ _ _ _ _ _ _ _ _ _ _)); (fail_if_success (with_reducible show LCg.CompEnd _ _ _ _ _ _ _ _ _ _ _ _ _ _)); (fail_if_success (with_reducible show Exists _)); (first | (k_unfold; (try dsimp only)) | walk1 | (dsimp only; walk1) | (leave1; walk_say "STEP leave1"; try dsimp only) | fail "no step"))
      · rename Int.fmod _ _ = _ => hc
        rw [chk_sum] at hc
        have hc' : (chk n i == a) = true := by simpa using (by omega : chk n i = a)
        rename News _ _ _ _ => N9
        simp only [List.push_toArray] at N9
        refine Turn.next (by k_asm) N9 (fun p hp => List.Mem.tail _ hp) (fun p hp => ?_) ⟨_, _, _, _, _, by assumption, rfl, ?_, ov_self _ _ ⟨rfl, rfl, rfl, trivial⟩⟩
        · rcases List.mem_cons.mp hp with rfl | hp
          · exact hDI
          · rw [List.mem_singleton.mp hp]; exact hCI
        · rw [codeTo_succ, hc', List.map_append]
          exact strs_snoc hvs _ _
      · rename Int.fmod _ _ ≠ _ => hc
        rw [chk_sum] at hc
        have hc' : (chk n i == a) = false := by simpa using (by omega : ¬ chk n i = a)
        refine Turn.next (by k_asm) (by k_asm) (fun p hp => List.Mem.tail _ hp) (fun p hp => ?_) ⟨_, _, _, _, _, by assumption, rfl, ?_, ov_self _ _ ⟨rfl, rfl, rfl, trivial⟩⟩
        · rcases List.mem_cons.mp hp with rfl | hp
          · exact hDI
          · rw [List.mem_singleton.mp hp]; exact hCI
        · rw [codeTo_succ, hc']
          simpa using hvs
  case done =>
    clear F9 N9 hcell
    rintro m₁ news₁ h tk ⟨oc, cv, vs, c, u1, hcell, rfl, hvs, rfl⟩ F9 N9
    dsimp only [ov] at F9
    repeat' (first | (k_unfold; (try dsimp only)) | walk1 | (dsimp only; walk1) | (leave1; walk_say "STEP leave1"; try dsimp only) | fail "no step")
    exact hret _ _ _ ⟨D, vs, c, rfl, fresh_of G9 (N9 _ (List.Mem.head _)).2.2, (N9 _ (List.Mem.head _)).1, hvs⟩ (fun b o e => Fr.keep (by k_asm) b o (G9 b o e))
end Mine

end

-- part M6
section
open PySem PySem.W PySem.Spec PySem.Calls PyProof.Rows
set_option maxRecDepth 100000
set_option maxHeartbeats 4000000
namespace Mine

abbrev E2 (elt it1 it2 : PySem.Expr) (x1 x2 : Str) (p1 p2 : Pos) (scope : Scope) (pos : Pos) : PySem.Expr := .ListComp elt [⟨.Name x1 p1, it1, [], 0⟩, ⟨.Name x2 p2, it2, [], 0⟩] scope pos

theorem turn_d1 (elt it1 it2 : PySem.Expr) (x1 x2 : Str) (p1 p2 : Pos) (scope : Scope) (pos : Pos) (it acc : Value) (cenv : Env) :
    compTurn (E2 elt it1 it2 x1 x2 p1 p2 scope pos) 1 it acc cenv = (standAt it2.pos >>= fun _ => pyNext it >>= fun r => match r with
      | none => pure (.done .next)
      | some v => letOwnedTupleGo (.Name x2 p2) it v >>= fun _ => assign (.Name x2 p2) cenv v >>= fun _ =>
        (eval elt cenv >>= fun x => call (.builtin "list.append") [acc, x] >>= fun _ => pure ()) >>= fun _ =>
          again (.compLoop (E2 elt it1 it2 x1 x2 p1 p2 scope pos) 1 it acc cenv)) := by rfl
theorem turn_d0 (elt it1 it2 : PySem.Expr) (x1 x2 : Str) (p1 p2 : Pos) (scope : Scope) (pos : Pos) (it acc : Value) (cenv : Env) :
    compTurn (E2 elt it1 it2 x1 x2 p1 p2 scope pos) 0 it acc cenv = (standAt it1.pos >>= fun _ => pyNext it >>= fun r => match r with
      | none => pure (.done .next)
      | some v => letOwnedTupleGo (.Name x1 p1) it v >>= fun _ => assign (.Name x1 p1) cenv v >>= fun _ =>
        eval it2 cenv >>= fun x => standAt it2.pos >>= fun _ => foldedSetIterable it2 cenv x >>= fun x => holding [x] (pyIter x) >>= fun it' =>
          runOwn (.compStart (E2 elt it1 it2 x1 x2 p1 p2 scope pos) 1 it' acc cenv) cenv >>= fun _ =>
          again (.compLoop (E2 elt it1 it2 x1 x2 p1 p2 scope pos) 0 it acc cenv)) := by rfl

section
variable {prog : Program} {w : World} {A : Around} {E : Value → Shared → Prop} {R : Result → Shared → Prop} {s : Shared}

theorem loop_d1 {elt it1 it2 : PySem.Expr} {x1 x2 : Str} {p1 p2 : Pos} {scope : Scope} {pos : Pos} {it acc : Value} {cenv : Env} (I : Nat → Shared → Prop)
    (turn : ∀ n s, I n s → wpAny (model prog w) A (pyNext it) (fun r s₁ => match r with
      | none => R (.ok .next) s₁
      | some v => wpAny (model prog w) A (assign (.Name x2 p2) cenv v) (fun _ s₂ => wpAny (model prog w) A (eval elt cenv) (fun x s₃ =>
          wpAny (model prog w) A (call (.builtin "list.append") [acc, x]) (fun _ s₄ => ∃ m, m < n ∧ I m s₄) (notedBy (model prog w) A cenv fun e s' => R (.error e) s') s₃)
          (notedBy (model prog w) A cenv fun e s' => R (.error e) s') s₂) (notedBy (model prog w) A cenv fun e s' => R (.error e) s') s₁) (notedBy (model prog w) A cenv fun e s' => R (.error e) s') s)
    (n : Nat) (h : I n s) : codeAny (model prog w) A (.compLoop (E2 elt it1 it2 x1 x2 p1 p2 scope pos) 1 it acc cenv) R s := by
  refine codeAny_loop rfl I (fun n s hI => ?_) n h
  show wpAny _ _ ((compTurn (E2 elt it1 it2 x1 x2 p1 p2 scope pos) 1 it acc cenv).onRaise (fun x => do noteFrame x cenv; theTreesLotGoes x)) _ _ s
  refine wpAny_noted ?_
  rw [turn_d1]
  refine wpAny_bind (wpAny_standAt (wpAny_bind (wpAny_mono (turn n s hI) (fun r s₁ h₁ => ?_) fun _ _ h' => h')))
  cases r with
  | none => exact wpAny_pure h₁
  | some v =>
    refine wpAny_bind (wpAny_of_eq (a := ()) (by rfl) ?_)
    exact wpAny_bind (wpAny_mono h₁ (fun _ s₂ h₂ => wpAny_bind (wpAny_bind (wpAny_mono h₂ (fun x s₃ h₃ => wpAny_bind (wpAny_mono h₃
      (fun _ s₄ h₄ => wpAny_pure (wpAny_pure ⟨rfl, h₄⟩)) fun _ _ h' => h')) fun _ _ h' => h'))) fun _ _ h' => h')

theorem loop_d0 {elt it1 it2 : PySem.Expr} {x1 x2 : Str} {p1 p2 : Pos} {scope : Scope} {pos : Pos} {it acc : Value} {cenv : Env} (I : Nat → Shared → Prop)
    (hs : ∀ x, foldedSetIterable it2 cenv x = pure x)
    (turn : ∀ n s, I n s → wpAny (model prog w) A (pyNext it) (fun r s₁ => match r with
      | none => R (.ok .next) s₁
      | some v => wpAny (model prog w) A (assign (.Name x1 p1) cenv v) (fun _ s₂ => wpAny (model prog w) A (eval it2 cenv) (fun x s₃ => wpAny (model prog w) A (pyIter x) (fun it' s₄ =>
          codeAny (model prog w) A (.compStart (E2 elt it1 it2 x1 x2 p1 p2 scope pos) 1 it' acc cenv) (fun r s₅ => match r with
            | .ok _ => ∃ m, m < n ∧ I m s₅
            | .error _ => False) s₄)
          (notedBy (model prog w) A cenv fun e s' => R (.error e) s') s₃)
          (notedBy (model prog w) A cenv fun e s' => R (.error e) s') s₂) (notedBy (model prog w) A cenv fun e s' => R (.error e) s') s₁) (notedBy (model prog w) A cenv fun e s' => R (.error e) s') s)
    (n : Nat) (h : I n s) : codeAny (model prog w) A (.compLoop (E2 elt it1 it2 x1 x2 p1 p2 scope pos) 0 it acc cenv) R s := by
  refine codeAny_loop rfl I (fun n s hI => ?_) n h
  show wpAny _ _ ((compTurn (E2 elt it1 it2 x1 x2 p1 p2 scope pos) 0 it acc cenv).onRaise (fun x => do noteFrame x cenv; theTreesLotGoes x)) _ _ s
  refine wpAny_noted ?_
  rw [turn_d0]
  refine wpAny_bind (wpAny_standAt (wpAny_bind (wpAny_mono (turn n s hI) (fun r s₁ h₁ => ?_) fun _ _ h' => h')))
  cases r with
  | none => exact wpAny_pure h₁
  | some v =>
    refine wpAny_bind (wpAny_of_eq (a := ()) (by rfl) ?_)
    refine wpAny_bind (wpAny_mono h₁ (fun _ s₂ h₂ => wpAny_bind (wpAny_mono h₂ (fun x s₃ h₃ => wpAny_bind (wpAny_standAt (wpAny_bind (wpAny_of_eq (hs x) ?_)))) fun _ _ h' => h')) fun _ _ h' => h')
    refine wpAny_bind (wpAny_holding (wpAny_mono h₃ (fun it' s₄ h₄ => ?_) fun _ _ h' => h'))
    refine wpAny_bind (wpAny_runOwn (codeAny_mono h₄ fun r s₅ h₅ => ?_))
    cases r with
    | ok f => exact wpAny_pure ⟨rfl, h₅⟩
    | error e => exact h₅.elim
theorem start_d1 {elt it1 it2 : PySem.Expr} {x1 x2 : Str} {p1 p2 : Pos} {scope : Scope} {pos : Pos} {it acc : Value} {cenv : Env}
    (h0 : codeAny (model prog w) A (.compLoop (E2 elt it1 it2 x1 x2 p1 p2 scope pos) 1 it acc cenv) R s)
    (h : wpAny (model prog w) A (pyIter it) (fun it' s' => codeAny (model prog w) A (.compLoop (E2 elt it1 it2 x1 x2 p1 p2 scope pos) 1 it' acc cenv) R s')
      (notedBy (model prog w) A cenv fun x s' => R (.error x) s') s) :
    codeAny (model prog w) A (.compStart (E2 elt it1 it2 x1 x2 p1 p2 scope pos) 1 it acc cenv) R s := by
  refine codeAny_of_tree ?_
  show wpAny _ _ ((compStart (E2 elt it1 it2 x1 x2 p1 p2 scope pos) 1 it acc cenv).onRaise (fun x => do noteFrame x cenv; standAt theWindowsPlace)) _ _ s
  refine wpAny_notedAt ?_
  unfold compStart
  show wpAny _ _ (ask >>= _) _ _ s
  refine wpAny_bind (wpAny_askSetting (wpAny_ite ?_))
  split
  · first
      | exact wpAny_bind (wpAny_pure (wpAny_pure (And.intro rfl h0)))
      | exact wpAny_pure (And.intro rfl h0)
  · first
      | exact wpAny_bind (wpAny_rule (wpAny_bind (wpAny_standAt (wpAny_bind (wpAny_mono h (fun it' s' h' => wpAny_pure (And.intro rfl h')) fun _ _ x => x)))))
      | (refine wpAny_bind (wpAny_rule ?_); show wpAny _ _ (standAt it2.pos >>= _) _ _ s; exact wpAny_bind (wpAny_standAt (wpAny_bind (wpAny_mono h (fun it' s' h' => wpAny_pure (And.intro rfl h')) fun _ _ x => x))))
end

section
variable {prog : Program} {w : World} {A : Around} {E : Value → Shared → Prop} {s : Shared} {env : Env} {h₀ : Heap} {L : Addr} {m : Str → Option Value}

theorem news_same {h h' : Heap} {D : Addr} {news : List (Addr × Obj)} (N : News h₀ L h news) (hs : Heap.SameBut D h h') (off : ∀ p ∈ news, p.1 ≠ D) : News h₀ L h' news :=
  fun p hp => ⟨hs.extBut _ _ (off p hp) (N p hp).1, (N p hp).2⟩

/-- a comprehension with two fors: over range(n), and over a text's signs -/
theorem ListComp_N {elt it1 it2 : PySem.Expr} {x1 x2 : Str} {p1 p2 : Pos} {scope : Scope} {cl : List (Str × Addr)} {pos : Pos} {Q : Value → Shared → Prop} (F₀ : Fr h₀ L s.heap m) (n : Nat) (txt : Str) (J : Nat → Nat → List Value → Prop)
    (hasc : txt.cps.all (· < 128) = true) (hlen : ∀ i j ys, J i j ys → ys.length ≤ 1000)
    (hclos : closureFor scope env = pure cl) (hcell : ∀ y ∈ scope.names, y.2 ≠ .cell) (hkind : scope.kind = .function)
    (hnames : ∀ y ∈ scope.names, y.2 = .local → scope.names.lookup y.1 = some .local) (hx1 : scope.names.lookup x1 = some .local) (hx2 : scope.names.lookup x2 = some .local) (hx12 : x1 ≠ x2)
    (hs2 : ∀ C x, foldedSetIterable it2 (compEnvC scope cl C env) x = pure x)
    (ev2 : ∀ C (s' : Shared) (Q' : Value → Shared → Prop) (E' : Value → Shared → Prop), (∀ t k, Q' (.str txt t) { s' with toks := k }) → wpAny (model prog w) A (eval it2 (compEnvC scope cl C env)) Q' E' s')
    (h : wpAny (model prog w) A (eval it1 env) (fun xv s₁ => ∃ r b t u v news, xv = .ref r ∧ A.handled = none ∧ Fr h₀ L s₁.heap m ∧ News h₀ L s₁.heap news ∧ IsRange s₁.heap r 0 b 1 t u v ∧ b = (n : Int) ∧ n ≤ 100 ∧ J 0 0 [] ∧
      (∀ i ys, i < n → J i txt.cps.size ys → J (i + 1) 0 ys) ∧
      (∀ i j ys t1 c t2 I1 oI1 I2 oI2 C oC D m₂ hh tk (E' : Value → Shared → Prop), i < n → txt.cps[j]? = some c → J i j ys → LCg.NsObj oC m₂ → m₂ x1 = some (.int (i : Int) t1) → m₂ x2 = some (.str ⟨#[c]⟩ t2) → Fr h₀ L hh m → News h₀ L hh ((I2, oI2) :: (I1, oI1) :: (C, oC) :: (D, LCg.lst ys) :: news) →
        wpAny (model prog w) A (eval elt (compEnvC scope cl C env)) (fun y s₂ => ∃ h' tk', s₂ = { s₁ with heap := h', toks := tk' } ∧ Fr h₀ L h' m ∧ News h₀ L h' ((I2, oI2) :: (I1, oI1) :: (C, oC) :: (D, LCg.lst ys) :: news) ∧ J i (j + 1) (ys ++ [y])) E' { s₁ with heap := hh, toks := tk }) ∧
      (∀ ys D hh tk, J n 0 ys → Fr h₀ L hh m → News h₀ L hh ((D, LCg.lst ys) :: news) → (∀ p ∈ news, p.1 < D) → Q (.ref D) { s₁ with heap := hh, toks := tk })) E s)
    (hs : ∀ x, foldedSetIterable it1 env x = pure x := by intro _; rfl) :
    wpAny (model prog w) A (eval (E2 elt it1 it2 x1 x2 p1 p2 scope pos) env) Q E s := by
  have _ := F₀
  rw [eval_ListComp]
  refine wpAny_comprehension_free (use := none) rfl hs hclos hkind hnames (wpAny_mono h (fun xv s₁ h₁ => ?_) fun _ _ e => e)
  obtain ⟨r, b, t, u, v, news, rfl, hh, F, N, hr, rfl, hn, hJ0, hJs, elem, fin⟩ := h₁
  have hsz : Builtin.Range.rangeSize 0 (n : Int) 1 = ((n : Nat) : Int) := by
    unfold Builtin.Range.rangeSize
    by_cases h : (0 : Int) < n
    · rw [if_pos (by decide), if_pos h]; omega
    · rw [if_pos (by decide), if_neg h]; omega
  have hsmall : Builtin.Range.small 0 (n : Int) 1 = true := by
    refine small_one ?_ ?_ ?_ ?_ <;> first | omega | decide
  refine wpAny_pyIter_range hr hsmall ?_
  have hLlt : @LT.lt Nat _ L s₁.heap.objs.size := F.ns.lt
  have hnlt : ∀ p ∈ news, @LT.lt Nat _ p.1 s₁.heap.objs.size := fun p hp => Heap.lt_size (N p hp).1
  have h0lt : ∀ b o, h₀.get? b = some o → @LT.lt Nat _ b s₁.heap.objs.size := fun b o e => Heap.lt_size (F.keep b o e)
  generalize hI1 : s₁.heap.objs.size = I1 at *
  have h0none : ∀ a : Nat, I1 ≤ a → h₀.get? a = none := fun a ha => by
    cases e : h₀.get? a with
    | none => rfl
    | some o => exact absurd (h0lt a o e) (Nat.not_lt.mpr ha)
  generalize hH1 : s₁.heap.push { cls := .type "range_iterator", data := .fields #[rawInt 0, rawInt (Builtin.Range.rangeSize 0 (n : Int) 1), rawInt 1] } = H1
  have zH1 : H1.objs.size = I1 + 1 := by rw [← hH1, Heap.size_push, hI1]
  have F1 : Fr h₀ L H1 m := hH1 ▸ F.push _
  have N1 : News h₀ L H1 news := fun p hp => ⟨hH1 ▸ Heap.get?_push_of_some _ (N p hp).1, (N p hp).2⟩
  have hit1 : IsRangeIter H1 I1 (0 + ((0 : Nat) : Int) * 1) ((n : Int) - ((0 : Nat) : Int)) 1 := by
    show H1.get? I1 = _
    rw [← hH1, hsz, ← hI1]
    simpa using Heap.get?_push_size _ rfl
  have W1 : Walks prog w A I1 [I1] [I1] n (fun i v => i < n ∧ ∃ t, v = .int (0 + i * 1) t) (fun i h => IsRangeIter h I1 (0 + (i : Nat) * 1) ((n : Int) - (i : Nat)) 1) := (Walks.range hh _ 0 1 n).bound
  clear hH1 hr
  refine wpAny_newObj_type (wpAny_newFunctionEnv hcell (by intro y hy; simp at hy) (fun h₁ hns₁ hsb₁ => ?_) hkind)
  dsimp only at hns₁ hsb₁ ⊢
  rw [zH1]
  generalize hH2 : H1.push { cls := .type "list", dict := none, data := .seq ([] : List Value).toArray } = H2 at hns₁ hsb₁ ⊢
  have zH2 : H2.objs.size = I1 + 2 := by rw [← hH2, Heap.size_push, zH1]
  rw [zH2] at hns₁ hsb₁ ⊢
  have old : ∀ (b : Nat) o, b < I1 + 1 → H1.get? b = some o → h₁.get? b = some o := fun b o hb e => by
    have hb2 : b ≠ I1 + 2 := by omega
    exact hsb₁.extBut b o hb2 (Heap.get?_push_of_some _ (hH2 ▸ Heap.get?_push_of_some _ e))
  have hacc : h₁.get? (I1 + 1) = some (LCg.lst []) := by
    have hb2 : I1 + 1 ≠ I1 + 2 := by omega
    refine hsb₁.extBut _ _ hb2 (Heap.get?_push_of_some _ ?_)
    rw [← hH2, ← zH1]
    exact Heap.get?_push_size _ rfl
  have Fh : Fr h₀ L h₁ m := F1.keeps fun b o e => by
    by_cases hb : b < I1 + 1
    · exact old b o hb e
    · have := Heap.lt_size e
      rw [zH1] at this
      exact absurd this hb
  have st1 : IsRangeIter h₁ I1 (0 + ((0 : Nat) : Int) * 1) ((n : Int) - ((0 : Nat) : Int)) 1 := old I1 _ (by first | exact Nat.ne_of_lt (by assumption) | exact Nat.ne_of_gt (by assumption) | exact Nat.ne_of_lt (Nat.lt_succ_of_lt (by assumption)) | exact Nat.ne_of_lt (Nat.lt_succ_of_lt (Nat.lt_succ_of_lt (by assumption))) | exact Nat.ne_of_gt (Nat.lt_succ_of_lt (by assumption)) | exact Nat.ne_of_gt (Nat.lt_succ_of_lt (Nat.lt_succ_of_lt (by assumption))) | exact Nat.ne_of_lt (Nat.lt_succ_self _) | exact Nat.ne_of_gt (Nat.lt_succ_self _) | exact Nat.ne_of_lt (Nat.lt_succ_of_lt (Nat.lt_succ_self _)) | exact Nat.ne_of_gt (Nat.lt_succ_of_lt (Nat.lt_succ_self _)) | omega) hit1
  have Nh : News h₀ L h₁ ((I1 + 1, LCg.lst []) :: news) := fun p hp => by
    rcases List.mem_cons.mp hp with rfl | hp
    · exact ⟨hacc, (by show @Ne Nat (I1 + 1) L; (first | exact Nat.ne_of_lt (by assumption) | exact Nat.ne_of_gt (by assumption) | exact Nat.ne_of_lt (Nat.lt_succ_of_lt (by assumption)) | exact Nat.ne_of_lt (Nat.lt_succ_of_lt (Nat.lt_succ_of_lt (by assumption))) | exact Nat.ne_of_gt (Nat.lt_succ_of_lt (by assumption)) | exact Nat.ne_of_gt (Nat.lt_succ_of_lt (Nat.lt_succ_of_lt (by assumption))) | exact Nat.ne_of_lt (Nat.lt_succ_self _) | exact Nat.ne_of_gt (Nat.lt_succ_self _) | exact Nat.ne_of_lt (Nat.lt_succ_of_lt (Nat.lt_succ_self _)) | exact Nat.ne_of_gt (Nat.lt_succ_of_lt (Nat.lt_succ_self _)) | omega)), h0none _ (Nat.le_succ _)⟩
    · have := hnlt p hp
      exact ⟨old _ _ (by first | exact Nat.ne_of_lt (by assumption) | exact Nat.ne_of_gt (by assumption) | exact Nat.ne_of_lt (Nat.lt_succ_of_lt (by assumption)) | exact Nat.ne_of_lt (Nat.lt_succ_of_lt (Nat.lt_succ_of_lt (by assumption))) | exact Nat.ne_of_gt (Nat.lt_succ_of_lt (by assumption)) | exact Nat.ne_of_gt (Nat.lt_succ_of_lt (Nat.lt_succ_of_lt (by assumption))) | exact Nat.ne_of_lt (Nat.lt_succ_self _) | exact Nat.ne_of_gt (Nat.lt_succ_self _) | exact Nat.ne_of_lt (Nat.lt_succ_of_lt (Nat.lt_succ_self _)) | exact Nat.ne_of_gt (Nat.lt_succ_of_lt (Nat.lt_succ_self _)) | omega) (N1 p hp).1, (N1 p hp).2⟩
  have W2 : ∀ (I2 : Addr) (t2 : Tok), Walks prog w A I2 [I2] [I2] txt.cps.size (SignAt txt) (fun i h => h.IsStrIter I2 "str_ascii_iterator" txt t2 i) := fun I2 t2 => Walks.strAscii hh I2 txt t2
  have outer : ∀ s₃ : Shared, s₃ = { s₁ with heap := h₁, toks := s₁.toks + ([] : List (Str × Value)).length } →
      codeAny (model prog w) A (.compLoop (E2 elt it1 it2 x1 x2 p1 p2 scope pos) 0 (.ref I1) (.ref (I1 + 1)) (compEnvC scope cl (I1 + 2) env)) (compPost (model prog w) A E none Q (.ref (I1 + 1)) (I1 + 2)) s₃ := by
    rintro s₃ rfl
    refine loop_d0 (fun k s' => ∃ h' tk i ys m', s' = { s₁ with heap := h', toks := tk } ∧ i ≤ n ∧ k = n + 1 - i ∧ J i 0 ys ∧ IsRangeIter h' I1 (0 + ((i : Nat) : Int) * 1) ((n : Int) - ((i : Nat) : Int)) 1 ∧ @LE.le Nat _ (I1 + 3) h'.objs.size ∧ Fr h₀ L h' m ∧ h'.Ns (I1 + 2) m' ∧ News h₀ L h' ((I1 + 1, LCg.lst ys) :: news))
      (hs2 _) ?_ (n + 1) ⟨h₁, _, 0, [], _, rfl, Nat.zero_le _, rfl, hJ0, st1, Nat.succ_le_of_lt hns₁.lt, Fh, hns₁, Nh⟩
    rintro k s' ⟨h', tk, i, ys, m', rfl, hi, rfl, hJ, hst, hsize, F', hn', N'⟩
    by_cases hlt : i < n
    · refine W1.item i _ _ _ hlt hst fun v h₂ tk₂ hPv hst₂ hk₂ => ?_
      obtain ⟨_, t1, rfl⟩ := hPv
      have e1 : (0 : Int) + (i : Int) * 1 = (i : Int) := by omega
      rw [e1]
      have k2 : ∀ (b : Nat) o, b ≠ I1 → h'.get? b = some o → h₂.get? b = some o := fun b o hb e => hk₂ b o (fun hm => hb (List.mem_singleton.mp hm)) e
      refine wpAny_assign_Name (wpAny_storeName_local (lookup_relabel_local hx1) (hn'.at' fun o e => k2 (I1 + 2) o (by first | exact Nat.ne_of_lt (by assumption) | exact Nat.ne_of_gt (by assumption) | exact Nat.ne_of_lt (Nat.lt_succ_of_lt (by assumption)) | exact Nat.ne_of_lt (Nat.lt_succ_of_lt (Nat.lt_succ_of_lt (by assumption))) | exact Nat.ne_of_gt (Nat.lt_succ_of_lt (by assumption)) | exact Nat.ne_of_gt (Nat.lt_succ_of_lt (Nat.lt_succ_of_lt (by assumption))) | exact Nat.ne_of_lt (Nat.lt_succ_self _) | exact Nat.ne_of_gt (Nat.lt_succ_self _) | exact Nat.ne_of_lt (Nat.lt_succ_of_lt (Nat.lt_succ_self _)) | exact Nat.ne_of_gt (Nat.lt_succ_of_lt (Nat.lt_succ_self _)) | omega) e) (fun h₃ hn₃ hs₃ => ?_) (by simp [compEnvC, relabel, hkind]))
      have k3 : ∀ (b : Nat) o, b ≠ I1 → b ≠ I1 + 2 → h'.get? b = some o → h₃.get? b = some o := fun b o hb hc e => hs₃.extBut b o hc (k2 b o hb e)
      have hst₃ : IsRangeIter h₃ I1 (0 + (((i + 1 : Nat) : Nat) : Int) * 1) ((n : Int) - (((i + 1 : Nat) : Nat) : Int)) 1 := hs₃.extBut I1 _ (by show @Ne Nat I1 (I1 + 2); (first | exact Nat.ne_of_lt (by assumption) | exact Nat.ne_of_gt (by assumption) | exact Nat.ne_of_lt (Nat.lt_succ_of_lt (by assumption)) | exact Nat.ne_of_lt (Nat.lt_succ_of_lt (Nat.lt_succ_of_lt (by assumption))) | exact Nat.ne_of_gt (Nat.lt_succ_of_lt (by assumption)) | exact Nat.ne_of_gt (Nat.lt_succ_of_lt (Nat.lt_succ_of_lt (by assumption))) | exact Nat.ne_of_lt (Nat.lt_succ_self _) | exact Nat.ne_of_gt (Nat.lt_succ_self _) | exact Nat.ne_of_lt (Nat.lt_succ_of_lt (Nat.lt_succ_self _)) | exact Nat.ne_of_gt (Nat.lt_succ_of_lt (Nat.lt_succ_self _)) | omega)) hst₂
      have F₃ : Fr h₀ L h₃ m := ⟨F'.ns.at' fun o e => k3 L o (by first | exact Nat.ne_of_lt (by assumption) | exact Nat.ne_of_gt (by assumption) | exact Nat.ne_of_lt (Nat.lt_succ_of_lt (by assumption)) | exact Nat.ne_of_lt (Nat.lt_succ_of_lt (Nat.lt_succ_of_lt (by assumption))) | exact Nat.ne_of_gt (Nat.lt_succ_of_lt (by assumption)) | exact Nat.ne_of_gt (Nat.lt_succ_of_lt (Nat.lt_succ_of_lt (by assumption))) | exact Nat.ne_of_lt (Nat.lt_succ_self _) | exact Nat.ne_of_gt (Nat.lt_succ_self _) | exact Nat.ne_of_lt (Nat.lt_succ_of_lt (Nat.lt_succ_self _)) | exact Nat.ne_of_gt (Nat.lt_succ_of_lt (Nat.lt_succ_self _)) | omega) (by first | exact Nat.ne_of_lt (by assumption) | exact Nat.ne_of_gt (by assumption) | exact Nat.ne_of_lt (Nat.lt_succ_of_lt (by assumption)) | exact Nat.ne_of_lt (Nat.lt_succ_of_lt (Nat.lt_succ_of_lt (by assumption))) | exact Nat.ne_of_gt (Nat.lt_succ_of_lt (by assumption)) | exact Nat.ne_of_gt (Nat.lt_succ_of_lt (Nat.lt_succ_of_lt (by assumption))) | exact Nat.ne_of_lt (Nat.lt_succ_self _) | exact Nat.ne_of_gt (Nat.lt_succ_self _) | exact Nat.ne_of_lt (Nat.lt_succ_of_lt (Nat.lt_succ_self _)) | exact Nat.ne_of_gt (Nat.lt_succ_of_lt (Nat.lt_succ_self _)) | omega) e, fun b o e => by
        have := h0lt b o e
        exact k3 b o (by first | exact Nat.ne_of_lt (by assumption) | exact Nat.ne_of_gt (by assumption) | exact Nat.ne_of_lt (Nat.lt_succ_of_lt (by assumption)) | exact Nat.ne_of_lt (Nat.lt_succ_of_lt (Nat.lt_succ_of_lt (by assumption))) | exact Nat.ne_of_gt (Nat.lt_succ_of_lt (by assumption)) | exact Nat.ne_of_gt (Nat.lt_succ_of_lt (Nat.lt_succ_of_lt (by assumption))) | exact Nat.ne_of_lt (Nat.lt_succ_self _) | exact Nat.ne_of_gt (Nat.lt_succ_self _) | exact Nat.ne_of_lt (Nat.lt_succ_of_lt (Nat.lt_succ_self _)) | exact Nat.ne_of_gt (Nat.lt_succ_of_lt (Nat.lt_succ_self _)) | omega) (by first | exact Nat.ne_of_lt (by assumption) | exact Nat.ne_of_gt (by assumption) | exact Nat.ne_of_lt (Nat.lt_succ_of_lt (by assumption)) | exact Nat.ne_of_lt (Nat.lt_succ_of_lt (Nat.lt_succ_of_lt (by assumption))) | exact Nat.ne_of_gt (Nat.lt_succ_of_lt (by assumption)) | exact Nat.ne_of_gt (Nat.lt_succ_of_lt (Nat.lt_succ_of_lt (by assumption))) | exact Nat.ne_of_lt (Nat.lt_succ_self _) | exact Nat.ne_of_gt (Nat.lt_succ_self _) | exact Nat.ne_of_lt (Nat.lt_succ_of_lt (Nat.lt_succ_self _)) | exact Nat.ne_of_gt (Nat.lt_succ_of_lt (Nat.lt_succ_self _)) | omega) (F'.keep b o e), F'.above⟩
      have N₃ : News h₀ L h₃ ((I1 + 1, LCg.lst ys) :: news) := fun p hp => ⟨k3 p.1 _ (by
        rcases List.mem_cons.mp hp with rfl | hp
        · show I1 + 1 ≠ I1; omega
        · have := hnlt p hp; omega) (by
        rcases List.mem_cons.mp hp with rfl | hp
        · show I1 + 1 ≠ I1 + 2; omega
        · have := hnlt p hp; omega) (N' p hp).1, (N' p hp).2⟩
      refine ev2 _ _ _ _ fun t2 tk2 => ?_
      refine wpAny_pyIter_strU ?_
      have zI2 : @LE.le Nat _ (I1 + 3) h₃.objs.size := Nat.succ_le_of_lt hn₃.lt
      generalize hI2 : h₃.objs.size = I2 at *
      have hty : strIterType txt = "str_ascii_iterator" := by unfold strIterType; rw [if_pos hasc]
      rw [hty]
      generalize hH4 : h₃.push { cls := .type "str_ascii_iterator", data := .fields #[.str txt t2, .int 0 0] } = H4
      have up4 : ∀ b o, h₃.get? b = some o → H4.get? b = some o := fun b o e => hH4 ▸ Heap.get?_push_of_some _ e
      have hst4 : H4.IsStrIter I2 "str_ascii_iterator" txt t2 0 := ⟨_, by rw [← hH4, ← hI2]; exact Heap.get?_push_size _ rfl, rfl, rfl⟩
      have z4 : H4.objs.size = I2 + 1 := by rw [← hH4, Heap.size_push, hI2]
      have inner : ∀ s₄ : Shared, (∃ tk, s₄ = { s₁ with heap := H4, toks := tk }) →
          codeAny (model prog w) A (.compLoop (E2 elt it1 it2 x1 x2 p1 p2 scope pos) 1 (.ref I2) (.ref (I1 + 1)) (compEnvC scope cl (I1 + 2) env)) (fun r s₅ => match r with
            | .ok _ => ∃ q, q < n + 1 - i ∧ ∃ h' tk i ys m', s₅ = { s₁ with heap := h', toks := tk } ∧ i ≤ n ∧ q = n + 1 - i ∧ J i 0 ys ∧ IsRangeIter h' I1 (0 + ((i : Nat) : Int) * 1) ((n : Int) - ((i : Nat) : Int)) 1 ∧ @LE.le Nat _ (I1 + 3) h'.objs.size ∧ Fr h₀ L h' m ∧ h'.Ns (I1 + 2) m' ∧ News h₀ L h' ((I1 + 1, LCg.lst ys) :: news)
            | .error _ => False) s₄ := by
        rintro s₄ ⟨tk4, rfl⟩
        obtain ⟨oI1, hoI1⟩ : ∃ o, h₃.get? I1 = some o := ⟨_, hst₃⟩
        have hst_of : ∀ h : Heap, h.get? I1 = some oI1 → IsRangeIter h I1 (0 + (((i + 1 : Nat) : Nat) : Int) * 1) ((n : Int) - (((i + 1 : Nat) : Nat) : Int)) 1 := fun h e => by
          have e2 : h₃.get? I1 = some _ := hst₃
          show h.get? I1 = some _
          rw [e, ← hoI1, e2]
        have N4 : News h₀ L H4 ((I1, oI1) :: (I1 + 1, LCg.lst ys) :: news) := fun p hp => by
          rcases List.mem_cons.mp hp with rfl | hp
          · exact ⟨up4 _ _ hoI1, (by show @Ne Nat I1 L; (first | exact Nat.ne_of_lt (by assumption) | exact Nat.ne_of_gt (by assumption) | exact Nat.ne_of_lt (Nat.lt_succ_of_lt (by assumption)) | exact Nat.ne_of_lt (Nat.lt_succ_of_lt (Nat.lt_succ_of_lt (by assumption))) | exact Nat.ne_of_gt (Nat.lt_succ_of_lt (by assumption)) | exact Nat.ne_of_gt (Nat.lt_succ_of_lt (Nat.lt_succ_of_lt (by assumption))) | exact Nat.ne_of_lt (Nat.lt_succ_self _) | exact Nat.ne_of_gt (Nat.lt_succ_self _) | exact Nat.ne_of_lt (Nat.lt_succ_of_lt (Nat.lt_succ_self _)) | exact Nat.ne_of_gt (Nat.lt_succ_of_lt (Nat.lt_succ_self _)) | omega)), h0none _ (Nat.le_refl _)⟩
          · exact ⟨up4 _ _ (N₃ p hp).1, (N₃ p hp).2⟩
        have offI2 : ∀ {ys : List Value}, ∀ p ∈ ((I1, oI1) :: (I1 + 1, LCg.lst ys) :: news), @Ne Nat p.1 I2 ∧ @Ne Nat p.1 (I1 + 2) := fun p hp => by
          rcases List.mem_cons.mp hp with rfl | hp
          · constructor <;> (dsimp only; omega)
          · rcases List.mem_cons.mp hp with rfl | hp
            · constructor <;> (dsimp only; omega)
            · have := hnlt p hp
              constructor <;> omega
        refine loop_d1 (fun k s' => ∃ h' tk j ys m', s' = { s₁ with heap := h', toks := tk } ∧ j ≤ txt.cps.size ∧ k = txt.cps.size + 1 - j ∧ J i j ys ∧ h'.IsStrIter I2 "str_ascii_iterator" txt t2 j ∧ Fr h₀ L h' m ∧ h'.Ns (I1 + 2) m' ∧ m' x1 = some (.int (i : Int) t1) ∧ News h₀ L h' ((I1, oI1) :: (I1 + 1, LCg.lst ys) :: news))
          ?_ (txt.cps.size + 1) ⟨H4, tk4, 0, ys, _, rfl, Nat.zero_le _, rfl, hJ, hst4, F₃.keeps up4, hn₃.keeps up4, if_pos rfl, N4⟩
        rintro k s' ⟨h', tk, j, ys, m', rfl, hj, rfl, hJ, hst, F', hn', hm1, N'⟩
        by_cases hlt2 : j < txt.cps.size
        · refine (W2 I2 t2).item j _ _ _ hlt2 hst fun v h₅ tk₅ hPv hst₅ hk₅ => ?_
          obtain ⟨c, u2, hc, rfl⟩ := hPv
          have k5 : ∀ (b : Nat) o, b ≠ I2 → h'.get? b = some o → h₅.get? b = some o := fun b o hb e => hk₅ b o (fun hm => hb (List.mem_singleton.mp hm)) e
          refine wpAny_assign_Name (wpAny_storeName_local (lookup_relabel_local hx2) (hn'.at' fun o e => k5 (I1 + 2) o (by first | exact Nat.ne_of_lt (by assumption) | exact Nat.ne_of_gt (by assumption) | exact Nat.ne_of_lt (Nat.lt_succ_of_lt (by assumption)) | exact Nat.ne_of_lt (Nat.lt_succ_of_lt (Nat.lt_succ_of_lt (by assumption))) | exact Nat.ne_of_gt (Nat.lt_succ_of_lt (by assumption)) | exact Nat.ne_of_gt (Nat.lt_succ_of_lt (Nat.lt_succ_of_lt (by assumption))) | exact Nat.ne_of_lt (Nat.lt_succ_self _) | exact Nat.ne_of_gt (Nat.lt_succ_self _) | exact Nat.ne_of_lt (Nat.lt_succ_of_lt (Nat.lt_succ_self _)) | exact Nat.ne_of_gt (Nat.lt_succ_of_lt (Nat.lt_succ_self _)) | omega) e) (fun h₆ hn₆ hs₆ => ?_) (by simp [compEnvC, relabel, hkind]))
          have k6 : ∀ (b : Nat) o, b ≠ I2 → b ≠ I1 + 2 → h'.get? b = some o → h₆.get? b = some o := fun b o hb hc e => hs₆.extBut b o hc (k5 b o hb e)
          obtain ⟨oC, heC, hoC⟩ := LCg.ns_obj hn₆
          obtain ⟨oI2, ho5, hcls, hdat⟩ := hst₅
          have heI2 : h₆.get? I2 = some oI2 := hs₆.extBut I2 _ (by show @Ne Nat I2 (I1 + 2); (first | exact Nat.ne_of_lt (by assumption) | exact Nat.ne_of_gt (by assumption) | exact Nat.ne_of_lt (Nat.lt_succ_of_lt (by assumption)) | exact Nat.ne_of_lt (Nat.lt_succ_of_lt (Nat.lt_succ_of_lt (by assumption))) | exact Nat.ne_of_gt (Nat.lt_succ_of_lt (by assumption)) | exact Nat.ne_of_gt (Nat.lt_succ_of_lt (Nat.lt_succ_of_lt (by assumption))) | exact Nat.ne_of_lt (Nat.lt_succ_self _) | exact Nat.ne_of_gt (Nat.lt_succ_self _) | exact Nat.ne_of_lt (Nat.lt_succ_of_lt (Nat.lt_succ_self _)) | exact Nat.ne_of_gt (Nat.lt_succ_of_lt (Nat.lt_succ_self _)) | omega)) ho5
          have F₆ : Fr h₀ L h₆ m := ⟨F'.ns.at' fun o e => k6 L o (by first | exact Nat.ne_of_lt (by assumption) | exact Nat.ne_of_gt (by assumption) | exact Nat.ne_of_lt (Nat.lt_succ_of_lt (by assumption)) | exact Nat.ne_of_lt (Nat.lt_succ_of_lt (Nat.lt_succ_of_lt (by assumption))) | exact Nat.ne_of_gt (Nat.lt_succ_of_lt (by assumption)) | exact Nat.ne_of_gt (Nat.lt_succ_of_lt (Nat.lt_succ_of_lt (by assumption))) | exact Nat.ne_of_lt (Nat.lt_succ_self _) | exact Nat.ne_of_gt (Nat.lt_succ_self _) | exact Nat.ne_of_lt (Nat.lt_succ_of_lt (Nat.lt_succ_self _)) | exact Nat.ne_of_gt (Nat.lt_succ_of_lt (Nat.lt_succ_self _)) | omega) (by first | exact Nat.ne_of_lt (by assumption) | exact Nat.ne_of_gt (by assumption) | exact Nat.ne_of_lt (Nat.lt_succ_of_lt (by assumption)) | exact Nat.ne_of_lt (Nat.lt_succ_of_lt (Nat.lt_succ_of_lt (by assumption))) | exact Nat.ne_of_gt (Nat.lt_succ_of_lt (by assumption)) | exact Nat.ne_of_gt (Nat.lt_succ_of_lt (Nat.lt_succ_of_lt (by assumption))) | exact Nat.ne_of_lt (Nat.lt_succ_self _) | exact Nat.ne_of_gt (Nat.lt_succ_self _) | exact Nat.ne_of_lt (Nat.lt_succ_of_lt (Nat.lt_succ_self _)) | exact Nat.ne_of_gt (Nat.lt_succ_of_lt (Nat.lt_succ_self _)) | omega) e, fun b o e => by
            have := h0lt b o e
            exact k6 b o (by first | exact Nat.ne_of_lt (by assumption) | exact Nat.ne_of_gt (by assumption) | exact Nat.ne_of_lt (Nat.lt_succ_of_lt (by assumption)) | exact Nat.ne_of_lt (Nat.lt_succ_of_lt (Nat.lt_succ_of_lt (by assumption))) | exact Nat.ne_of_gt (Nat.lt_succ_of_lt (by assumption)) | exact Nat.ne_of_gt (Nat.lt_succ_of_lt (Nat.lt_succ_of_lt (by assumption))) | exact Nat.ne_of_lt (Nat.lt_succ_self _) | exact Nat.ne_of_gt (Nat.lt_succ_self _) | exact Nat.ne_of_lt (Nat.lt_succ_of_lt (Nat.lt_succ_self _)) | exact Nat.ne_of_gt (Nat.lt_succ_of_lt (Nat.lt_succ_self _)) | omega) (by first | exact Nat.ne_of_lt (by assumption) | exact Nat.ne_of_gt (by assumption) | exact Nat.ne_of_lt (Nat.lt_succ_of_lt (by assumption)) | exact Nat.ne_of_lt (Nat.lt_succ_of_lt (Nat.lt_succ_of_lt (by assumption))) | exact Nat.ne_of_gt (Nat.lt_succ_of_lt (by assumption)) | exact Nat.ne_of_gt (Nat.lt_succ_of_lt (Nat.lt_succ_of_lt (by assumption))) | exact Nat.ne_of_lt (Nat.lt_succ_self _) | exact Nat.ne_of_gt (Nat.lt_succ_self _) | exact Nat.ne_of_lt (Nat.lt_succ_of_lt (Nat.lt_succ_self _)) | exact Nat.ne_of_gt (Nat.lt_succ_of_lt (Nat.lt_succ_self _)) | omega) (F'.keep b o e), F'.above⟩
          have N₆ : News h₀ L h₆ ((I2, oI2) :: (I1, oI1) :: (I1 + 2, oC) :: (I1 + 1, LCg.lst ys) :: news) := fun p hp => by
            rcases List.mem_cons.mp hp with rfl | hp
            · exact ⟨heI2, (by show @Ne Nat I2 L; (first | exact Nat.ne_of_lt (by assumption) | exact Nat.ne_of_gt (by assumption) | exact Nat.ne_of_lt (Nat.lt_succ_of_lt (by assumption)) | exact Nat.ne_of_lt (Nat.lt_succ_of_lt (Nat.lt_succ_of_lt (by assumption))) | exact Nat.ne_of_gt (Nat.lt_succ_of_lt (by assumption)) | exact Nat.ne_of_gt (Nat.lt_succ_of_lt (Nat.lt_succ_of_lt (by assumption))) | exact Nat.ne_of_lt (Nat.lt_succ_self _) | exact Nat.ne_of_gt (Nat.lt_succ_self _) | exact Nat.ne_of_lt (Nat.lt_succ_of_lt (Nat.lt_succ_self _)) | exact Nat.ne_of_gt (Nat.lt_succ_of_lt (Nat.lt_succ_self _)) | omega)), h0none _ (by show I1 ≤ I2; omega)⟩
            · rcases List.mem_cons.mp hp with rfl | hp
              · exact ⟨k6 I1 _ (by first | exact Nat.ne_of_lt (by assumption) | exact Nat.ne_of_gt (by assumption) | exact Nat.ne_of_lt (Nat.lt_succ_of_lt (by assumption)) | exact Nat.ne_of_lt (Nat.lt_succ_of_lt (Nat.lt_succ_of_lt (by assumption))) | exact Nat.ne_of_gt (Nat.lt_succ_of_lt (by assumption)) | exact Nat.ne_of_gt (Nat.lt_succ_of_lt (Nat.lt_succ_of_lt (by assumption))) | exact Nat.ne_of_lt (Nat.lt_succ_self _) | exact Nat.ne_of_gt (Nat.lt_succ_self _) | exact Nat.ne_of_lt (Nat.lt_succ_of_lt (Nat.lt_succ_self _)) | exact Nat.ne_of_gt (Nat.lt_succ_of_lt (Nat.lt_succ_self _)) | omega) (by first | exact Nat.ne_of_lt (by assumption) | exact Nat.ne_of_gt (by assumption) | exact Nat.ne_of_lt (Nat.lt_succ_of_lt (by assumption)) | exact Nat.ne_of_lt (Nat.lt_succ_of_lt (Nat.lt_succ_of_lt (by assumption))) | exact Nat.ne_of_gt (Nat.lt_succ_of_lt (by assumption)) | exact Nat.ne_of_gt (Nat.lt_succ_of_lt (Nat.lt_succ_of_lt (by assumption))) | exact Nat.ne_of_lt (Nat.lt_succ_self _) | exact Nat.ne_of_gt (Nat.lt_succ_self _) | exact Nat.ne_of_lt (Nat.lt_succ_of_lt (Nat.lt_succ_self _)) | exact Nat.ne_of_gt (Nat.lt_succ_of_lt (Nat.lt_succ_self _)) | omega) (N' _ List.mem_cons_self).1, (N' _ List.mem_cons_self).2⟩
              · rcases List.mem_cons.mp hp with rfl | hp
                · exact ⟨heC, (by show @Ne Nat (I1 + 2) L; (first | exact Nat.ne_of_lt (by assumption) | exact Nat.ne_of_gt (by assumption) | exact Nat.ne_of_lt (Nat.lt_succ_of_lt (by assumption)) | exact Nat.ne_of_lt (Nat.lt_succ_of_lt (Nat.lt_succ_of_lt (by assumption))) | exact Nat.ne_of_gt (Nat.lt_succ_of_lt (by assumption)) | exact Nat.ne_of_gt (Nat.lt_succ_of_lt (Nat.lt_succ_of_lt (by assumption))) | exact Nat.ne_of_lt (Nat.lt_succ_self _) | exact Nat.ne_of_gt (Nat.lt_succ_self _) | exact Nat.ne_of_lt (Nat.lt_succ_of_lt (Nat.lt_succ_self _)) | exact Nat.ne_of_gt (Nat.lt_succ_of_lt (Nat.lt_succ_self _)) | omega)), h0none _ (by show I1 ≤ I1 + 2; omega)⟩
                · have hp' := List.mem_cons_of_mem (I1, oI1) hp
                  exact ⟨k6 p.1 _ (offI2 p hp').1 (offI2 p hp').2 (N' p hp').1, (N' p hp').2⟩
          refine wpAny_mono (elem i j ys t1 c u2 I1 oI1 I2 oI2 (I1 + 2) oC (I1 + 1) _ h₆ _ _ hlt hc hJ hoC (by simp [hx12, hm1]) (by simp) F₆ N₆) (fun y s₇ h₇ => ?_) fun _ _ e => e
          obtain ⟨h7, tk7, rfl, F7, N7, hJ7⟩ := h₇
          have m2 : ∀ q, q ∈ ((I1 + 1, LCg.lst ys) :: news) → q ∈ ((I2, oI2) :: (I1, oI1) :: (I1 + 2, oC) :: (I1 + 1, LCg.lst ys) :: news) := fun q hq => List.mem_cons_of_mem _ (List.mem_cons_of_mem _ (List.mem_cons_of_mem _ hq))
          refine append_at (hsz := by show ys.toArray.size ≤ sizeLine; rw [List.size_toArray, sizeLine_eq]; have := hlen _ _ _ hJ; omega) (N7 (I1 + 1, LCg.lst ys) (m2 _ List.mem_cons_self)).1 fun h₈ hs₈ hD₈ => ?_
          refine ⟨txt.cps.size + 1 - (j + 1), by omega, h₈, tk7, j + 1, ys ++ [y], _, rfl, hlt2, rfl, hJ7, ⟨oI2, hs₈.extBut I2 _ (by show @Ne Nat I2 (I1 + 1); (first | exact Nat.ne_of_lt (by assumption) | exact Nat.ne_of_gt (by assumption) | exact Nat.ne_of_lt (Nat.lt_succ_of_lt (by assumption)) | exact Nat.ne_of_lt (Nat.lt_succ_of_lt (Nat.lt_succ_of_lt (by assumption))) | exact Nat.ne_of_gt (Nat.lt_succ_of_lt (by assumption)) | exact Nat.ne_of_gt (Nat.lt_succ_of_lt (Nat.lt_succ_of_lt (by assumption))) | exact Nat.ne_of_lt (Nat.lt_succ_self _) | exact Nat.ne_of_gt (Nat.lt_succ_self _) | exact Nat.ne_of_lt (Nat.lt_succ_of_lt (Nat.lt_succ_self _)) | exact Nat.ne_of_gt (Nat.lt_succ_of_lt (Nat.lt_succ_self _)) | omega)) (N7 _ List.mem_cons_self).1, hcls, hdat⟩,
            F7.change hs₈ (by show @Ne Nat (I1 + 1) L; (first | exact Nat.ne_of_lt (by assumption) | exact Nat.ne_of_gt (by assumption) | exact Nat.ne_of_lt (Nat.lt_succ_of_lt (by assumption)) | exact Nat.ne_of_lt (Nat.lt_succ_of_lt (Nat.lt_succ_of_lt (by assumption))) | exact Nat.ne_of_gt (Nat.lt_succ_of_lt (by assumption)) | exact Nat.ne_of_gt (Nat.lt_succ_of_lt (Nat.lt_succ_of_lt (by assumption))) | exact Nat.ne_of_lt (Nat.lt_succ_self _) | exact Nat.ne_of_gt (Nat.lt_succ_self _) | exact Nat.ne_of_lt (Nat.lt_succ_of_lt (Nat.lt_succ_self _)) | exact Nat.ne_of_gt (Nat.lt_succ_of_lt (Nat.lt_succ_self _)) | omega)) (h0none _ (Nat.le_succ _)), (hoC.ns (N7 (I1 + 2, oC) (List.mem_cons_of_mem _ (List.mem_cons_of_mem _ List.mem_cons_self))).1).sameBut hs₈ (by show @Ne Nat (I1 + 2) (I1 + 1); (first | exact Nat.ne_of_lt (by assumption) | exact Nat.ne_of_gt (by assumption) | exact Nat.ne_of_lt (Nat.lt_succ_of_lt (by assumption)) | exact Nat.ne_of_lt (Nat.lt_succ_of_lt (Nat.lt_succ_of_lt (by assumption))) | exact Nat.ne_of_gt (Nat.lt_succ_of_lt (by assumption)) | exact Nat.ne_of_gt (Nat.lt_succ_of_lt (Nat.lt_succ_of_lt (by assumption))) | exact Nat.ne_of_lt (Nat.lt_succ_self _) | exact Nat.ne_of_gt (Nat.lt_succ_self _) | exact Nat.ne_of_lt (Nat.lt_succ_of_lt (Nat.lt_succ_self _)) | exact Nat.ne_of_gt (Nat.lt_succ_of_lt (Nat.lt_succ_self _)) | omega)), by simp [hx12, hm1], fun p hp => ?_⟩
          rcases List.mem_cons.mp hp with rfl | hp
          · have z := N7 (I1, oI1) (List.mem_cons_of_mem _ List.mem_cons_self)
            exact ⟨hs₈.extBut I1 _ (by show @Ne Nat I1 (I1 + 1); (first | exact Nat.ne_of_lt (by assumption) | exact Nat.ne_of_gt (by assumption) | exact Nat.ne_of_lt (Nat.lt_succ_of_lt (by assumption)) | exact Nat.ne_of_lt (Nat.lt_succ_of_lt (Nat.lt_succ_of_lt (by assumption))) | exact Nat.ne_of_gt (Nat.lt_succ_of_lt (by assumption)) | exact Nat.ne_of_gt (Nat.lt_succ_of_lt (Nat.lt_succ_of_lt (by assumption))) | exact Nat.ne_of_lt (Nat.lt_succ_self _) | exact Nat.ne_of_gt (Nat.lt_succ_self _) | exact Nat.ne_of_lt (Nat.lt_succ_of_lt (Nat.lt_succ_self _)) | exact Nat.ne_of_gt (Nat.lt_succ_of_lt (Nat.lt_succ_self _)) | omega)) z.1, z.2⟩
          · rcases List.mem_cons.mp hp with rfl | hp
            · exact ⟨hD₈.trans (congrArg some (LCg.lst_snoc ys y)), (by show @Ne Nat (I1 + 1) L; (first | exact Nat.ne_of_lt (by assumption) | exact Nat.ne_of_gt (by assumption) | exact Nat.ne_of_lt (Nat.lt_succ_of_lt (by assumption)) | exact Nat.ne_of_lt (Nat.lt_succ_of_lt (Nat.lt_succ_of_lt (by assumption))) | exact Nat.ne_of_gt (Nat.lt_succ_of_lt (by assumption)) | exact Nat.ne_of_gt (Nat.lt_succ_of_lt (Nat.lt_succ_of_lt (by assumption))) | exact Nat.ne_of_lt (Nat.lt_succ_self _) | exact Nat.ne_of_gt (Nat.lt_succ_self _) | exact Nat.ne_of_lt (Nat.lt_succ_of_lt (Nat.lt_succ_self _)) | exact Nat.ne_of_gt (Nat.lt_succ_of_lt (Nat.lt_succ_self _)) | omega)), h0none _ (Nat.le_succ _)⟩
            · have z := N7 p (m2 p (List.mem_cons_of_mem _ hp))
              have := hnlt p hp
              exact ⟨hs₈.extBut p.1 _ (by show @Ne Nat p.1 (I1 + 1); (first | exact Nat.ne_of_lt (by assumption) | exact Nat.ne_of_gt (by assumption) | exact Nat.ne_of_lt (Nat.lt_succ_of_lt (by assumption)) | exact Nat.ne_of_lt (Nat.lt_succ_of_lt (Nat.lt_succ_of_lt (by assumption))) | exact Nat.ne_of_gt (Nat.lt_succ_of_lt (by assumption)) | exact Nat.ne_of_gt (Nat.lt_succ_of_lt (Nat.lt_succ_of_lt (by assumption))) | exact Nat.ne_of_lt (Nat.lt_succ_self _) | exact Nat.ne_of_gt (Nat.lt_succ_self _) | exact Nat.ne_of_lt (Nat.lt_succ_of_lt (Nat.lt_succ_self _)) | exact Nat.ne_of_gt (Nat.lt_succ_of_lt (Nat.lt_succ_self _)) | omega)) z.1, z.2⟩
        · have hjn : j = txt.cps.size := by omega
          subst hjn
          refine (W2 I2 t2).done _ _ _ hst fun h₅ tk₅ hk₅ => ?_
          have k5 : ∀ (b : Nat) o, b ≠ I2 → h'.get? b = some o → h₅.get? b = some o := fun b o hb e => hk₅ b o (fun hm => hb (List.mem_singleton.mp hm)) e
          have n5 := hn'.at' (h' := h₅) fun o e => k5 (I1 + 2) o (by first | exact Nat.ne_of_lt (by assumption) | exact Nat.ne_of_gt (by assumption) | exact Nat.ne_of_lt (Nat.lt_succ_of_lt (by assumption)) | exact Nat.ne_of_lt (Nat.lt_succ_of_lt (Nat.lt_succ_of_lt (by assumption))) | exact Nat.ne_of_gt (Nat.lt_succ_of_lt (by assumption)) | exact Nat.ne_of_gt (Nat.lt_succ_of_lt (Nat.lt_succ_of_lt (by assumption))) | exact Nat.ne_of_lt (Nat.lt_succ_self _) | exact Nat.ne_of_gt (Nat.lt_succ_self _) | exact Nat.ne_of_lt (Nat.lt_succ_of_lt (Nat.lt_succ_self _)) | exact Nat.ne_of_gt (Nat.lt_succ_of_lt (Nat.lt_succ_self _)) | omega) e
          refine ⟨n + 1 - (i + 1), by omega, h₅, tk₅, i + 1, ys, m', rfl, hlt, rfl, hJs i ys hlt hJ, hst_of _ (k5 I1 _ (by first | exact Nat.ne_of_lt (by assumption) | exact Nat.ne_of_gt (by assumption) | exact Nat.ne_of_lt (Nat.lt_succ_of_lt (by assumption)) | exact Nat.ne_of_lt (Nat.lt_succ_of_lt (Nat.lt_succ_of_lt (by assumption))) | exact Nat.ne_of_gt (Nat.lt_succ_of_lt (by assumption)) | exact Nat.ne_of_gt (Nat.lt_succ_of_lt (Nat.lt_succ_of_lt (by assumption))) | exact Nat.ne_of_lt (Nat.lt_succ_self _) | exact Nat.ne_of_gt (Nat.lt_succ_self _) | exact Nat.ne_of_lt (Nat.lt_succ_of_lt (Nat.lt_succ_self _)) | exact Nat.ne_of_gt (Nat.lt_succ_of_lt (Nat.lt_succ_self _)) | omega) (N' _ List.mem_cons_self).1), Nat.succ_le_of_lt n5.lt,
            ⟨F'.ns.at' fun o e => k5 L o (by first | exact Nat.ne_of_lt (by assumption) | exact Nat.ne_of_gt (by assumption) | exact Nat.ne_of_lt (Nat.lt_succ_of_lt (by assumption)) | exact Nat.ne_of_lt (Nat.lt_succ_of_lt (Nat.lt_succ_of_lt (by assumption))) | exact Nat.ne_of_gt (Nat.lt_succ_of_lt (by assumption)) | exact Nat.ne_of_gt (Nat.lt_succ_of_lt (Nat.lt_succ_of_lt (by assumption))) | exact Nat.ne_of_lt (Nat.lt_succ_self _) | exact Nat.ne_of_gt (Nat.lt_succ_self _) | exact Nat.ne_of_lt (Nat.lt_succ_of_lt (Nat.lt_succ_self _)) | exact Nat.ne_of_gt (Nat.lt_succ_of_lt (Nat.lt_succ_self _)) | omega) e, fun b o e => by
              have := h0lt b o e
              exact k5 b o (by first | exact Nat.ne_of_lt (by assumption) | exact Nat.ne_of_gt (by assumption) | exact Nat.ne_of_lt (Nat.lt_succ_of_lt (by assumption)) | exact Nat.ne_of_lt (Nat.lt_succ_of_lt (Nat.lt_succ_of_lt (by assumption))) | exact Nat.ne_of_gt (Nat.lt_succ_of_lt (by assumption)) | exact Nat.ne_of_gt (Nat.lt_succ_of_lt (Nat.lt_succ_of_lt (by assumption))) | exact Nat.ne_of_lt (Nat.lt_succ_self _) | exact Nat.ne_of_gt (Nat.lt_succ_self _) | exact Nat.ne_of_lt (Nat.lt_succ_of_lt (Nat.lt_succ_self _)) | exact Nat.ne_of_gt (Nat.lt_succ_of_lt (Nat.lt_succ_self _)) | omega) (F'.keep b o e), F'.above⟩, n5, fun p hp => ?_⟩
          have hp' := List.mem_cons_of_mem (I1, oI1) hp
          exact ⟨k5 p.1 _ (offI2 p hp').1 (N' p hp').1, (N' p hp').2⟩
      exact start_d1 (inner _ ⟨_, rfl⟩) ((W2 I2 t2).self 0 _ _ _ hst4 (inner _ ⟨_, rfl⟩))
    · have hin : i = n := by omega
      subst hin
      refine W1.done _ _ _ hst fun h₂ tk₂ hk₂ => ?_
      have k2 : ∀ (b : Nat) o, b ≠ I1 → h'.get? b = some o → h₂.get? b = some o := fun b o hb e => hk₂ b o (fun hm => hb (List.mem_singleton.mp hm)) e
      refine ⟨m', hn'.at' fun o e => k2 (I1 + 2) o (by first | exact Nat.ne_of_lt (by assumption) | exact Nat.ne_of_gt (by assumption) | exact Nat.ne_of_lt (Nat.lt_succ_of_lt (by assumption)) | exact Nat.ne_of_lt (Nat.lt_succ_of_lt (Nat.lt_succ_of_lt (by assumption))) | exact Nat.ne_of_gt (Nat.lt_succ_of_lt (by assumption)) | exact Nat.ne_of_gt (Nat.lt_succ_of_lt (Nat.lt_succ_of_lt (by assumption))) | exact Nat.ne_of_lt (Nat.lt_succ_self _) | exact Nat.ne_of_gt (Nat.lt_succ_self _) | exact Nat.ne_of_lt (Nat.lt_succ_of_lt (Nat.lt_succ_self _)) | exact Nat.ne_of_gt (Nat.lt_succ_of_lt (Nat.lt_succ_self _)) | omega) e, fun h₃ hs₃ => fin ys (I1 + 1) h₃ tk₂ hJ ?_ ?_ fun p hp => ?_⟩
      · exact ⟨F'.ns.at' fun o e => hs₃.extBut L o (by show @Ne Nat L (I1 + 2); (first | exact Nat.ne_of_lt (by assumption) | exact Nat.ne_of_gt (by assumption) | exact Nat.ne_of_lt (Nat.lt_succ_of_lt (by assumption)) | exact Nat.ne_of_lt (Nat.lt_succ_of_lt (Nat.lt_succ_of_lt (by assumption))) | exact Nat.ne_of_gt (Nat.lt_succ_of_lt (by assumption)) | exact Nat.ne_of_gt (Nat.lt_succ_of_lt (Nat.lt_succ_of_lt (by assumption))) | exact Nat.ne_of_lt (Nat.lt_succ_self _) | exact Nat.ne_of_gt (Nat.lt_succ_self _) | exact Nat.ne_of_lt (Nat.lt_succ_of_lt (Nat.lt_succ_self _)) | exact Nat.ne_of_gt (Nat.lt_succ_of_lt (Nat.lt_succ_self _)) | omega)) (k2 L o (by first | exact Nat.ne_of_lt (by assumption) | exact Nat.ne_of_gt (by assumption) | exact Nat.ne_of_lt (Nat.lt_succ_of_lt (by assumption)) | exact Nat.ne_of_lt (Nat.lt_succ_of_lt (Nat.lt_succ_of_lt (by assumption))) | exact Nat.ne_of_gt (Nat.lt_succ_of_lt (by assumption)) | exact Nat.ne_of_gt (Nat.lt_succ_of_lt (Nat.lt_succ_of_lt (by assumption))) | exact Nat.ne_of_lt (Nat.lt_succ_self _) | exact Nat.ne_of_gt (Nat.lt_succ_self _) | exact Nat.ne_of_lt (Nat.lt_succ_of_lt (Nat.lt_succ_self _)) | exact Nat.ne_of_gt (Nat.lt_succ_of_lt (Nat.lt_succ_self _)) | omega) e), fun b o e => by
          have := h0lt b o e
          exact hs₃.extBut b o (by show @Ne Nat b (I1 + 2); (first | exact Nat.ne_of_lt (by assumption) | exact Nat.ne_of_gt (by assumption) | exact Nat.ne_of_lt (Nat.lt_succ_of_lt (by assumption)) | exact Nat.ne_of_lt (Nat.lt_succ_of_lt (Nat.lt_succ_of_lt (by assumption))) | exact Nat.ne_of_gt (Nat.lt_succ_of_lt (by assumption)) | exact Nat.ne_of_gt (Nat.lt_succ_of_lt (Nat.lt_succ_of_lt (by assumption))) | exact Nat.ne_of_lt (Nat.lt_succ_self _) | exact Nat.ne_of_gt (Nat.lt_succ_self _) | exact Nat.ne_of_lt (Nat.lt_succ_of_lt (Nat.lt_succ_self _)) | exact Nat.ne_of_gt (Nat.lt_succ_of_lt (Nat.lt_succ_self _)) | omega)) (k2 b o (by first | exact Nat.ne_of_lt (by assumption) | exact Nat.ne_of_gt (by assumption) | exact Nat.ne_of_lt (Nat.lt_succ_of_lt (by assumption)) | exact Nat.ne_of_lt (Nat.lt_succ_of_lt (Nat.lt_succ_of_lt (by assumption))) | exact Nat.ne_of_gt (Nat.lt_succ_of_lt (by assumption)) | exact Nat.ne_of_gt (Nat.lt_succ_of_lt (Nat.lt_succ_of_lt (by assumption))) | exact Nat.ne_of_lt (Nat.lt_succ_self _) | exact Nat.ne_of_gt (Nat.lt_succ_self _) | exact Nat.ne_of_lt (Nat.lt_succ_of_lt (Nat.lt_succ_self _)) | exact Nat.ne_of_gt (Nat.lt_succ_of_lt (Nat.lt_succ_self _)) | omega) (F'.keep b o e)), F'.above⟩
      · intro p hp
        refine ⟨hs₃.extBut p.1 _ ?_ (k2 p.1 _ ?_ (N' p hp).1), (N' p hp).2⟩
        · show @Ne Nat p.1 (I1 + 2)
          rcases List.mem_cons.mp hp with rfl | hp
          · show I1 + 1 ≠ I1 + 2; omega
          · have := hnlt p hp; omega
        · rcases List.mem_cons.mp hp with rfl | hp
          · show I1 + 1 ≠ I1; omega
          · have := hnlt p hp; omega
      · have := hnlt p hp
        show @LT.lt Nat _ p.1 (I1 + 1)
        omega
  exact codeAny_compStart_list (outer _ rfl) (W1.self 0 _ _ _ st1 (outer _ rfl))
end
end Mine

end

-- part M6b
section
open PySem PySem.W PySem.Spec PySem.Calls PyProof.Rows
set_option maxRecDepth 100000
set_option maxHeartbeats 4000000
namespace Mine

def insAt (x : List Nat) (k : Nat) : List (List Nat) := [x.take k ++ [48] ++ x.drop k, x.take k ++ [49] ++ x.drop k]
def insTo (x : List Nat) (i : Nat) : List (List Nat) := (List.range i).flatMap (insAt x)
def delAt (x : List Nat) (k : Nat) : List Nat := x.take k ++ x.drop (k + 1)
def turnAt (x : List Nat) (k : Nat) : List Nat := x.take k ++ [if x.getD k 0 = 48 then 49 else 48] ++ x.drop (k + 1)
def editsL (x : List Nat) (n : Nat) : List (List Nat) :=
  if x.length < n then insTo x n else if n < x.length then (List.range (n + 1)).map (delAt x) else x :: (List.range n).map (turnAt x)

theorem S_app (a b : List Nat) : S a ++ S b = S (a ++ b) := by
  apply Str.ext'
  show a.toArray ++ b.toArray = (a ++ b).toArray
  simp

theorem insTo_len (x : List Nat) : ∀ i, (insTo x i).length = 2 * i
  | 0 => rfl
  | i + 1 => by
    unfold insTo
    rw [List.range_succ, List.flatMap_append, List.length_append]
    have := insTo_len x i
    unfold insTo at this
    rw [this]
    simp [insAt]
    omega
theorem insTo_succ (x : List Nat) (i : Nat) : insTo x (i + 1) = insTo x i ++ insAt x i := by
  unfold insTo
  rw [List.range_succ, List.flatMap_append]
  simp

theorem ins_step {x : List Nat} {i j c : Nat} (hc : (Str.ofString "01").cps[j]? = some c) : j < 2 ∧ (insAt x i).take (j + 1) = (insAt x i).take j ++ [x.take i ++ [c] ++ x.drop i] := by
  rw [show (Str.ofString "01").cps = #[48, 49] by decide +kernel] at hc
  match j, hc with
  | 0, hc => cases hc; exact ⟨by omega, rfl⟩
  | 1, hc => cases hc; exact ⟨by omega, rfl⟩
  | j + 2, hc => simp at hc

theorem turn_item {x : List Nat} {i : Nat} (hi : i < x.length) : (Txt.item (S x) (i : Int) == Str.ofString "0") = decide (x.getD i 0 = 48) := by
  rw [S_item _ _ hi, show Str.ofString "0" = S [48] by decide +kernel]
  by_cases e : x.getD i 0 = 48
  · rw [decide_eq_true e, e]; exact beq_self_eq_true _
  · rw [decide_eq_false e]
    refine beq_eq_false_iff_ne.mpr fun h => e ?_
    simpa using S_inj.mp h

theorem edits_gives (w : World) (x : List Nat) (n : Nat) (ta tb : Tok) (h4 : 4 ≤ n) (h6 : n ≤ 6) (hx : x.length = n - 1 ∨ x.length = n ∨ x.length = n + 1) (bx : Bits x) :
    Gives w 77 1 [.str (S x) ta, .int (n : Int) tb] (fun _ => True) (fun h v h' => ∃ D vs c, v = .ref D ∧ h.get? D = none ∧ h'.get? D = some (listOf vs.toArray c) ∧ StrsAre vs ((editsL x n).map S)) := by
  have sx := S_len x
  w_top off
  k_with_none
  unfold Gives
  k_fill
  intro mean mg mb dp un gd cn cs fa ccd cl outer A₀ base h₀ L m s Q E B F X T hkf hdp hun hpre hret
  refine wpAny_call ?_
  k_dflt (refine' enterC ?k1 ?k2 ?k3 ?k5 ?kA ?kF ?kK ?k6 ?k7 ?k8 ?k9 ?kB ?kD ?_ ?c2 ?c3 ?c4; (case kA => exact rfl); (case kF => exact rfl); (case kK => assumption); (case k1 => k_asm); (case k2 => k_asm); (case k3 => k_asm); (case k5 => k_asm); (case k6 => k_is); (case k7 => k_is); (case k8 => ktr_room); (case k9 => exact BindsTo.of_eq rfl); (case kB => exact rfl); (case kD => decide +kernel); (case c2 => exact rfl); (case c3 => exact rfl); (case c4 => exact rfl); k_whole; intro g' L' h' tk' cells' G9 FG' F' N' Y' B' X' T'; k_cells Y'; (try dsimp only); (try k_fold))
  replace F' : Fr g' L' h' (ov [((Str.ofString "n"), Value.int (n : Int) tb)] (fun _ => none)) := F'
  dsimp only [ov] at F'
  rename _ = Data.cell _ => hcell
  replace hcell : _ = Data.cell (some (Value.str (S x) ta)) := hcell
  repeat' ((fail_if_success (with_reducible show wpAny _ _ (exec (Stmt.While _ _ _ _) _) _ _ _)); (fail_if_success (with_reducible show wpAny _ _ (exec (Stmt.For _ _ _ _ _) _) _ _ _)); (fail_if_success (with_reducible show wpAny _ _ (eval (Expr.ListComp _ _ _ _) _) _ _ _)); (fail_if_success (with_reducible show wpAny _ _ (exec (Stmt.Assign _ (Expr.ListComp _ _ _ _) _) _) _ _ _)); (fail_if_success (with_reducible show Mine.Ex _ _ _ _ _)); (fail_if_success (with_reducible show WhileStep2 _ _ _ _ _ _ _ _)); (first | (k_unfold; (try dsimp only)) | walk1 | (dsimp only; walk1) | (leave1; walk_say "STEP leave1"; try dsimp only) | fail "no step"))
  · rename News _ _ _ _ => N9
    rename Fr _ _ _ _ => F9
    k_unmd
    k_fold
    refine ListComp_N F9 n (Str.ofString "01") (fun i j ys => j ≤ 2 ∧ i ≤ n ∧ StrsAre ys ((insTo x i ++ (insAt x i).take j).map S)) (by decide +kernel) ?hl rfl (by decide) rfl (by decide) rfl rfl (by decide) (by intro _ _; rfl) ?ev ?h
    case hl =>
      rintro i j ys ⟨hj, hi, h⟩
      have := h.length
      rw [List.length_map, List.length_append, List.length_take] at this
      have h2 := insTo_len x i
      have h3 : (insAt x i).length = 2 := rfl
      omega
    case ev =>
      intro C s' Q' E' hq
      walk1
      exact hq _ _
    case h =>
      repeat' ((fail_if_success (with_reducible show wpAny _ _ (exec (Stmt.While _ _ _ _) _) _ _ _)); (fail_if_success (with_reducible show wpAny _ _ (pyIter _) _ _ _)); (fail_if_success (with_reducible show wpAny _ _ (eval (Expr.ListComp _ _ _ _) _) _ _ _)); (fail_if_success (with_reducible show wpAny _ _ (exec (Stmt.Assign _ (Expr.ListComp _ _ _ _) _) _) _ _ _)); (fail_if_success (with_reducible show Mine.Ex _ _ _ _ _)); (fail_if_success (with_reducible show WhileStep2 _ _ _ _ _ _ _ _)); (fail_if_success (with_reducible show Mine.Turn _ _ _ _ _ _ _ _ _)); (fail_if_success (with_reducible show LCg.CompSrc _ _ _ _ _ _ _ _ _ _ _ _ _ _)); (fail_if_success (with_reducible show LCt.CompSrcT _ _ _ _ _ _ _ _ _ _ _ _ _ _ _)); (fail_if_success (with_reducible show LCg.CompEnd _ _ _ _ _ _ _ _ _ _ _ _ _ _)); (fail_if_success (with_reducible show Exists _)); (first | (k_unfold; (try dsimp only)) | walk1 | (dsimp only; walk1) | (leave1; walk_say "STEP leave1"; try dsimp only) | fail "no step"))
      rename IsRange _ _ 0 _ _ _ _ _ => R9
      rename News _ _ _ _ => N9
      rename Fr _ _ _ _ => F9
      refine ⟨_, _, _, _, _, _, rfl, rfl, F9, N9, R9, rfl, by omega, ⟨by omega, by omega, .nil⟩, ?_, ?elem, ?fin⟩
      · rintro i ys hi ⟨-, -, h⟩
        refine ⟨by omega, hi, ?_⟩
        have e : (insAt x i).take (Str.ofString "01").cps.size = insAt x i := by rw [show (Str.ofString "01").cps.size = 2 by decide +kernel]; rfl
        rw [e] at h
        rw [insTo_succ]
        simpa using h
      case elem =>
        clear F9 N9
        rintro i j ys t1 c t2 I1 oI1 I2 oI2 C oC D m₂ hh tk E' hi hc ⟨hj, hi', hys⟩ hC hm1 hm2 F9 N9
        dsimp only
        repeat' ((fail_if_success (with_reducible show wpAny _ _ (exec (Stmt.While _ _ _ _) _) _ _ _)); (fail_if_success (with_reducible show wpAny _ _ (pyIter _) _ _ _)); (fail_if_success (with_reducible show wpAny _ _ (eval (Expr.ListComp _ _ _ _) _) _ _ _)); (fail_if_success (with_reducible show wpAny _ _ (exec (Stmt.Assign _ (Expr.ListComp _ _ _ _) _) _) _ _ _)); (fail_if_success (with_reducible show Mine.Ex _ _ _ _ _)); (fail_if_success (with_reducible show WhileStep2 _ _ _ _ _ _ _ _)); (fail_if_success (with_reducible show Mine.Turn _ _ _ _ _ _ _ _ _)); (fail_if_success (with_reducible show LCg.CompSrc _ _ _ _ _ _ _ _ _ _ _ _ _ _)); (fail_if_success (with_reducible show LCt.CompSrcT _ _ _ _ _ _ _ _ _ _ _ _ _ _ _)); (fail_if_success (with_reducible show LCg.CompEnd _ _ _ _ _ _ _ _ _ _ _ _ _ _)); (fail_if_success (with_reducible show Exists _)); (first | (k_unfold; (try dsimp only)) | walk1 | (dsimp only; walk1) | (leave1; walk_say "STEP leave1"; try dsimp only) | fail "no step"))
        obtain ⟨hj2, hst⟩ := ins_step (x := x) (i := i) hc
        refine ⟨_, _, rfl, by k_asm, by k_asm, by omega, hi', ?_⟩
        rw [hst, ← List.append_assoc, List.map_append, S_to, S_from, show (⟨#[c]⟩ : Str) = S [c] from rfl, S_app, S_app]
        exact strs_snoc hys _ _
      case fin =>
        clear F9 N9
        rintro ys D hh tk ⟨-, -, hys⟩ F9 N9 off
        repeat' (first | (k_unfold; (try dsimp only)) | walk1 | (dsimp only; walk1) | (leave1; walk_say "STEP leave1"; try dsimp only) | fail "no step")
        refine hret _ _ _ ⟨D, ys, ys.length, rfl, fresh_of G9 (N9 _ (List.Mem.head _)).2.2, (N9 _ (List.Mem.head _)).1, ?_⟩ (fun b o e => Fr.keep (by k_asm) b o (G9 b o e))
        unfold editsL
        rw [if_pos (by omega)]
        simpa using hys
  · rename News _ _ _ _ => N9
    rename Fr _ _ _ _ => F9
    k_unmd
    k_fold
    refine LCg.ListComp_U F9 rfl (by decide) rfl (by decide) rfl ?_
    repeat' ((fail_if_success (with_reducible show wpAny _ _ (exec (Stmt.While _ _ _ _) _) _ _ _)); (fail_if_success (with_reducible show wpAny _ _ (pyIter _) _ _ _)); (fail_if_success (with_reducible show wpAny _ _ (eval (Expr.ListComp _ _ _ _) _) _ _ _)); (fail_if_success (with_reducible show wpAny _ _ (exec (Stmt.Assign _ (Expr.ListComp _ _ _ _) _) _) _ _ _)); (fail_if_success (with_reducible show Mine.Ex _ _ _ _ _)); (fail_if_success (with_reducible show WhileStep2 _ _ _ _ _ _ _ _)); (fail_if_success (with_reducible show Mine.Turn _ _ _ _ _ _ _ _ _)); (fail_if_success (with_reducible show LCg.CompSrc _ _ _ _ _ _ _ _ _ _ _ _ _ _)); (fail_if_success (with_reducible show LCt.CompSrcT _ _ _ _ _ _ _ _ _ _ _ _ _ _ _)); (fail_if_success (with_reducible show LCg.CompEnd _ _ _ _ _ _ _ _ _ _ _ _ _ _)); (fail_if_success (with_reducible show Exists _)); (first | (k_unfold; (try dsimp only)) | walk1 | (dsimp only; walk1) | (leave1; walk_say "STEP leave1"; try dsimp only) | fail "no step"))
    rename IsRange _ _ 0 _ _ _ _ _ => R9
    rename News _ _ _ _ => N9
    rename Fr _ _ _ _ => F9
    refine src_range (n + 1) rfl F9 N9 R9 (by omega) (by omega) fun g => rest_inv (fun i ys nw => nw = _ ∧ StrsAre ys (((List.range i).map (delAt x)).map S)) ⟨rfl, .nil⟩ ?step ?fin
    case step =>
      clear F9 N9
      rintro i ys nw vi I oI C oC D m₂ h tk E' hi ⟨rfl, hys⟩ ⟨ti, rfl⟩ hC hx F9 N9 off ⟨ne1, ne2, ne3⟩
      dsimp only
      repeat' ((fail_if_success (with_reducible show wpAny _ _ (exec (Stmt.While _ _ _ _) _) _ _ _)); (fail_if_success (with_reducible show wpAny _ _ (pyIter _) _ _ _)); (fail_if_success (with_reducible show wpAny _ _ (eval (Expr.ListComp _ _ _ _) _) _ _ _)); (fail_if_success (with_reducible show wpAny _ _ (exec (Stmt.Assign _ (Expr.ListComp _ _ _ _) _) _) _ _ _)); (fail_if_success (with_reducible show Mine.Ex _ _ _ _ _)); (fail_if_success (with_reducible show WhileStep2 _ _ _ _ _ _ _ _)); (fail_if_success (with_reducible show Mine.Turn _ _ _ _ _ _ _ _ _)); (fail_if_success (with_reducible show LCg.CompSrc _ _ _ _ _ _ _ _ _ _ _ _ _ _)); (fail_if_success (with_reducible show LCt.CompSrcT _ _ _ _ _ _ _ _ _ _ _ _ _ _ _)); (fail_if_success (with_reducible show LCg.CompEnd _ _ _ _ _ _ _ _ _ _ _ _ _ _)); (fail_if_success (with_reducible show Exists _)); (first | (k_unfold; (try dsimp only)) | walk1 | (dsimp only; walk1) | (leave1; walk_say "STEP leave1"; try dsimp only) | fail "no step"))
      refine LCg.CompEnd.intro (by k_asm) (by k_asm) _ (fun p hp => hp) off trivial ⟨rfl, ?_⟩
      rw [List.range_succ, List.map_append, List.map_append, S_to, show (i : Int) + 1 = ((i + 1 : Nat) : Int) by omega, S_from, S_app]
      exact strs_snoc hys _ _
    case fin =>
      clear F9 N9
      rintro ys nw ⟨rfl, hys⟩ D h tk F9 N9 off
      repeat' (first | (k_unfold; (try dsimp only)) | walk1 | (dsimp only; walk1) | (leave1; walk_say "STEP leave1"; try dsimp only) | fail "no step")
      refine hret _ _ _ ⟨D, ys, ys.length, rfl, fresh_of G9 (N9 _ (List.Mem.head _)).2.2, (N9 _ (List.Mem.head _)).1, ?_⟩ (fun b o e => Fr.keep (by k_asm) b o (G9 b o e))
      unfold editsL
      rw [if_neg (by omega), if_pos (by omega)]
      exact hys
  · rename News _ _ _ _ => N9
    rename Fr _ _ _ _ => F9
    k_unmd
    k_fold
    refine LCg.ListComp_U F9 rfl (by decide) rfl (by decide) rfl ?_
    repeat' ((fail_if_success (with_reducible show wpAny _ _ (exec (Stmt.While _ _ _ _) _) _ _ _)); (fail_if_success (with_reducible show wpAny _ _ (pyIter _) _ _ _)); (fail_if_success (with_reducible show wpAny _ _ (eval (Expr.ListComp _ _ _ _) _) _ _ _)); (fail_if_success (with_reducible show wpAny _ _ (exec (Stmt.Assign _ (Expr.ListComp _ _ _ _) _) _) _ _ _)); (fail_if_success (with_reducible show Mine.Ex _ _ _ _ _)); (fail_if_success (with_reducible show WhileStep2 _ _ _ _ _ _ _ _)); (fail_if_success (with_reducible show Mine.Turn _ _ _ _ _ _ _ _ _)); (fail_if_success (with_reducible show LCg.CompSrc _ _ _ _ _ _ _ _ _ _ _ _ _ _)); (fail_if_success (with_reducible show LCt.CompSrcT _ _ _ _ _ _ _ _ _ _ _ _ _ _ _)); (fail_if_success (with_reducible show LCg.CompEnd _ _ _ _ _ _ _ _ _ _ _ _ _ _)); (fail_if_success (with_reducible show Exists _)); (first | (k_unfold; (try dsimp only)) | walk1 | (dsimp only; walk1) | (leave1; walk_say "STEP leave1"; try dsimp only) | fail "no step"))
    rename IsRange _ _ 0 _ _ _ _ _ => R9
    rename News _ _ _ _ => N9
    rename Fr _ _ _ _ => F9
    refine src_range n rfl F9 N9 R9 (by omega) (by omega) fun g => rest_inv (fun i ys nw => nw = _ ∧ StrsAre ys (((List.range i).map (turnAt x)).map S)) ⟨rfl, .nil⟩ ?step ?fin
    case step =>
      clear F9 N9
      rintro i ys nw vi I oI C oC D m₂ h tk E' hi ⟨rfl, hys⟩ ⟨ti, rfl⟩ hC hx F9 N9 off ⟨ne1, ne2, ne3⟩
      dsimp only
      have hxn : x.length = n := by omega
      have hti := turn_item (x := x) (i := i) (by omega)
      repeat' ((fail_if_success (with_reducible show wpAny _ _ (exec (Stmt.While _ _ _ _) _) _ _ _)); (fail_if_success (with_reducible show wpAny _ _ (pyIter _) _ _ _)); (fail_if_success (with_reducible show wpAny _ _ (eval (Expr.ListComp _ _ _ _) _) _ _ _)); (fail_if_success (with_reducible show wpAny _ _ (exec (Stmt.Assign _ (Expr.ListComp _ _ _ _) _) _) _ _ _)); (fail_if_success (with_reducible show Mine.Ex _ _ _ _ _)); (fail_if_success (with_reducible show WhileStep2 _ _ _ _ _ _ _ _)); (fail_if_success (with_reducible show Mine.Turn _ _ _ _ _ _ _ _ _)); (fail_if_success (with_reducible show LCg.CompSrc _ _ _ _ _ _ _ _ _ _ _ _ _ _)); (fail_if_success (with_reducible show LCt.CompSrcT _ _ _ _ _ _ _ _ _ _ _ _ _ _ _)); (fail_if_success (with_reducible show LCg.CompEnd _ _ _ _ _ _ _ _ _ _ _ _ _ _)); (fail_if_success (with_reducible show Exists _)); (first | (k_unfold; (try dsimp only)) | walk1 | (dsimp only; walk1) | (leave1; walk_say "STEP leave1"; try dsimp only) | fail "no step"))
      · rename (Txt.item _ _ == _) = true => hb
        refine LCg.CompEnd.intro (by k_asm) (by k_asm) _ (fun p hp => hp) off trivial ⟨rfl, ?_⟩
        rw [List.range_succ, List.map_append, List.map_append, S_to, show (i : Int) + 1 = ((i + 1 : Nat) : Int) by omega, S_from, show Str.ofString "1" = S [49] by decide +kernel, S_app, S_app]
        rw [hti] at hb
        have e : turnAt x i = x.take i ++ [49] ++ x.drop (i + 1) := by unfold turnAt; rw [if_pos (of_decide_eq_true hb)]
        rw [← e]
        exact strs_snoc hys _ _
      · rename (Txt.item _ _ == _) = false => hb
        refine LCg.CompEnd.intro (by k_asm) (by k_asm) _ (fun p hp => hp) off trivial ⟨rfl, ?_⟩
        rw [List.range_succ, List.map_append, List.map_append, S_to, show (i : Int) + 1 = ((i + 1 : Nat) : Int) by omega, S_from, show Str.ofString "0" = S [48] by decide +kernel, S_app, S_app]
        rw [hti] at hb
        have e : turnAt x i = x.take i ++ [48] ++ x.drop (i + 1) := by unfold turnAt; rw [if_neg (of_decide_eq_false hb)]
        rw [← e]
        exact strs_snoc hys _ _
    case fin =>
      clear F9 N9
      rintro ys nw ⟨rfl, hys⟩ D h tk F9 N9 off
      have hyl : ys.length = n := by rw [hys.length]; simp
      have hret2 : ∀ D h' tk, s.heap.get? D = none → h'.get? D = some (W.listOf (Value.str (S x) ta :: ys).toArray 0) → Kept s.heap h' → Q (.ref D) {heap := h', gens := s.gens, drawn := s.drawn, toks := tk, os := s.os} := by
        intro D h' tk e1 e2 hk
        refine hret _ _ _ ⟨D, _, 0, rfl, e1, e2, ?_⟩ hk
        unfold editsL
        rw [if_neg (by omega), if_neg (by omega)]
        exact .cons _ _ hys
      repeat' (first | (k_unfold; (try dsimp only)) | walk1 | (dsimp only; walk1) | (leave1; walk_say "STEP leave1"; try dsimp only) | fail "no step")
      with_reducible rename News g' _ _ _ => N9
      refine hret2 _ _ _ (fresh_of G9 (N9 _ (List.Mem.head _)).2.2) ((N9 _ (List.Mem.head _)).1.trans ?_) (fun b o e => Fr.keep (by k_asm) b o (G9 b o e))
      simp [W.listOf]
end Mine

end

-- part M7a
section
open PySem PySem.W PySem.Spec PySem.Calls PyProof.Rows
open MeetsSeq MeetsSeq2 MeetsSeq3 SeqRoads2 SeqAt
open AutoSeq1 (wpAny_loadPart')
set_option maxRecDepth 100000
set_option maxHeartbeats 4000000
namespace Mine

def LtAt (A : Around) (s : Shared) (y x : Value) (b : Bool) : Prop :=
  ∀ (prog : Program) (w : World) (E : Value → Shared → Prop) (Q : Value → Shared → Prop), Q (.bool b) s → wpAny (model prog w) A (richCompare .Lt y x) Q E s
abbrev pr (a b : Value) : Obj := { cls := .type "tuple", dict := none, data := .seq #[a, b], slots := #[] }

theorem tuple_ltAt (l b : Addr) (a1 b1 a2 b2 : Value) (e1 e2 c1 c2 : Bool) :
    Meets (Builtin.«tuple.__lt__» ⟨[.ref l, .ref b], []⟩)
      (fun A R s => s.heap.get? l = some (pr a1 b1) ∧ s.heap.get? b = some (pr a2 b2) ∧ EqAt A.in1 s a1 a2 e1 ∧ (e1 = false → LtAt A.in1 s a1 a2 c1) ∧ EqAt A.in1 s b1 b2 e2 ∧ (e2 = false → LtAt A.in1 s b1 b2 c2) ∧
        R (.ok (.ret (.bool (if e1 then (if e2 then false else c2) else c1)))) s) :=
  .of_wp fun prog w A R s h => by
    obtain ⟨hp, g, d, tk, os⟩ := s; obtain ⟨hl, hb, q1, l1, q2, l2, h⟩ := h
    have f2 := AutoSeq1.sub_tuple_tuple
    wp_walk using wpAny_loadPart' hl, wpAny_loadPart' hb, wpAny_forIn_list _ (fun rest b s' => b.1 = none ∧ s' = ⟨hp, g, d, tk, os⟩ ∧ (rest = [(a1, a2), (b1, b2)] ∨ (rest = [(b1, b2)] ∧ e1 = true) ∨ (rest = [] ∧ e1 = true ∧ e2 = true))) _
    case turn =>
      rintro ⟨y, x⟩ rest b s' ⟨hb', rfl, hr | ⟨hr, t1⟩ | ⟨hr, _⟩⟩
      · cases hr
        refine wpAny_bind (q1 prog w _ _ ?_)
        cases e1 with
        | true => wp_walk; exact ⟨rfl, rfl, .inr (.inl ⟨rfl, rfl⟩)⟩
        | false =>
          show wpAny _ _ (rule _ >>= fun _ => richCompare CmpOp.Lt _ _ >>= _) _ _ _
          refine wpAny_bind (wpAny_rule (wpAny_bind (l1 rfl prog w _ _ ?_)))
          wp_walk
          exact ⟨_, rfl, h⟩
      · cases hr
        subst t1
        refine wpAny_bind (q2 prog w _ _ ?_)
        cases e2 with
        | true => wp_walk; exact ⟨rfl, rfl, .inr (.inr ⟨rfl, rfl, rfl⟩)⟩
        | false =>
          show wpAny _ _ (rule _ >>= fun _ => richCompare CmpOp.Lt _ _ >>= _) _ _ _
          refine wpAny_bind (wpAny_rule (wpAny_bind (l2 rfl prog w _ _ ?_)))
          wp_walk
          exact ⟨_, rfl, h⟩
      · cases hr
    case fin =>
      rintro ⟨b1, b2⟩ s' ⟨hb', rfl, hr | ⟨hr, t1⟩ | ⟨hr, t1, t2⟩⟩
      · cases hr
      · cases hr
      · simp only at hb'
        subst hb' t1 t2
        wp_walk
        exact ⟨_, rfl, h⟩
    case h =>
      exact ⟨rfl, rfl, .inl rfl⟩

theorem LtAt.pairs {A : Around} {s : Shared} {l b : Addr} {a1 b1 a2 b2 : Value} {e1 e2 c1 c2 : Bool} (hl : s.heap.get? l = some (pr a1 b1)) (hb : s.heap.get? b = some (pr a2 b2)) (hu : A.units < cLine)
    (q1 : EqAt A.in1 s a1 a2 e1) (l1 : e1 = false → LtAt A.in1 s a1 a2 c1) (q2 : EqAt A.in1 s b1 b2 e2) (l2 : e2 = false → LtAt A.in1 s b1 b2 c2) : LtAt A s (.ref l) (.ref b) (if e1 then (if e2 then false else c2) else c1) := fun prog w E Q h =>
  richCompare_meets_room (op := .Lt) ⟨_, hl, rfl⟩ ⟨_, hb, rfl⟩ F.slot_tuple_lt F.entry_tuple_lt (F.args_tuple_lt_2 _ _) (tuple_ltAt l b a1 b1 a2 b2 e1 e2 c1 c2)
    ⟨hl, hb, q1, l1, q2, l2, show Value.bool _ ≠ Value.notImplemented ∧ Q (.bool _) s from ⟨(fun x => nomatch x), h⟩⟩ hu

theorem LtAt.int {A : Around} {s : Shared} (a b : Int) (t u : Tok) : LtAt A s (.int a t) (.int b u) (decide (a < b)) := fun prog w E Q h => PyProof.Rows.lt_int h
theorem LtAt.str {A : Around} {s : Shared} (a b : Str) (t u : Tok) : LtAt A s (.str a t) (.str b u) (decide (a.cps.toList < b.cps.toList)) := fun prog w E Q h => PyProof.Rows.lt_str h

-- first kind: (distance, text)
theorem one_eq {A : Around} {s : Shared} {l b : Addr} {d1 d2 : Int} {x1 x2 : Str} {t1 t2 u1 u2 : Tok} (hl : s.heap.get? l = some (pr (.int d1 t1) (.str x1 u1))) (hb : s.heap.get? b = some (pr (.int d2 t2) (.str x2 u2))) (hu : A.units < cLine) :
    ∃ e, EqAt A s (.ref l) (.ref b) e ∧ (e = true → d1 = d2) := by
  by_cases hne : l = b
  · subst hne
    rw [hl] at hb
    refine ⟨true, EqAt.same _, fun _ => ?_⟩
    injection hb with hb
    injection hb with _ _ hb _
    injection hb with hb
    simp at hb
    exact hb.1.1
  · refine ⟨_, EqAt.of_refs hne (RcAt.tuples (items := #[.int d1 t1, .str x1 u1]) (items2 := #[.int d2 t2, .str x2 u2]) (e := fun j => match j with | 0 => d1 == d2 | _ => x1 == x2) ⟨_, hl, rfl, _, rfl⟩ ⟨_, hb, rfl, _, rfl⟩ hu ?_), ?_⟩
    · intro j h1 h2
      match j, h1, h2 with
      | 0, _, _ => exact (EqGives.int d1 d2 t1 t2).at _ _
      | 1, _, _ => exact (eqGives_str x1 x2 u1 u2).at _ _
    · intro h
      simp [List.range_succ] at h
      exact h.1
theorem one_lt {A : Around} {s : Shared} {l b : Addr} {d1 d2 : Int} {x1 x2 : Str} {t1 t2 u1 u2 : Tok} (hl : s.heap.get? l = some (pr (.int d1 t1) (.str x1 u1))) (hb : s.heap.get? b = some (pr (.int d2 t2) (.str x2 u2))) (hu : A.units < cLine) :
    ∃ c, LtAt A s (.ref l) (.ref b) c ∧ (c = true → d1 ≤ d2) ∧ (c = false → d2 ≤ d1) := by
  refine ⟨_, LtAt.pairs hl hb hu ((EqGives.int d1 d2 t1 t2).at _ _) (fun _ => LtAt.int _ _ _ _) ((eqGives_str x1 x2 u1 u2).at _ _) (fun _ => LtAt.str _ _ _ _), ?_, ?_⟩
  · intro h
    by_cases e : d1 = d2
    · omega
    · rw [if_neg (by simpa using e)] at h
      have := of_decide_eq_true h
      omega
  · intro h
    by_cases e : d1 = d2
    · omega
    · rw [if_neg (by simpa using e)] at h
      have := of_decide_eq_false h
      omega

-- second kind: (first kind, order)
theorem two_lt {A : Around} {s : Shared} {p q l b : Addr} {d1 d2 o1 o2 : Int} {x1 x2 : Str} {t1 t2 u1 u2 v1 v2 : Tok} (hp : s.heap.get? p = some (pr (.ref l) (.int o1 v1))) (hq : s.heap.get? q = some (pr (.ref b) (.int o2 v2)))
    (hl : s.heap.get? l = some (pr (.int d1 t1) (.str x1 u1))) (hb : s.heap.get? b = some (pr (.int d2 t2) (.str x2 u2))) (hu : A.units + 10 < cLine) :
    ∃ c, LtAt A s (.ref p) (.ref q) c ∧ (c = true → d1 ≤ d2) ∧ (c = false → d2 ≤ d1) := by
  have hu1 : A.in1.units < cLine := by show A.units + _ < _; omega
  obtain ⟨e, q1, he⟩ := one_eq (A := A.in1) hl hb hu1
  obtain ⟨c, l1, hc1, hc2⟩ := one_lt (A := A.in1) hl hb hu1
  refine ⟨_, LtAt.pairs hp hq (by omega) q1 (fun _ => l1) ((EqGives.int o1 o2 v1 v2).at _ _) (fun _ => LtAt.int _ _ _ _), ?_, ?_⟩
  · intro h
    cases e with
    | true => have := he rfl; omega
    | false => exact hc1 h
  · intro h
    cases e with
    | true => have := he rfl; omega
    | false => exact hc2 h
end Mine

end

-- part M7b
section
open PySem PySem.W PySem.Spec PySem.Calls PyProof.Rows SeqAt
set_option maxRecDepth 100000
set_option maxHeartbeats 4000000
namespace Mine

/-- what stood before stands after, but for R -/
abbrev KeptBut (R : Addr) (h h' : Heap) : Prop := ∀ b o, b ≠ R → h.get? b = some o → h'.get? b = some o

abbrev GivesR (w : World) (f : Addr) (d : Nat) (vs : List Value) (R : Addr) (oR : Obj) (Pre : Heap → Prop) (Post : Heap → Value → Obj → Prop) : Prop :=
  ∀ (mean : ExcName → Option Value) (mg mb : Str → Option Value) (dp un : Nat) (gd : Option (List Code)) (cn : Str) (cs : Scope) (a : Addr) (ccd : Value) (cl : List (Str × Addr)) (outer : List Env) (A₀ : Around) (base h₀ : Heap) (L : Addr) (m : Str → Option Value) (s : Shared) (Q E : Value → Shared → Prop),
    Below A₀ base outer h₀ → Fr h₀ L s.heap m → (hd.heap_39 w.params).In h₀ → Top hd.view_39 (looseW hd.view_39 [Str.ofString "nsmallest"]) mean mg mb h₀ → cs.kind = .function →
    dp + d < recursionLimit → un + 8 * d < cLine → News h₀ L s.heap [(R, oR)] → Pre s.heap →
    (∀ (v : Value) (o : Obj) (h' : Heap) (tk' : Nat), Post s.heap v o → h'.get? R = some o → KeptBut R s.heap h' → Q v { s with heap := h', toks := tk' }) →
      wpAny (model PySem.Challenge.rw_nq0104_01.row.prog w) (ktrTop dp un gd cn cs L a ccd cl outer) (call (.ref f) vs) Q E s

theorem Fr_but {h₀ h h' : Heap} {L R : Addr} {m : Str → Option Value} (F : Fr h₀ L h m) (hR : h₀.get? R = none) (hL : R ≠ L) (k : KeptBut R h h') : Fr h₀ L h' m :=
  ⟨F.ns.at fun o e => k L o (fun x => hL x.symm) e, fun b o e => k b o (fun x => by subst x; rw [hR] at e; cases e) (F.keep b o e), F.above⟩

theorem GivesR.use {w : World} {f : Addr} {d : Nat} {vs : List Value} {R : Addr} {oR : Obj} {Pre : Heap → Prop} {Post : Heap → Value → Obj → Prop} (G : GivesR w f d vs R oR Pre Post)
    {mean : ExcName → Option Value} {mg mb : Str → Option Value} {dp un : Nat} {gd : Option (List Code)} {cn : Str} {cs : Scope} {a : Addr} {ccd : Value} {cl : List (Str × Addr)} {outer : List Env} {A₀ : Around} {base h₀ : Heap} {L : Addr} {m : Str → Option Value} {s : Shared} {Q E : Value → Shared → Prop} {news : List (Addr × Obj)}
    (B : Below A₀ base outer h₀) (F : Fr h₀ L s.heap m) (N : News h₀ L s.heap ((R, oR) :: news)) (X : (hd.heap_39 w.params).In h₀) (T : Top hd.view_39 (looseW hd.view_39 [Str.ofString "nsmallest"]) mean mg mb h₀) (hk : cs.kind = .function)
    (hdp : dp + d < recursionLimit) (hun : un + 8 * d < cLine) (hn : ∀ p ∈ news, p.1 ≠ R) (hp : Pre s.heap)
    (hret : ∀ (v : Value) (o : Obj) (h' : Heap) (tk' : Nat), Post s.heap v o → KeptBut R s.heap h' → Fr h₀ L h' m → News h₀ L h' ((R, o) :: news) → Q v { s with heap := h', toks := tk' }) :
    wpAny (model PySem.Challenge.rw_nq0104_01.row.prog w) (ktrTop dp un gd cn cs L a ccd cl outer) (call (.ref f) vs) Q E s := by
  have n1 := N _ (List.Mem.head _)
  refine G mean mg mb dp un gd cn cs a ccd cl outer A₀ base h₀ L m s Q E B F X T hk hdp hun (fun p hp => by cases hp with | head => exact n1 | tail _ h => cases h) hp fun v o h' tk' hP e k => ?_
  refine hret v o h' tk' hP k (Fr_but F n1.2.2 n1.2.1 k) fun p hp => ?_
  cases hp with
  | head => exact ⟨e, n1.2⟩
  | tail _ h => exact ⟨k _ _ (hn p h) (N p (List.Mem.tail _ h)).1, (N p (List.Mem.tail _ h)).2⟩

section
variable {prog : Program} {w : World} {A₀ A : Around} {E : Value → Shared → Prop} {s : Shared} {base h₀ : Heap} {outer : List Env} {L : Addr} {m : Str → Option Value} {env : Env}

theorem enterR {K : Frag} {p : Program} {loose : List Str} {mean : ExcName → Option Value} {mg mb : Str → Option Value} {R : Result → Shared → Prop} {name qual : Str} {params : Arguments} {body : List Stmt} {scope : Scope} {dV kV doc pm cdv ct oc : Value} {an od : Option Addr} {osl : Array (Option Value)} {f : Addr} {args : Args} {binds : List (Str × Value)} {a : Addr} {oR : Obj}
    (B : Below A₀ base outer h₀) (F : Fr h₀ L s.heap m) (X₀ : K.In h₀) (N : News h₀ L s.heap [(a, oR)]) (T : Top p loose mean mg mb h₀) (hA : A.frames = some (env :: outer)) (hf : env.frame = some L) (hke : env.scope.kind = .function)
    (ho : K.lookup f = some ⟨oc, od, .func (fnOf name qual params body scope dV kV doc pm an cdv ct), osl⟩) (hcd : codeIn K cdv qual = true) (hroom : A.depth < recursionLimit)
    (hbind : BindsTo s (fnOf name qual params body scope dV kV doc pm an cdv ct) args binds) (hloc : ∀ y ∈ binds, scope.names.lookup y.1 = some .local)
    (h : ∀ g L' h₁, KeptBut a s.heap g → Fr h₀ L g m → Fr g L' h₁ (fun y => binds.reverse.lookup y) → News g L' h₁ [(a, oR)] → Below A base (env :: outer) g → K.In g → Top p loose mean mg mb g →
      wpAny (model prog w) (A.deeper (envOf qual scope L' f cdv)) (execs body (envOf qual scope L' f cdv))
        (fun fl s' => LeaveK h₀ L m g R (match fl with | .ret v => v | _ => .none) s')
        (fun e s' => wpAny (model prog w) (A.deeper (envOf qual scope L' f cdv)) (leaving (envOf qual scope L' f cdv) e) (fun _ s'' => R (.error e) s'') (fun e' s'' => R (.error e') s'') s')
        { s with heap := h₁, toks := s.toks + binds.length })
    (hco : scope.isCoroutine = false) (hgen : scope.isGenerator = false) (hk : scope.kind = .function)
    (hcell : ∀ x ∈ scope.names, x.2 ≠ .cell) : codeAny (model prog w) A (.call (.ref f) args) R s :=
  code_defG B F X₀ N T hA hf hke ho hcd hroom hbind hloc (fun g L' h₁ FG F' N' B' X' T' G => h g L' h₁ (fun b o ne e => G b o e (fun hm => by cases hm with | head => exact ne rfl | tail _ h => cases h)) FG F' N' B' X' T') hco hgen hk hcell
end

/-- a pair of a pair (d, text) and an order, both apart from R -/
def Two (R : Addr) (h : Heap) (P : Addr) (d : Int) : Prop := P ≠ R ∧ ∃ l o x t u v, l ≠ R ∧ h.get? P = some (pr (.ref l) (.int o v)) ∧ h.get? l = some (pr (.int d t) (.str x u))
theorem Two.keep {R P : Addr} {h h' : Heap} {d : Int} (a : Two R h P d) (k : ∀ b o, b ≠ R → h.get? b = some o → h'.get? b = some o) : Two R h' P d := by
  obtain ⟨n, l, o, x, t, u, v, nl, a1, a2⟩ := a
  exact ⟨n, l, o, x, t, u, v, nl, k _ _ n a1, k _ _ nl a2⟩
theorem Two.fr {R P L : Addr} {h h' : Heap} {d : Int} {m : Str → Option Value} (a : Two R h P d) (F : Fr h L h' m) : Two R h' P d := a.keep fun b o _ e => F.keep b o e

theorem two_cmp {prog : Program} {w : World} {A : Around} {E : Value → Shared → Prop} {s : Shared} {R P P' : Addr} {d d' : Int} {Q : Value → Shared → Prop} (a : Two R s.heap P d) (b : Two R s.heap P' d') (hu : A.units + 10 < cLine)
    (h1 : d ≤ d' → Q (.bool true) s) (h2 : d' ≤ d → Q (.bool false) s) : wpAny (model prog w) A (compareOp .Lt (.ref P) (.ref P')) Q E s := by
  obtain ⟨n, l, o, x, t, u, v, nl, a1, a2⟩ := a
  obtain ⟨n', l', o', x', t', u', v', nl', b1, b2⟩ := b
  obtain ⟨c, hlt, c1, c2⟩ := two_lt (A := A) a1 b1 a2 b2 hu
  refine hlt prog w E Q ?_
  cases c with
  | true => exact h1 (c1 rfl)
  | false => exact h2 (c2 rfl)

local macro_rules | `(tactic| walk_at "compareOp Lt ref ref") => `(tactic| k_extra "M7b_1")
theorem down_gives (w : World) (R Px Py : Addr) (c : Nat) (dx dy : Int) (t0 t1 : Tok) :
    GivesR w 35 3 [.ref R, .int 0 t0, .int 1 t1] R (W.listOf #[.ref Py, .ref Px] c) (fun h => Two R h Px dx ∧ Two R h Py dy)
      (fun _ v o => v = .none ∧ ∃ c', (o = W.listOf #[.ref Px, .ref Py] c' ∧ dy ≤ dx) ∨ (o = W.listOf #[.ref Py, .ref Px] c' ∧ dx ≤ dy)) := by
  w_top off
  k_with_none
  (k_with "M7b_1" => ((with_reducible rename Fr _ _ _ _ => F9); (refine two_cmp (Two.fr (by assumption) F9) (Two.fr (by assumption) F9) ?u9 (fun hc9 => ?_) (fun hc9 => ?_); (case u9 => ktr_units)) <;> (try dsimp only)))
  unfold GivesR
  k_fill
  intro mean mg mb dp un gd cn cs fa ccd cl outer A₀ base h₀ L m s Q E B F X T hkf hdp hun hN hpre hret
  refine wpAny_call ?_
  k_dflt (refine' enterR ?k1 ?k2 ?k3 hN ?k5 ?kA ?kF ?kK ?k6 ?k7 ?k8 ?k9 ?kB ?_ ?c2 ?c3 ?c4 ?c5; (case kA => exact rfl); (case kF => exact rfl); (case kK => assumption); (case k1 => k_asm); (case k2 => k_asm); (case k3 => k_asm); (case k5 => k_asm); (case k6 => k_is); (case k7 => k_is); (case k8 => ktr_room); (case k9 => exact BindsTo.of_eq rfl); (case c5 => decide); (case kB => exact locs rfl); (case c2 => exact rfl); (case c3 => exact rfl); (case c4 => exact rfl); k_whole; intro g' L' h' G9 FG' F' N' B' X' T'; (try dsimp only); (try k_fold))
  replace F' : Fr g' L' h' (fun y => List.lookup y [((Str.ofString "pos"), Value.int 1 t1), ((Str.ofString "startpos"), Value.int 0 t0), ((Str.ofString "heap"), Value.ref R)]) := F'
  obtain ⟨px, py⟩ := hpre
  have px' := px.keep G9
  have py' := py.keep G9
  clear px py
  repeat' (first | (k_unfold; (try dsimp only)) | walk1 | (dsimp only; walk1) | (leave1; walk_say "STEP leave1"; try dsimp only) | fail "no step")
  · with_reducible rename News g' _ _ _ => N9
    refine hret _ (W.listOf #[.ref Px, .ref Py] _) _ _ ⟨rfl, _, .inl ⟨rfl, by assumption⟩⟩ (N9 _ (List.Mem.head _)).1 (fun b o ne e => Fr.keep (by k_asm) b o (G9 b o ne e))
  · with_reducible rename News g' _ _ _ => N9
    refine hret _ (W.listOf #[.ref Py, .ref Px] _) _ _ ⟨rfl, _, .inr ⟨rfl, by assumption⟩⟩ (N9 _ (List.Mem.head _)).1 (fun b o ne e => Fr.keep (by k_asm) b o (G9 b o ne e))

local macro_rules | `(tactic| walk_at "call ref") => `(tactic| k_extra "M7b_2")
theorem up_gives (w : World) (R Px Py : Addr) (c : Nat) (dx dy : Int) (t0 : Tok) :
    GivesR w 42 5 [.ref R, .int 0 t0] R (W.listOf #[.ref Px, .ref Py] c) (fun h => Two R h Px dx ∧ Two R h Py dy)
      (fun _ v o => v = .none ∧ ∃ c', (o = W.listOf #[.ref Px, .ref Py] c' ∧ dy ≤ dx) ∨ (o = W.listOf #[.ref Py, .ref Px] c' ∧ dx ≤ dy)) := by
  w_top off
  k_with_none
  (k_with "M7b_1" => ((with_reducible rename Fr _ _ _ _ => F9); (refine two_cmp (Two.fr (by assumption) F9) (Two.fr (by assumption) F9) ?u9 (fun hc9 => ?_) (fun hc9 => ?_); (case u9 => ktr_units)) <;> (try dsimp only)))
  (k_with "M7b_2" => ((with_reducible show wpAny _ _ (call (Value.ref 35) [Value.ref _, Value.int _ _, Value.int _ _]) _ _ _); (with_reducible rename Fr _ _ _ _ => F9); (with_reducible rename News _ _ _ _ => N9); k_dflt (refine' GivesR.use (down_gives _ _ _ _ _ _ _ _ _) ?k1 F9 N9 ?k3 ?k5 ?kK ?kd ?ku ?kn ?kp ?_; (case k1 => k_asm); (case k3 => k_asm); (case k5 => k_asm); (case kK => first | exact rfl | assumption); (case kd => ktr_room); (case ku => ktr_units)); (case kn => k_all); (case kp => exact ⟨Two.fr (by assumption) F9, Two.fr (by assumption) F9⟩); intro v9 o9 h9 tk9 hR9 hk9 F10 N10; clear F9 N9; (obtain ⟨e9, c9, hor9⟩ := hR9); subst e9; (try dsimp only)))
  unfold GivesR
  k_fill
  intro mean mg mb dp un gd cn cs fa ccd cl outer A₀ base h₀ L m s Q E B F X T hkf hdp hun hN hpre hret
  refine wpAny_call ?_
  k_dflt (refine' enterR ?k1 ?k2 ?k3 hN ?k5 ?kA ?kF ?kK ?k6 ?k7 ?k8 ?k9 ?kB ?_ ?c2 ?c3 ?c4 ?c5; (case kA => exact rfl); (case kF => exact rfl); (case kK => assumption); (case k1 => k_asm); (case k2 => k_asm); (case k3 => k_asm); (case k5 => k_asm); (case k6 => k_is); (case k7 => k_is); (case k8 => ktr_room); (case k9 => exact BindsTo.of_eq rfl); (case c5 => decide); (case kB => exact locs rfl); (case c2 => exact rfl); (case c3 => exact rfl); (case c4 => exact rfl); k_whole; intro g' L' h' G9 FG' F' N' B' X' T'; (try dsimp only); (try k_fold))
  replace F' : Fr g' L' h' (fun y => List.lookup y [((Str.ofString "pos"), Value.int 0 t0), ((Str.ofString "heap"), Value.ref R)]) := F'
  obtain ⟨px, py⟩ := hpre
  have px' := px.keep G9
  have py' := py.keep G9
  clear px py
  repeat' (first | (k_unfold; (try dsimp only)) | walk1 | (dsimp only; walk1) | (leave1; walk_say "STEP leave1"; try dsimp only) | fail "no step")
  · with_reducible rename News g' _ _ _ => N9
    rename (_ ∧ dy ≤ dx) ∨ _ => hor
    exact hret _ _ _ _ ⟨rfl, _, hor⟩ (N9 _ (List.Mem.head _)).1 (fun b o ne e => Fr.keep (by k_asm) b o (G9 b o ne e))

local macro_rules | `(tactic| walk_at "call ref") => `(tactic| k_extra "M7b_3")
theorem repl_gives (w : World) (R Px Pz Py : Addr) (c : Nat) (dx dy : Int) :
    GivesR w 21 7 [.ref R, .ref Px] R (W.listOf #[.ref Pz, .ref Py] c) (fun h => Two R h Px dx ∧ Two R h Py dy)
      (fun _ v o => v = .ref Pz ∧ ∃ c', (o = W.listOf #[.ref Px, .ref Py] c' ∧ dy ≤ dx) ∨ (o = W.listOf #[.ref Py, .ref Px] c' ∧ dx ≤ dy)) := by
  w_top off
  k_with_none
  (k_with "M7b_1" => ((with_reducible rename Fr _ _ _ _ => F9); (refine two_cmp (Two.fr (by assumption) F9) (Two.fr (by assumption) F9) ?u9 (fun hc9 => ?_) (fun hc9 => ?_); (case u9 => ktr_units)) <;> (try dsimp only)))
  (k_with "M7b_2" => ((with_reducible show wpAny _ _ (call (Value.ref 35) [Value.ref _, Value.int _ _, Value.int _ _]) _ _ _); (with_reducible rename Fr _ _ _ _ => F9); (with_reducible rename News _ _ _ _ => N9); k_dflt (refine' GivesR.use (down_gives _ _ _ _ _ _ _ _ _) ?k1 F9 N9 ?k3 ?k5 ?kK ?kd ?ku ?kn ?kp ?_; (case k1 => k_asm); (case k3 => k_asm); (case k5 => k_asm); (case kK => first | exact rfl | assumption); (case kd => ktr_room); (case ku => ktr_units)); (case kn => k_all); (case kp => exact ⟨Two.fr (by assumption) F9, Two.fr (by assumption) F9⟩); intro v9 o9 h9 tk9 hR9 hk9 F10 N10; clear F9 N9; (obtain ⟨e9, c9, hor9⟩ := hR9); subst e9; (try dsimp only)))
  (k_with "M7b_3" => ((with_reducible show wpAny _ _ (call (Value.ref 42) [Value.ref _, Value.int _ _]) _ _ _); (with_reducible rename Fr _ _ _ _ => F9); (with_reducible rename News _ _ _ _ => N9); k_dflt (refine' GivesR.use (up_gives _ _ _ _ _ _ _ _) ?k1 F9 N9 ?k3 ?k5 ?kK ?kd ?ku ?kn ?kp ?_; (case k1 => k_asm); (case k3 => k_asm); (case k5 => k_asm); (case kK => first | exact rfl | assumption); (case kd => ktr_room); (case ku => ktr_units)); (case kn => k_all); (case kp => exact ⟨Two.fr (by assumption) F9, Two.fr (by assumption) F9⟩); intro v9 o9 h9 tk9 hR9 hk9 F10 N10; clear F9 N9; (obtain ⟨e9, c9, hor9⟩ := hR9); subst e9; (try dsimp only)))
  unfold GivesR
  k_fill
  intro mean mg mb dp un gd cn cs fa ccd cl outer A₀ base h₀ L m s Q E B F X T hkf hdp hun hN hpre hret
  refine wpAny_call ?_
  k_dflt (refine' enterR ?k1 ?k2 ?k3 hN ?k5 ?kA ?kF ?kK ?k6 ?k7 ?k8 ?k9 ?kB ?_ ?c2 ?c3 ?c4 ?c5; (case kA => exact rfl); (case kF => exact rfl); (case kK => assumption); (case k1 => k_asm); (case k2 => k_asm); (case k3 => k_asm); (case k5 => k_asm); (case k6 => k_is); (case k7 => k_is); (case k8 => ktr_room); (case k9 => exact BindsTo.of_eq rfl); (case c5 => decide); (case kB => exact locs rfl); (case c2 => exact rfl); (case c3 => exact rfl); (case c4 => exact rfl); k_whole; intro g' L' h' G9 FG' F' N' B' X' T'; (try dsimp only); (try k_fold))
  replace F' : Fr g' L' h' (fun y => List.lookup y [((Str.ofString "item"), Value.ref Px), ((Str.ofString "heap"), Value.ref R)]) := F'
  obtain ⟨px, py⟩ := hpre
  have px' := px.keep G9
  have py' := py.keep G9
  clear px py
  repeat' (first | (k_unfold; (try dsimp only)) | walk1 | (dsimp only; walk1) | (leave1; walk_say "STEP leave1"; try dsimp only) | fail "no step")
  · with_reducible rename News g' _ _ _ => N9
    rename (_ ∧ dy ≤ dx) ∨ _ => hor
    exact hret _ _ _ _ ⟨rfl, _, hor⟩ (N9 _ (List.Mem.head _)).1 (fun b o ne e => Fr.keep (by k_asm) b o (G9 b o ne e))

section
variable {prog : Program} {w : World} {A : Around} {E : Value → Shared → Prop} {s : Shared}
theorem sub_ri_reversed : isSubtype (.type "range_iterator") (.type "reversed") = pure false := by rw [isSubtype_type]; kernel_rfl
abbrev riObj (a n c : Int) : Obj := { cls := .type "range_iterator", data := .fields #[rawInt a, rawInt n, rawInt c] }

theorem meets_range_rev (r : Addr) (t u v : Tok) :
    Meets (Builtin.«range.__reversed__» ⟨[.ref r], []⟩) (fun _ R s => IsRange s.heap r 0 1 1 t u v ∧
      R (.ok (.ret (.ref s.heap.objs.size))) { s with heap := s.heap.push (riObj 0 1 (-1)) }) :=
  .of_wp fun prog w A R s h => by
    obtain ⟨hp, g, d, tk, os⟩ := s; obtain ⟨hr, h⟩ := h
    wp_walk using AutoSeq1.wpAny_loadPart' hr
    rw [if_pos (by decide +kernel), show Builtin.Range.rangeSize 0 1 1 = 1 by decide +kernel]
    exact ⟨_, rfl, h⟩

theorem code_rev_range {l : Addr} {t u v : Tok} {Q₁ : Value → Shared → Prop} (hl : IsRange s.heap l 0 1 1 t u v)
    (h : Q₁ (.ref s.heap.objs.size) { s with heap := s.heap.push (riObj 0 1 (-1)) }) :
    codeAny (model prog w) A (.call (.builtin "reversed.__new__") ⟨[.type "reversed", .ref l], []⟩) (wants Q₁ E) s := by
  have hT : s.TypeIs (.ref l) "range" := ⟨_, hl, rfl⟩
  refine codeAny_of_tree ?_
  show wpAny _ A.in1 (do checkBuiltinCall "reversed.__new__" ⟨[.type "reversed", .ref l], []⟩; again (.builtin "reversed.__new__" ⟨[.type "reversed", .ref l], []⟩)) _ _ s
  refine wpAny_bind (wpAny_of_eq (F.newCall_reversed_1 _) (wpAny_pure ⟨plainId_quiet F.plain_reversed_new _, codeAny_builtin F.entry_reversed_new ?_⟩))
  rw [Around.under_plainId F.plain_reversed_new _]
  unfold Builtin.«reversed.__new__»
  refine wpAny_bind (wpAny_of_eq (newClass_reversed _) ?_)
  try dsimp only
  refine wpAny_bind (wpAny_of_eq (a := ()) (by first | rfl | kernel_rfl) ?_)
  refine wpAny_bind (wpAny_of_eq (a := ()) (by first | rfl | kernel_rfl) ?_)
  try dsimp only
  refine wpAny_bind (wpAny_specialOf hT F.slot_range_reversed.lookup ?_)
  try dsimp only
  refine wpAny_bind (wpAny_of_eq (F.slot_range_reversed.bind _) ?_)
  try dsimp only
  first
  | rw [if_neg (show ¬ ((Value.builtin "range.__reversed__" == Value.none) = true) from Bool.false_ne_true)]
  | (show wpAny _ _ (if (Value.builtin "range.__reversed__" == Value.none) = true then _ else _) _ _ _; rw [if_neg (show ¬ ((Value.builtin "range.__reversed__" == Value.none) = true) from Bool.false_ne_true)])
  refine wpAny_bind (wpAny_rule ?_)
  refine wpAny_bind (m := runValue (.call (.builtin "range.__reversed__") ⟨[.ref l], []⟩)) (show wpAny _ _ (call (.builtin "range.__reversed__") [.ref l]) _ _ _ from call_meets F.slot_range_reversed hT F.entry_range_reversed (F.args_range_reversed_1 _) (meets_range_rev l t u v) ⟨hl, ?_⟩)
  first
  | exact wpAny_pure h
  | exact wpAny_bind (wpAny_pure (wpAny_pure h))

theorem rev_range {l : Addr} {t u v : Tok} {Q : Value → Shared → Prop} (hl : IsRange s.heap l 0 1 1 t u v)
    (h : Q (.ref s.heap.objs.size) { s with heap := s.heap.push (riObj 0 1 (-1)) }) : wpAny (model prog w) A (call (.type "reversed") [.ref l]) Q E s := by
  refine callType_other (U := "range_iterator") (Q₁ := fun obj s₁ => obj = .ref s.heap.objs.size ∧ s₁ = { s with heap := s.heap.push (riObj 0 1 (-1)) }) (by decide +kernel) F.create_reversed ⟨_, _, F.mro_reversed⟩ F.made_reversed sub_ri_reversed (F.typeCall_reversed_1 _) (code_rev_range hl ⟨rfl, rfl⟩) ?_
  rintro obj s₁ ⟨rfl, rfl⟩
  exact ⟨⟨_, Heap.get?_push_size _ rfl, rfl⟩, h⟩

theorem for_rev1 {h₀ : Heap} {L r : Addr} {env : Env} {x : Str} {body : List Stmt} {Q : Flow → Shared → Prop} {t₀ u₀ v₀ : Tok} {m₀ : Str → Option Value} {news : List (Addr × Obj)} (hL : env.locals = L) (J : Nat → (Str → Option Value) → List (Addr × Obj) → Prop)
    (hh : A.handled = none) (hr : IsRange s.heap r 0 1 1 t₀ u₀ v₀) (F : Fr h₀ L s.heap m₀) (N : News h₀ L s.heap news) (hj : J 0 m₀ news)
    (turn : ∀ t m₁ news₁ h tk I oI, J 0 m₁ news₁ → (∀ p ∈ news₁, p.1 ≠ I) → Fr h₀ L h (fun y => if y = x then some (.int 0 t) else m₁ y) → News h₀ L h ((I, oI) :: news₁) →
      wpAny (model prog w) A (execs body env) (Turn h₀ L I oI (J 1) { s with heap := h, toks := tk } Q) E { s with heap := h, toks := tk })
    (done : ∀ m₁ news₁ h tk, J 1 m₁ news₁ → Fr h₀ L h m₁ → News h₀ L h news₁ → Q .next { s with heap := h, toks := tk }) :
    wpAny (model prog w) A (call (.type "reversed") [.ref r]) (fun xv s₁ => wpAny (model prog w) A (pyIter xv) (fun it s₂ => LoopAtV prog w A h₀ env x body Q E it s₂) E s₁) E s := by
  subst hL
  refine rev_range hr ?_
  have W : Walks prog w A s.heap.objs.size [s.heap.objs.size] [s.heap.objs.size] 1 (fun i v => i < 1 ∧ ∃ t, v = .int (0 + i * (-1)) t)
      (fun i h => IsRangeIter h s.heap.objs.size (0 + (i : Nat) * (-1)) (((1 : Nat) : Int) - (i : Nat)) (-1)) := (Walks.range hh _ 0 (-1) 1).bound
  have st : IsRangeIter (s.heap.push (riObj 0 1 (-1))) s.heap.objs.size (0 + ((0 : Nat) : Int) * (-1)) (((1 : Nat) : Int) - ((0 : Nat) : Int)) (-1) := Heap.get?_push_size _ rfl
  refine W.self 0 _ _ _ st ?_
  have hlt : ∀ p ∈ news, p.1 < s.heap.objs.size := fun p hp => Heap.lt_size (N p hp).1
  refine for_W J W (fun b hb h => absurd (List.mem_singleton.mp hb) h) (fun hm => absurd F.ns.lt ((List.mem_singleton.mp hm) ▸ Nat.lt_irrefl _)) (next_is_new F) (fun i h st => ⟨_, st⟩)
    st (F.push _) (fun p hp => ⟨Heap.get?_push_of_some _ (N p hp).1, (N p hp).2⟩) (fun p hp => Nat.ne_of_lt (hlt p hp)) hj ?_ (fun m₁ news₁ h tk hJ _ F' N' => done m₁ news₁ h tk hJ F' N')
  rintro i v m₁ news₁ h tk oI hi ⟨_, t, rfl⟩ hJ hne F₁ N₁
  have e0 : i = 0 := by omega
  subst e0
  exact turn t m₁ news₁ h tk _ oI hJ hne F₁ N₁
end

theorem heapify_gives (w : World) (R Px Py : Addr) (c : Nat) (dx dy : Int) :
    GivesR w 28 7 [.ref R] R (W.listOf #[.ref Px, .ref Py] c) (fun h => Two R h Px dx ∧ Two R h Py dy)
      (fun _ v o => v = .none ∧ ∃ c', (o = W.listOf #[.ref Px, .ref Py] c' ∧ dy ≤ dx) ∨ (o = W.listOf #[.ref Py, .ref Px] c' ∧ dx ≤ dy)) := by
  w_top off
  k_with_none
  (k_with "M7b_1" => ((with_reducible rename Fr _ _ _ _ => F9); (refine two_cmp (Two.fr (by assumption) F9) (Two.fr (by assumption) F9) ?u9 (fun hc9 => ?_) (fun hc9 => ?_); (case u9 => ktr_units)) <;> (try dsimp only)))
  (k_with "M7b_2" => ((with_reducible show wpAny _ _ (call (Value.ref 35) [Value.ref _, Value.int _ _, Value.int _ _]) _ _ _); (with_reducible rename Fr _ _ _ _ => F9); (with_reducible rename News _ _ _ _ => N9); k_dflt (refine' GivesR.use (down_gives _ _ _ _ _ _ _ _ _) ?k1 F9 N9 ?k3 ?k5 ?kK ?kd ?ku ?kn ?kp ?_; (case k1 => k_asm); (case k3 => k_asm); (case k5 => k_asm); (case kK => first | exact rfl | assumption); (case kd => ktr_room); (case ku => ktr_units)); (case kn => k_all); (case kp => exact ⟨Two.fr (by assumption) F9, Two.fr (by assumption) F9⟩); intro v9 o9 h9 tk9 hR9 hk9 F10 N10; clear F9 N9; (obtain ⟨e9, c9, hor9⟩ := hR9); subst e9; (try dsimp only)))
  (k_with "M7b_3" => ((with_reducible show wpAny _ _ (call (Value.ref 42) [Value.ref _, Value.int _ _]) _ _ _); (with_reducible rename Fr _ _ _ _ => F9); (with_reducible rename News _ _ _ _ => N9); k_dflt (refine' GivesR.use (up_gives _ _ _ _ _ _ _ _) ?k1 F9 N9 ?k3 ?k5 ?kK ?kd ?ku ?kn ?kp ?_; (case k1 => k_asm); (case k3 => k_asm); (case k5 => k_asm); (case kK => first | exact rfl | assumption); (case kd => ktr_room); (case ku => ktr_units)); (case kn => k_all); (case kp => exact ⟨Two.fr (by assumption) F9, Two.fr (by assumption) F9⟩); intro v9 o9 h9 tk9 hR9 hk9 F10 N10; clear F9 N9; (obtain ⟨e9, c9, hor9⟩ := hR9); subst e9; (try dsimp only)))
  unfold GivesR
  k_fill
  intro mean mg mb dp un gd cn cs fa ccd cl outer A₀ base h₀ L m s Q E B F X T hkf hdp hun hN hpre hret
  refine wpAny_call ?_
  k_dflt (refine' enterR ?k1 ?k2 ?k3 hN ?k5 ?kA ?kF ?kK ?k6 ?k7 ?k8 ?k9 ?kB ?_ ?c2 ?c3 ?c4 ?c5; (case kA => exact rfl); (case kF => exact rfl); (case kK => assumption); (case k1 => k_asm); (case k2 => k_asm); (case k3 => k_asm); (case k5 => k_asm); (case k6 => k_is); (case k7 => k_is); (case k8 => ktr_room); (case k9 => exact BindsTo.of_eq rfl); (case c5 => decide); (case kB => exact locs rfl); (case c2 => exact rfl); (case c3 => exact rfl); (case c4 => exact rfl); k_whole; intro g' L' h' G9 FG' F' N' B' X' T'; (try dsimp only); (try k_fold))
  replace F' : Fr g' L' h' (fun y => List.lookup y [((Str.ofString "x"), Value.ref R)]) := F'
  obtain ⟨px, py⟩ := hpre
  have px' := px.keep G9
  have py' := py.keep G9
  clear px py
  repeat' (first | (k_unfold; (try dsimp only)) | walk1 | (dsimp only; walk1) | (leave1; walk_say "STEP leave1"; try dsimp only) | fail "no step")
  · rename IsRange _ _ 0 _ _ _ _ _ => R9
    rename News _ _ _ _ => N9
    rename Fr _ _ _ _ => F9
    k_unmd
    k_fold
    have N8 : News g' L' _ [(R, W.listOf #[.ref Px, .ref Py] c)] := fun p hp => by
      cases hp with
      | head => exact N9 _ (by simp)
      | tail _ h => cases h
    refine for_rev1 rfl (fun i m₁ news₁ => ∃ t u, m₁ = (fun y => if y = (Str.ofString "i") then u else if y = (Str.ofString "n") then some (Value.int 2 t) else List.lookup y [((Str.ofString "x"), Value.ref R)]) ∧
      ((i = 0 ∧ news₁ = [(R, W.listOf #[.ref Px, .ref Py] c)]) ∨ (i = 1 ∧ ∃ o c', news₁ = [(R, o)] ∧ ((o = W.listOf #[.ref Px, .ref Py] c' ∧ dy ≤ dx) ∨ (o = W.listOf #[.ref Py, .ref Px] c' ∧ dx ≤ dy))))) rfl (show IsRange _ _ 0 1 1 _ _ _ from R9) F9 N8 ⟨?tt, none, ?eq, .inl ⟨rfl, rfl⟩⟩ ?turn ?done
    case eq =>
      funext y
      by_cases e : y = (Str.ofString "i")
      · rw [if_pos e, e]; rfl
      · rw [if_neg e]
    case turn =>
      clear F9 N9 N8
      rintro t m₁ news₁ h tk I oI ⟨t', u, rfl, ⟨-, rfl⟩ | ⟨h9, -⟩⟩ hI F9 N9
      · have hRI : @Ne Nat R I := hI _ (List.Mem.head _)
        have N10 : News g' L' h [(R, W.listOf #[.ref Px, .ref Py] c), (I, oI)] := fun p hp => N9 p (by simp at hp ⊢; exact hp.symm)
        clear N9
        dsimp only
        repeat' ((fail_if_success (with_reducible show wpAny _ _ (exec (Stmt.While _ _ _ _) _) _ _ _)); (fail_if_success (with_reducible show wpAny _ _ (pyIter _) _ _ _)); (fail_if_success (with_reducible show wpAny _ _ (eval (Expr.ListComp _ _ _ _) _) _ _ _)); (fail_if_success (with_reducible show wpAny _ _ (exec (Stmt.Assign _ (Expr.ListComp _ _ _ _) _) _) _ _ _)); (fail_if_success (with_reducible show Mine.Ex _ _ _ _ _)); (fail_if_success (with_reducible show WhileStep2 _ _ _ _ _ _ _ _)); (fail_if_success (with_reducible show Mine.Turn _ _ _ _ _ _ _ _ _)); (first | (k_unfold; (try dsimp only)) | walk1 | (dsimp only; walk1) | (leave1; walk_say "STEP leave1"; try dsimp only) | fail "no step"))
        rename (_ ∧ dy ≤ dx) ∨ _ => hor
        with_reducible rename News g' _ _ _ => N9
        with_reducible rename Fr g' _ _ _ => F9
        refine Turn.next (news' := [_]) F9 N9 (fun p hp => by simp at hp ⊢; exact hp.symm) (fun p hp => ?_) ⟨?tt2, ?uu2, ?eq2, .inr ⟨by trivial, _, _, rfl, hor⟩⟩
        · rw [List.mem_singleton.mp hp]; exact hRI
        case eq2 =>
          funext y
          by_cases e : y = (Str.ofString "i")
          · rw [if_pos e, if_pos e]
          · rw [if_neg e, if_neg e]; show (if _ then _ else _) = _; rw [if_neg e]
      · cases h9
    case done =>
      clear F9 N9 N8
      rintro m₁ news₁ h tk ⟨t', u, rfl, ⟨h9, -⟩ | ⟨-, o, c', rfl, hor⟩⟩ F9 N9
      · cases h9
      · dsimp only
        repeat' (first | (k_unfold; (try dsimp only)) | walk1 | (dsimp only; walk1) | (leave1; walk_say "STEP leave1"; try dsimp only) | fail "no step")
        exact hret _ _ _ _ ⟨rfl, _, hor⟩ (N9 _ (List.Mem.head _)).1 (fun b o ne e => Fr.keep (by k_asm) b o (G9 b o ne e))
end Mine

end

-- part M7c
section
open PySem PySem.W PySem.Spec PySem.Calls PyProof.Rows SeqAt
set_option maxRecDepth 100000
set_option maxHeartbeats 4000000
namespace Mine

section
variable {prog : Program} {w : World} {A : Around} {E : Value → Shared → Prop} {s : Shared}

theorem nextOf_range_item {it : Addr} {x left step : Int} {Q : Value → Shared → Prop} (hit : IsRangeIter s.heap it x left step) (hleft : 0 < left)
    (hQ : ∀ h', IsRangeIter h' it (x + step) (left - 1) step → Heap.SameBut it s.heap h' → Q (.int x s.toks) { s with heap := h', toks := s.toks + 1 }) :
    wpAny (model prog w) A (Builtin.SmallTypes.nextOf (.ref it)) Q E s := by
  have hT : s.TypeIs (.ref it) "range_iterator" := ⟨_, hit, rfl⟩
  unfold Builtin.SmallTypes.nextOf
  refine wpAny_bind (wpAny_callSpecial?_slot (name := Str.ofString "__next__") hT F.slot_range_iterator_next
    (call_meets F.slot_range_iterator_next hT F.entry_range_iterator_next (F.args_range_iterator_next_1 _) (AutoRange.range_iterator___next___range_iterator_1 it x left step (by omega)) ⟨hit, ?_⟩))
  exact wpAny_pure (hQ _ (Heap.get?_update_self _ (Heap.get?_update_self _ hit rfl) rfl) ((Heap.SameBut.update ..).trans (Heap.SameBut.update ..)))

theorem nextOf_range_end {it : Addr} {x left step : Int} {Q : Value → Shared → Prop} (hh : A.handled = none) (hit : IsRangeIter s.heap it x left step) (hleft : left ≤ 0)
    (hE : ∀ h' e, Heap.ExtBut it s.heap h' → (∃ o, h'.get? e = some o ∧ o.cls = .type "StopIteration") → E (.ref e) { s with heap := h' }) :
    wpAny (model prog w) A (Builtin.SmallTypes.nextOf (.ref it)) Q E s := by
  have hT : s.TypeIs (.ref it) "range_iterator" := ⟨_, hit, rfl⟩
  unfold Builtin.SmallTypes.nextOf
  refine wpAny_bind (wpAny_callSpecial?_slot (name := Str.ofString "__next__") hT F.slot_range_iterator_next
    (wpAny_call_entry F.slot_range_iterator_next hT F.entry_range_iterator_next ?_ (F.args_range_iterator_next_1 _)))
  show wpAny _ _ (field (.ref it) 0 >>= _) _ _ s
  refine wpAny_bind (wpAny_field hit rfl (x := rawInt x) rfl ?_)
  show wpAny _ _ (field (.ref it) 1 >>= _) _ _ s
  refine wpAny_bind (wpAny_field hit rfl (x := rawInt left) rfl ?_)
  show wpAny _ _ (field (.ref it) 2 >>= _) _ _ s
  refine wpAny_bind (wpAny_field hit rfl (x := rawInt step) rfl ?_)
  show wpAny _ _ (if left ≤ 0 then _ else _) _ _ s
  rw [if_pos hleft]
  refine wpAny_bind (wpAny_rule ?_)
  refine wpAny_bind ?_
  show wpAny _ _ (newExc (.type "StopIteration") [] >>= _) _ _ _
  refine wpAny_bind ?_
  simp only [newExc, newTuple]
  refine wpAny_bind (wpAny_newObj_type ?_ (by size_fits))
  refine wpAny_bind (m := firstArgMember _ _) (wpAny_of_eq (a := Value.none) (by first | rfl | (simp only [firstArgMember]; rfl)) ?_)
  refine wpAny_newObj_type ?_ (by size_fits)
  simp only [raiseNew]
  refine wpAny_bind (wpAny_handled ?_)
  first | rw [show A.in1.handled = none from hh] | rw [hh]
  refine wpAny_bind (wpAny_pure (wpAny_throw ?_))
  exact hE _ _ (((Heap.ExtBut.refl it s.heap).push _).push _) ⟨_, Heap.get?_push_size _ rfl, rfl⟩

/-- the zip of a range walker i1 and a list walker i2, k turns done -/
structure ZipAt (h : Heap) (z TI TO i1 i2 l : Addr) (f0 : Value) (ys : Array Value) (k : Nat) (left : Int) : Prop where
  hz : IsZip h z TI TO f0
  hTI : IsPair h TI (.ref i1) (.ref i2)
  hTO : ∃ a b, IsPair h TO a b
  h1 : IsRangeIter h i1 (k : Int) left 1
  h2 : h.IsListIter i2 l k
  hl : h.IsList l ys

structure Six (z TI TO i1 i2 l : Addr) : Prop where
  TIz : TI ≠ z
  TOz : TO ≠ z
  i1z : i1 ≠ z
  i2z : i2 ≠ z
  TITO : TI ≠ TO
  TIi1 : TI ≠ i1
  TIi2 : TI ≠ i2
  TOi1 : TO ≠ i1
  TOi2 : TO ≠ i2
  i12 : i1 ≠ i2
  lz : l ≠ z
  lTO : l ≠ TO
  li1 : l ≠ i1
  li2 : l ≠ i2

theorem zipR_item {z TI TO i1 i2 l : Addr} {k : Nat} {left : Int} {ys : Array Value} {y : Value} {Q : Value → Shared → Prop} (D : Six z TI TO i1 i2 l)
    (Z : ZipAt s.heap z TI TO i1 i2 l .none ys k left) (hleft : 0 < left) (hy : ys[k]? = some y)
    (hQ : ∀ h', ZipAt h' z TI TO i1 i2 l (rawInt s.heap.objs.size) ys (k + 1) (left - 1) → IsPair h' s.heap.objs.size (.int (k : Int) s.toks) y → h'.objs.size = s.heap.objs.size + 1 →
      (∀ c o, c ≠ z → c ≠ TO → c ≠ i1 → c ≠ i2 → s.heap.get? c = some o → h'.get? c = some o) → Q (.ref s.heap.objs.size) { s with heap := h', toks := s.toks + 1 }) :
    wpAny (model prog w) A (Builtin.«zip.__next__» ⟨[.ref z], []⟩) (fun fin s' => ∃ v, fin = .done (.ret v) ∧ Q v s') E s := by
  obtain ⟨hz, hTI, ⟨a, b, hTO⟩, h1, h2, hl⟩ := Z
  show wpAny _ _ (field (.ref z) 2 >>= _) _ _ _
  refine wpAny_bind (wpAny_field hz rfl (x := .bool false) rfl ?_)
  show wpAny _ _ (field (.ref z) 3 >>= _) _ _ _
  refine wpAny_bind (wpAny_field hz rfl (x := .ref TI) rfl ?_)
  refine wpAny_bind (wpAny_seqItems hTI rfl ?_)
  show wpAny _ _ (Builtin.SmallTypes.ownedTupleIsFree (.ref z) >>= _) _ _ _
  refine wpAny_bind ?_
  unfold Builtin.SmallTypes.ownedTupleIsFree
  refine wpAny_bind (wpAny_field hz rfl (x := .none) rfl (wpAny_pure ?_))
  simp only [if_true]
  refine wpAny_bind (wpAny_rule ?_)
  refine wpAny_bind (wpAny_field hz rfl (x := .ref TO) rfl ?_)
  refine wpAny_bind (wpAny_setField_rec hz (by simp) fun h₁ hz₁ hs₁ => ?_)
  replace hz₁ : IsZip h₁ z TI TO .ellipsis := hz₁
  refine wpAny_bind ?_
  simp only [List.zipIdx_cons, List.zipIdx_nil, List.forIn_cons, List.forIn_nil]
  refine wpAny_bind (wpAny_bind (wpAny_onRaise ?_))
  show wpAny _ _ (Builtin.SmallTypes.nextOf (.ref i1) >>= _) _ _ _
  refine wpAny_bind (nextOf_range_item (hs₁.extBut _ _ D.i1z h1) hleft fun h₂ h1₂ hs₂ => wpAny_pure ?_)
  have hTO₂ : IsPair h₂ TO a b := hs₂.extBut _ _ D.TOi1 (hs₁.extBut _ _ D.TOz hTO)
  refine wpAny_bind (wpAny_seqItems hTO₂ rfl ?_)
  refine wpAny_bind (wpAny_updateSeq_pair hTO₂ fun h₃ hTO₃ hs₃ => ?_)
  replace hTO₃ : IsPair h₃ TO (.int (k : Int) s.toks) b := hTO₃
  refine wpAny_bind (wpAny_letGo (wpAny_pure ?_))
  refine wpAny_bind (wpAny_bind (wpAny_onRaise ?_))
  show wpAny _ _ (Builtin.SmallTypes.nextOf (.ref i2) >>= _) _ _ _
  refine wpAny_bind (wpAny_nextOf_list_item (((h2.extBut hs₁.extBut D.i2z).extBut hs₂.extBut D.i12.symm).extBut hs₃.extBut D.TOi2.symm)
    (((hl.extBut hs₁.extBut D.lz).extBut hs₂.extBut D.li1).extBut hs₃.extBut D.lTO) hy fun h₄ h2₄ hs₄ => wpAny_pure ?_)
  have hTO₄ : IsPair h₄ TO (.int (k : Int) s.toks) b := hs₄.extBut _ _ D.TOi2 hTO₃
  refine wpAny_bind (wpAny_seqItems hTO₄ rfl ?_)
  refine wpAny_bind (wpAny_updateSeq_pair hTO₄ fun h₅ hTO₅ hs₅ => ?_)
  replace hTO₅ : IsPair h₅ TO (.int (k : Int) s.toks) y := hTO₅
  refine wpAny_bind (wpAny_letGo (wpAny_pure (wpAny_pure ?_)))
  refine wpAny_bind (wpAny_seqItems hTO₅ rfl ?_)
  refine wpAny_bind (wpAny_newTuple ?_)
  have hsz : h₅.objs.size = s.heap.objs.size := by rw [hs₅.1, hs₄.1, hs₃.1, hs₂.1, hs₁.1]
  have hk₅ : ∀ c o, c ≠ TO → c ≠ i1 → c ≠ i2 → h₁.get? c = some o → h₅.get? c = some o := fun c o c2 c3 c4 e =>
    hs₅.extBut _ _ c2 (hs₄.extBut _ _ c4 (hs₃.extBut _ _ c2 (hs₂.extBut _ _ c3 e)))
  have hz₅ : IsZip h₅ z TI TO .ellipsis := hk₅ _ _ D.TOz.symm D.i1z.symm D.i2z.symm hz₁
  have h1₅ : IsRangeIter h₅ i1 ((k : Int) + 1) (left - 1) 1 := hs₅.extBut _ _ D.TOi1.symm (hs₄.extBut _ _ D.i12 (hs₃.extBut _ _ D.TOi1.symm h1₂))
  have h2₅ : h₅.IsListIter i2 l (k + 1) := h2₄.extBut hs₅.extBut D.TOi2.symm
  have hzlt : z < h₅.objs.size := Heap.lt_size hz₅
  show wpAny _ _ (Builtin.SmallTypes.ownedTupleHandOut (.ref z) (.ref h₅.objs.size) >>= _) _ _ _
  refine wpAny_bind ?_
  unfold Builtin.SmallTypes.ownedTupleHandOut
  have hz₆ : IsZip (h₅.push { cls := .type "tuple", data := .seq #[.int (k : Int) s.toks, y] }) z TI TO .ellipsis := Heap.get?_push_of_some _ hz₅
  refine wpAny_bind (wpAny_setField_rec hz₆ (by simp) fun h₇ hz₇ hs₇ => ?_)
  replace hz₇ : IsZip h₇ z TI TO (rawInt h₅.objs.size) := hz₇
  refine wpAny_setField_rec hz₇ (by simp) fun h₈ hz₈ hs₈ => ?_
  replace hz₈ : IsZip h₈ z TI TO (rawInt h₅.objs.size) := hz₈
  have up : ∀ c o, c ≠ z → h₅.get? c = some o → h₈.get? c = some o := fun c o c1 e => hs₈.extBut _ _ c1 (hs₇.extBut _ _ c1 (Heap.get?_push_of_some _ e))
  have hT₈ : IsPair h₈ h₅.objs.size (.int (k : Int) s.toks) y := hs₈.extBut _ _ (Nat.ne_of_gt hzlt) (hs₇.extBut _ _ (Nat.ne_of_gt hzlt) (Heap.get?_push_size _ rfl))
  have hz8 : h₈.objs.size = h₅.objs.size + 1 := by rw [hs₈.1, hs₇.1, Heap.size_push]
  have keep : ∀ c o, c ≠ z → c ≠ TO → c ≠ i1 → c ≠ i2 → s.heap.get? c = some o → h₈.get? c = some o := fun c o c1 c2 c3 c4 e => up c o c1 (hk₅ c o c2 c3 c4 (hs₁.extBut _ _ c1 e))
  rw [hsz] at hz₈ hT₈ hz8
  refine wpAny_pure ⟨_, rfl, ?_⟩
  show Q (.ref h₅.objs.size) _
  rw [hsz]
  exact hQ h₈ ⟨hz₈, keep _ _ D.TIz D.TITO D.TIi1 D.TIi2 hTI, ⟨_, _, up _ _ D.TOz hTO₅⟩, by have := up _ _ D.i1z h1₅; exact_mod_cast this, h2₅.at fun o e => up _ o D.i2z e, hl.at fun o e => keep _ o D.lz D.lTO D.li1 D.li2 e⟩ hT₈ hz8 keep

theorem zipR_end {z TI TO i1 i2 l : Addr} {k : Nat} {left : Int} {ys : Array Value} {Q : Fin → Shared → Prop} (hh : A.handled = none) (D : Six z TI TO i1 i2 l)
    (Z : ZipAt s.heap z TI TO i1 i2 l .none ys k left) (hleft : left ≤ 0)
    (hE : ∀ h' e, h'.IsListIter i2 l k → (∀ c o, c ≠ z → c ≠ TO → c ≠ i1 → c ≠ i2 → s.heap.get? c = some o → h'.get? c = some o) → (∃ o, h'.get? e = some o ∧ o.cls = .type "StopIteration") → E (.ref e) { s with heap := h' }) :
    wpAny (model prog w) A (Builtin.«zip.__next__» ⟨[.ref z], []⟩) Q E s := by
  obtain ⟨hz, hTI, ⟨a, b, hTO⟩, h1, h2, hl⟩ := Z
  show wpAny _ _ (field (.ref z) 2 >>= _) _ _ _
  refine wpAny_bind (wpAny_field hz rfl (x := .bool false) rfl ?_)
  show wpAny _ _ (field (.ref z) 3 >>= _) _ _ _
  refine wpAny_bind (wpAny_field hz rfl (x := .ref TI) rfl ?_)
  refine wpAny_bind (wpAny_seqItems hTI rfl ?_)
  show wpAny _ _ (Builtin.SmallTypes.ownedTupleIsFree (.ref z) >>= _) _ _ _
  refine wpAny_bind ?_
  unfold Builtin.SmallTypes.ownedTupleIsFree
  refine wpAny_bind (wpAny_field hz rfl (x := .none) rfl (wpAny_pure ?_))
  simp only [if_true]
  refine wpAny_bind (wpAny_rule ?_)
  refine wpAny_bind (wpAny_field hz rfl (x := .ref TO) rfl ?_)
  refine wpAny_bind (wpAny_setField_rec hz (by simp) fun h₁ hz₁ hs₁ => ?_)
  replace hz₁ : IsZip h₁ z TI TO .ellipsis := hz₁
  refine wpAny_bind ?_
  simp only [List.zipIdx_cons, List.zipIdx_nil, List.forIn_cons, List.forIn_nil]
  refine wpAny_bind (wpAny_bind (wpAny_onRaise ?_))
  show wpAny _ _ (Builtin.SmallTypes.nextOf (.ref i1) >>= _) _ _ _
  refine wpAny_bind (nextOf_range_end hh (hs₁.extBut _ _ D.i1z h1) hleft fun h₂ e hs₂ he => ?_)
  obtain ⟨oe, hoe, hce⟩ := he
  have hz₂ : IsZip h₂ z TI TO .ellipsis := hs₂ _ _ D.i1z.symm hz₁
  have hez : e ≠ z := fun x => by subst x; rw [hz₂] at hoe; cases hoe; simp at hce
  have keep : ∀ h₃, Heap.SameBut z h₂ h₃ → ∀ c o, c ≠ z → c ≠ i1 → s.heap.get? c = some o → h₃.get? c = some o := fun h₃ hs₃ c o c1 c3 x => hs₃.extBut _ _ c1 (hs₂ _ _ c3 (hs₁.extBut _ _ c1 x))
  exact wpAny_setField_rec hz₂ (by simp) fun h₃ _ hs₃ => hE h₃ e (h2.at fun o x => keep h₃ hs₃ _ o D.i2z D.i12.symm x) (fun c o c1 _ c3 _ x => keep h₃ hs₃ c o c1 c3 x) ⟨oe, hs₃.extBut _ _ hez hoe, hce⟩

theorem pyNext_zipR_item {z TI TO i1 i2 l : Addr} {k : Nat} {left : Int} {ys : Array Value} {y : Value} {Q : Option Value → Shared → Prop} (D : Six z TI TO i1 i2 l)
    (Z : ZipAt s.heap z TI TO i1 i2 l .none ys k left) (hleft : 0 < left) (hy : ys[k]? = some y)
    (hQ : ∀ h', ZipAt h' z TI TO i1 i2 l (rawInt s.heap.objs.size) ys (k + 1) (left - 1) → IsPair h' s.heap.objs.size (.int (k : Int) s.toks) y → h'.objs.size = s.heap.objs.size + 1 →
      (∀ c o, c ≠ z → c ≠ TO → c ≠ i1 → c ≠ i2 → s.heap.get? c = some o → h'.get? c = some o) → Q (some (.ref s.heap.objs.size)) { s with heap := h', toks := s.toks + 1 }) :
    wpAny (model prog w) A (pyNext (.ref z)) Q E s := by
  have hT : s.TypeIs (.ref z) "zip" := ⟨_, Z.hz, rfl⟩
  unfold pyNext
  exact wpAny_bind (wpAny_attempt (wpAny_callSpecial?_slot (name := Str.ofString "__next__") hT F.slot_zip_next
    (wpAny_call_entry F.slot_zip_next hT F.entry_zip_next
      (zipR_item D Z hleft hy fun h' a1 a2 a3 a4 => wpAny_pure (hQ h' a1 a2 a3 a4)) (F.args_zip_next_1 _))))

theorem pyNext_zipR_end {z TI TO i1 i2 l : Addr} {k : Nat} {left : Int} {ys : Array Value} {Q : Option Value → Shared → Prop} (hh : A.handled = none) (D : Six z TI TO i1 i2 l)
    (Z : ZipAt s.heap z TI TO i1 i2 l .none ys k left) (hleft : left ≤ 0)
    (hQ : ∀ h', h'.IsListIter i2 l k → (∀ c o, c ≠ z → c ≠ TO → c ≠ i1 → c ≠ i2 → s.heap.get? c = some o → h'.get? c = some o) → Q none { s with heap := h' }) : wpAny (model prog w) A (pyNext (.ref z)) Q E s := by
  have hT : s.TypeIs (.ref z) "zip" := ⟨_, Z.hz, rfl⟩
  unfold pyNext
  refine wpAny_bind (wpAny_attempt (wpAny_callSpecial?_slot (name := Str.ofString "__next__") hT F.slot_zip_next
    (wpAny_call_entry F.slot_zip_next hT F.entry_zip_next (zipR_end hh D Z hleft fun h' e hi hk he => ?_) (F.args_zip_next_1 _))))
  obtain ⟨o, ho, hc⟩ := he
  refine wpAny_bind (wpAny_isInstance (T := "StopIteration") (b := true) ⟨o, ho, hc⟩ isSubtype_stop ?_)
  exact wpAny_pure (hQ _ hi hk)

theorem letGo_zipR {elts : List Expr} {x1} {pos : Pos} {z TI TO i1 i2 l T : Addr} {k : Nat} {left : Int} {ys : Array Value} {Q : Unit → Shared → Prop} (D : Six z TI TO i1 i2 l) (Z : ZipAt s.heap z TI TO i1 i2 l (rawInt T) ys k left)
    (hQ : ∀ h', ZipAt h' z TI TO i1 i2 l .none ys k left → Heap.SameBut z s.heap h' → Q () { s with heap := h' }) :
    wpAny (model prog w) A (letOwnedTupleGo (.Tuple elts x1 pos) (.ref z) (.ref T)) Q E s := by
  obtain ⟨hz, hTI, ⟨a, b, hTO⟩, h1, h2, hl⟩ := Z
  exact wpAny_letOwnedTupleGo_zip hz fun h' hz' hs' => hQ h' ⟨hz', hs'.extBut _ _ D.TIz hTI, ⟨a, b, hs'.extBut _ _ D.TOz hTO⟩, hs'.extBut _ _ D.i1z h1, h2.extBut hs'.extBut D.i2z, hl.extBut hs'.extBut D.lz⟩ hs'

abbrev zR1 (h : Heap) : Heap := h.push (riObj 0 2 1)
abbrev zR2 (h : Heap) (i2 : Addr) : Heap := (zR1 h).push { cls := .type "tuple", data := .seq #[.ref h.objs.size, .ref i2] }
abbrev zR3 (h : Heap) (i2 : Addr) : Heap := (zR2 h i2).push { cls := .type "tuple", data := .seq #[.none, .none] }
abbrev zR4 (h : Heap) (i2 : Addr) : Heap := (zR3 h i2).push { cls := .type "zip", data := .fields #[.none, .bool false, .bool false, .ref (zR1 h).objs.size, .ref (zR2 h i2).objs.size] }

theorem meets_zipR_new (r i2 l : Addr) (t u v : Tok) :
    Meets (Builtin.«zip.__new__» ⟨[.type "zip", .ref r, .ref i2], []⟩) (fun _ R s => IsRange s.heap r 0 2 1 t u v ∧ s.heap.IsListIter i2 l 0 ∧
      R (.ok (.ret (.ref (zR3 s.heap i2).objs.size))) { s with heap := zR4 s.heap i2 }) :=
  .of_wp fun prog w A R s h => by
    obtain ⟨hp, g, d, tk, os⟩ := s; obtain ⟨hr, hi, h⟩ := h
    have hsub := sub_zip
    have hR1 : IsRange (Shared.heap ⟨hp, g, d, tk, os⟩) r 0 2 1 t u v := hr
    have hL2 : Heap.IsListIter (Shared.heap ⟨hp.push { cls := .type "range_iterator", data := .fields #[rawInt 0, rawInt (Builtin.Range.rangeSize 0 2 1), rawInt 1] }, g, d, tk, os⟩) i2 l 0 := by obtain ⟨o, e, rest⟩ := hi; exact ⟨o, Heap.get?_push_of_some _ e, rest⟩
    wp_walk using wpAny_pyIter_range hR1 (by decide +kernel), wpAny_pyIter_listiter hL2
    rw [show Builtin.Range.rangeSize 0 2 1 = 2 by decide +kernel]
    exact ⟨_, rfl, h⟩

theorem call_zipR {r i2 l : Addr} {t u v : Tok} {ys : Array Value} {Q : Value → Shared → Prop} (hr : IsRange s.heap r 0 2 1 t u v) (hi : s.heap.IsListIter i2 l 0) (hl : s.heap.IsList l ys)
    (h : ∀ h', ZipAt h' (s.heap.objs.size + 3) (s.heap.objs.size + 1) (s.heap.objs.size + 2) s.heap.objs.size i2 l .none ys 0 2 → h'.objs.size = s.heap.objs.size + 4 →
      (∀ c o, s.heap.get? c = some o → h'.get? c = some o) → Q (.ref (s.heap.objs.size + 3)) { s with heap := h' }) :
    wpAny (model prog w) A (call (.type "zip") [.ref r, .ref i2]) Q E s := by
  refine callType_new F.called_zip (by decide) (F.typeCall_zip_2 _ _) (F.newCall_zip_2 _ _) (fun obj => F.args_object_init_3 obj _ _) F.entry_zip_new
    (meets_zipR_new r i2 l t u v) ⟨hr, hi, ?_⟩
  have z1 : (zR1 s.heap).objs.size = s.heap.objs.size + 1 := Heap.size_push ..
  have z2 : (zR2 s.heap i2).objs.size = s.heap.objs.size + 2 := by rw [Heap.size_push, z1]
  have z3 : (zR3 s.heap i2).objs.size = s.heap.objs.size + 3 := by rw [Heap.size_push, z2]
  have z4 : (zR4 s.heap i2).objs.size = s.heap.objs.size + 4 := by rw [Heap.size_push, z3]
  have g4 : (zR4 s.heap i2).get? (zR3 s.heap i2).objs.size = some _ := Heap.get?_push_size _ rfl
  have g3 : (zR4 s.heap i2).get? (zR2 s.heap i2).objs.size = some _ := Heap.get?_push_of_some _ (Heap.get?_push_size _ rfl)
  have g2 : (zR4 s.heap i2).get? (zR1 s.heap).objs.size = some _ := Heap.get?_push_of_some _ (Heap.get?_push_of_some _ (Heap.get?_push_size _ rfl))
  have g1 : (zR4 s.heap i2).get? s.heap.objs.size = some _ := Heap.get?_push_of_some _ (Heap.get?_push_of_some _ (Heap.get?_push_of_some _ (Heap.get?_push_size _ rfl)))
  have up : ∀ c o, s.heap.get? c = some o → (zR4 s.heap i2).get? c = some o := fun c o x => Heap.get?_push_of_some _ (Heap.get?_push_of_some _ (Heap.get?_push_of_some _ (Heap.get?_push_of_some _ x)))
  show _ ∧ _
  rw [z1, z2, z3] at g4
  rw [z2] at g3
  rw [z1] at g2
  rw [z3]
  exact ⟨⟨_, g4, rfl⟩, h _ ⟨g4, g2, ⟨_, _, g3⟩, g1, hi.at fun o e => up _ o e, hl.at fun o e => up _ o e⟩ z4 up⟩

theorem iter_list {l : Addr} {ys : Array Value} {Q : Value → Shared → Prop} (hl : s.heap.IsList l ys)
    (h : Q (.ref s.heap.objs.size) { s with heap := s.heap.push { cls := .type "list_iterator", data := .fields #[.ref l, .int 0 0] } }) : wpAny (model prog w) A (call (.builtin "iter") [.ref l]) Q E s := by
  refine call_function_entry (by decide +kernel) (by decide +kernel) kdk_entry_iter (kdk_args_iter _) ?_
  unfold Builtin.«iter»
  refine wpAny_bind (m := someArgs "iter" 1 2 _) (wpAny_of_eq (a := [Value.ref l]) (by first | rfl | kernel_rfl!) ?_)
  show wpAny _ _ (pyIter (.ref l) >>= _) _ _ _
  exact wpAny_bind (wpAny_pyIter_list hl (wpAny_pure ⟨_, rfl, h⟩))
end
end Mine

end

-- part M7d
section
open PySem PySem.W PySem.Spec PySem.Calls PyProof.Rows SeqAt
set_option maxRecDepth 100000
set_option maxHeartbeats 4000000
namespace Mine

abbrev liObj (l : Addr) (k : Nat) : Obj := { cls := .type "list_iterator", data := .fields #[.ref l, .int k 0] }

/-- i pairs made so far -/
def Made (its : Array Value) (n0 : Nat) (i : Nat) (acc : List Value) (nn : List (Addr × Obj)) : Prop :=
  (i = 0 ∧ acc = [] ∧ nn = []) ∨
  (i = 1 ∧ ∃ (A0 : Addr) (t0 : Tok) (v0 : Value), its[0]? = some v0 ∧ acc = [.ref A0] ∧ nn = [(A0, pr v0 (.int 0 t0))] ∧ @LT.lt Nat _ (n0 + 1) A0) ∨
  (i = 2 ∧ ∃ (A0 A1 : Addr) (t0 t1 : Tok) (v0 v1 : Value), its[0]? = some v0 ∧ its[1]? = some v1 ∧ acc = [.ref A0, .ref A1] ∧ nn = [(A0, pr v0 (.int 0 t0)), (A1, pr v1 (.int 1 t1))] ∧ @LT.lt Nat _ (n0 + 1) A0 ∧ @LT.lt Nat _ A0 A1)
theorem Made.above {its : Array Value} {n0 i : Nat} {acc : List Value} {nn : List (Addr × Obj)} (J : Made its n0 i acc nn) : ∀ p ∈ nn, @LT.lt Nat _ (n0 + 1) p.1 := by
  rcases J with ⟨_, _, rfl⟩ | ⟨_, A0, t0, v0, _, _, rfl, h⟩ | ⟨_, A0, A1, t0, t1, v0, v1, _, _, _, rfl, h, h'⟩
  · intro p hp; cases hp
  · intro p hp; rw [List.mem_singleton.mp hp]; exact h
  · intro p hp
    rcases List.mem_cons.mp hp with rfl | hp
    · exact h
    · rw [List.mem_singleton.mp hp]; exact Nat.lt_trans h h'
theorem Made.len {its : Array Value} {n0 i : Nat} {acc : List Value} {nn : List (Addr × Obj)} (J : Made its n0 i acc nn) : acc.length = i := by
  rcases J with ⟨rfl, rfl, _⟩ | ⟨rfl, A0, t0, v0, _, rfl, _⟩ | ⟨rfl, A0, A1, t0, t1, v0, v1, _, _, rfl, _⟩ <;> rfl
theorem Made.step {its : Array Value} {n0 i : Nat} {acc : List Value} {nn : List (Addr × Obj)} (J : Made its n0 i acc nn) (hi : i < 2) {v : Value} (hv : its[i]? = some v) (T : Addr) (t : Tok) (h1 : @LT.lt Nat _ (n0 + 1) T) (h2 : ∀ p ∈ nn, @LT.lt Nat _ p.1 T) :
    Made its n0 (i + 1) (acc ++ [.ref T]) (nn ++ [(T, pr v (.int (i : Int) t))]) := by
  rcases J with ⟨rfl, rfl, rfl⟩ | ⟨rfl, A0, t0, v0, e0, rfl, rfl, h⟩ | ⟨rfl, _⟩
  · exact .inr (.inl ⟨rfl, T, t, v, hv, rfl, rfl, h1⟩)
  · exact .inr (.inr ⟨rfl, A0, T, t0, t, v0, v, e0, hv, rfl, rfl, h, h2 _ (List.Mem.head _)⟩)
  · omega

theorem ZipAt.move {h h' : Heap} {z TI TO i1 i2 l : Addr} {f0 : Value} {ys : Array Value} {k : Nat} {left : Int} (Z : ZipAt h z TI TO i1 i2 l f0 ys k left)
    (e : ∀ c o, (c = z ∨ c = TI ∨ c = TO ∨ c = i1 ∨ c = i2 ∨ c = l) → h.get? c = some o → h'.get? c = some o) : ZipAt h' z TI TO i1 i2 l f0 ys k left := by
  obtain ⟨hz, hTI, ⟨a, b, hTO⟩, h1, h2, hl⟩ := Z
  exact ⟨e _ _ (by simp) hz, e _ _ (by simp) hTI, ⟨a, b, e _ _ (by simp) hTO⟩, e _ _ (by simp) h1, h2.at fun o => e _ o (by simp), hl.at fun o => e _ o (by simp)⟩

section
variable {prog : Program} {w : World} {A : Around} {E : Value → Shared → Prop} {s : Shared} {h₀ : Heap} {L : Addr} {m : Str → Option Value} {env : Env}

theorem ev_pair {scope : Scope} {cl : List (Str × Addr)} {C : Addr} {x x₂ : Str} {q1 q2 qp : Pos} {kk : Nat} {m₂ : Str → Option Value} {a b : Value} {Q : Value → Shared → Prop} (hkind : scope.kind = .function) (hx : scope.names.lookup x = some .local) (hx₂ : scope.names.lookup x₂ = some .local)
    (hd1 : (x == ("__debug__" : Str)) = false) (hd2 : (x₂ == ("__debug__" : Str)) = false) (hn : s.heap.Ns C m₂) (ha : m₂ x = some a) (hb : m₂ x₂ = some b)
    (h : Q (.ref s.heap.objs.size) { s with heap := s.heap.push (pr b a) }) : wpAny (model prog w) A (eval (.Tuple [.Name x₂ q2, .Name x q1] kk qp) (compEnvC scope cl C env)) Q E s := by
  refine wpAny_Tuple ?_
  refine wpAny_items_cons (wpAny_Name (wpAny_loadName_local (by simp [compEnvC, relabel, hkind]) (lookup_relabel_local hx₂) hn hb ?_) hd2)
  refine wpAny_items_cons (wpAny_Name (wpAny_loadName_local (by simp [compEnvC, relabel, hkind]) (lookup_relabel_local hx) hn ha ?_) hd1)
  exact wpAny_items_nil ⟨by show 2 ≤ sizeLine; rw [sizeLine_eq]; omega, h⟩

theorem Assign_Z {iter : Expr} {x x₂ y : Str} {q1 q2 qp px px₂ tp py : Pos} {kk tk} {scope : Scope} {cl : List (Str × Addr)} {pos spos : Pos} {Q : Flow → Shared → Prop} (F₀ : Fr h₀ L s.heap m) (hLe : env.locals = L)
    (hsw : swapsWith (.ListComp (.Tuple [.Name x₂ q2, .Name x q1] kk qp) [⟨.Tuple [.Name x px, .Name x₂ px₂] tk tp, iter, [], 0⟩] scope pos) (some (.Name y py)) spos.line env = pure true)
    (hclos : closureFor scope env = pure cl) (hcell : ∀ z ∈ scope.names, z.2 ≠ .cell) (hkind : scope.kind = .function)
    (hnames : ∀ z ∈ scope.names, z.2 = .local → scope.names.lookup z.1 = some .local) (hx : scope.names.lookup x = some .local) (hx₂ : scope.names.lookup x₂ = some .local) (hxx : x ≠ x₂)
    (hd1 : (x == ("__debug__" : Str)) = false) (hd2 : (x₂ == ("__debug__" : Str)) = false)
    (hy : env.kindOf y = some .local) (hp : (env.scope.kind == .class || (env.scope.kind == .module && env.locals != env.globals)) = false)
    (h : wpAny (model prog w) A (eval iter env) (fun xv s₁ => ∃ z TI TO i1 i2 l its news, xv = .ref z ∧ A.handled = none ∧ Fr h₀ L s₁.heap m ∧ News h₀ L s₁.heap news ∧ ZipAt s₁.heap z TI TO i1 i2 l .none its 0 2 ∧ Six z TI TO i1 i2 l ∧ 2 ≤ its.size ∧
      (∀ c, (c = z ∨ c = TI ∨ c = TO ∨ c = i1 ∨ c = i2) → c ≠ L ∧ h₀.get? c = none) ∧ (∀ p ∈ news, p.1 ≠ z ∧ p.1 ≠ TO ∧ p.1 ≠ i1 ∧ p.1 ≠ i2) ∧
      (∀ D A0 A1 t0 t1 v0 v1 h tk oI, oI.cls = .type "list_iterator" → oI.data = .fields #[.ref l, .int (2 : Nat) 0] → its[0]? = some v0 → its[1]? = some v1 → Fr h₀ L h (fun q => if q = y then some (.ref D) else m q) →
        News h₀ L h ((D, LCg.lst [.ref A0, .ref A1]) :: (A0, pr v0 (.int 0 t0)) :: (A1, pr v1 (.int 1 t1)) :: (i2, oI) :: news) → (∀ p ∈ news, @LT.lt Nat _ p.1 D) → @LT.lt Nat _ i2 D → @LT.lt Nat _ D A0 → @LT.lt Nat _ A0 A1 → Q .next { s₁ with heap := h, toks := tk })) E s)
    (hs : ∀ x, foldedSetIterable iter env x = pure x := by intro _; rfl) :
    wpAny (model prog w) A (exec (.Assign [.Name y py] (.ListComp (.Tuple [.Name x₂ q2, .Name x q1] kk qp) [⟨.Tuple [.Name x px, .Name x₂ px₂] tk tp, iter, [], 0⟩] scope pos) spos) env) Q E s := by
  have _ := F₀
  subst hLe
  rw [exec_Assign_Name_used _ _ _ _ hsw]
  refine wpAny_bind (wpAny_standAt (wpAny_bind ?_))
  show wpAny _ A (do let _ ← comprehension (.ListComp (.Tuple [.Name x₂ q2, .Name x q1] kk qp) [⟨.Tuple [.Name x px, .Name x₂ px₂] tk tp, iter, [], 0⟩] scope pos) scope env _ (newList []) false (eval iter env) (some (assign (.Name y py) env))) _ _ s
  refine wpAny_bind (wpAny_mono (wpAny_comprehension_free (use := some (assign (.Name y py) env)) (Q := fun _ s' => Q .next s') rfl hs hclos hkind hnames
    (wpAny_mono h (fun xv s₁ h₁ => ?_) fun _ _ e => e)) (fun _ s' hq => wpAny_pure (wpAny_pure hq)) fun _ _ e => e)
  obtain ⟨z, TI, TO, i1, i2, l, its, news, rfl, hh, F, N, Z, D6, h2, hnew, hoff, fin⟩ := h₁
  refine wpAny_pyIter_zip Z.hz ?_
  have hLlt : @LT.lt Nat _ env.locals s₁.heap.objs.size := F.ns.lt
  have hnlt : ∀ p ∈ news, @LT.lt Nat _ p.1 s₁.heap.objs.size := fun p hp => Heap.lt_size (N p hp).1
  have h0lt : ∀ b o, h₀.get? b = some o → @LT.lt Nat _ b s₁.heap.objs.size := fun b o e => Heap.lt_size (F.keep b o e)
  have hzlt : ∀ c, (c = z ∨ c = TI ∨ c = TO ∨ c = i1 ∨ c = i2 ∨ c = l) → @LT.lt Nat _ c s₁.heap.objs.size := by
    obtain ⟨hz, hTI, ⟨a, b, hTO⟩, h1, ⟨_, h2, _⟩, ⟨_, hl, _⟩⟩ := Z
    rintro c (rfl | rfl | rfl | rfl | rfl | rfl)
    · exact Heap.lt_size hz
    · exact Heap.lt_size hTI
    · exact Heap.lt_size hTO
    · exact Heap.lt_size h1
    · exact Heap.lt_size h2
    · exact Heap.lt_size hl
  generalize hn0 : s₁.heap.objs.size = n0 at *
  have h0none : ∀ a : Nat, n0 ≤ a → h₀.get? a = none := fun a ha => by
    cases e : h₀.get? a with
    | none => rfl
    | some o => exact absurd (h0lt a o e) (Nat.not_lt.mpr ha)
  have h0ne : ∀ b o, h₀.get? b = some o → b ≠ z ∧ b ≠ TO ∧ b ≠ i1 ∧ b ≠ i2 := fun b o e => by
    refine ⟨fun q => ?_, fun q => ?_, fun q => ?_, fun q => ?_⟩ <;> subst q
    · rw [(hnew b (by simp)).2] at e; cases e
    · rw [(hnew b (by simp)).2] at e; cases e
    · rw [(hnew b (by simp)).2] at e; cases e
    · rw [(hnew b (by simp)).2] at e; cases e
  have lz : env.locals ≠ z := Ne.symm (hnew z (by simp)).1
  have lTO : env.locals ≠ TO := Ne.symm (hnew TO (by simp)).1
  have l1 : env.locals ≠ i1 := Ne.symm (hnew i1 (by simp)).1
  have l2 : env.locals ≠ i2 := Ne.symm (hnew i2 (by simp)).1
  refine wpAny_newObj_type (wpAny_newFunctionEnv hcell (by intro y hy; simp at hy) (fun h₁ hns₁ hsb₁ => ?_) hkind)
  dsimp only at hns₁ hsb₁ ⊢
  generalize hH2 : s₁.heap.push { cls := .type "list", dict := none, data := .seq ([] : List Value).toArray } = H2 at hns₁ hsb₁ ⊢
  have zH2 : H2.objs.size = n0 + 1 := by rw [← hH2, Heap.size_push, hn0]
  rw [zH2] at hns₁ hsb₁ ⊢
  rw [hn0]
  have old : ∀ (b : Nat) o, s₁.heap.get? b = some o → h₁.get? b = some o := fun b o e => by
    have : @LT.lt Nat _ b n0 := hn0 ▸ Heap.lt_size e
    exact hsb₁.extBut b o (by show @Ne Nat b (n0 + 1); (first | exact Nat.ne_of_lt (by assumption) | exact Nat.ne_of_gt (by assumption) | exact Nat.ne_of_lt (Nat.lt_succ_of_lt (by assumption)) | exact Nat.ne_of_lt (Nat.lt_succ_of_lt (Nat.lt_succ_of_lt (by assumption))) | exact Nat.ne_of_gt (Nat.lt_succ_of_lt (by assumption)) | exact Nat.ne_of_gt (Nat.lt_succ_of_lt (Nat.lt_succ_of_lt (by assumption))) | exact Nat.ne_of_lt (Nat.lt_succ_self _) | exact Nat.ne_of_gt (Nat.lt_succ_self _) | exact Nat.ne_of_lt (Nat.lt_succ_of_lt (Nat.lt_succ_self _)) | exact Nat.ne_of_gt (Nat.lt_succ_of_lt (Nat.lt_succ_self _)) | omega)) (Heap.get?_push_of_some _ (hH2 ▸ Heap.get?_push_of_some _ e))
  have hacc : h₁.get? n0 = some (LCg.lst []) := by
    refine hsb₁.extBut _ _ (by show @Ne Nat n0 (n0 + 1); (first | exact Nat.ne_of_lt (by assumption) | exact Nat.ne_of_gt (by assumption) | exact Nat.ne_of_lt (Nat.lt_succ_of_lt (by assumption)) | exact Nat.ne_of_lt (Nat.lt_succ_of_lt (Nat.lt_succ_of_lt (by assumption))) | exact Nat.ne_of_gt (Nat.lt_succ_of_lt (by assumption)) | exact Nat.ne_of_gt (Nat.lt_succ_of_lt (Nat.lt_succ_of_lt (by assumption))) | exact Nat.ne_of_lt (Nat.lt_succ_self _) | exact Nat.ne_of_gt (Nat.lt_succ_self _) | exact Nat.ne_of_lt (Nat.lt_succ_of_lt (Nat.lt_succ_self _)) | exact Nat.ne_of_gt (Nat.lt_succ_of_lt (Nat.lt_succ_self _)) | omega)) (Heap.get?_push_of_some _ ?_)
    rw [← hH2, ← hn0]
    exact Heap.get?_push_size _ rfl
  have loop : ∀ s₃ : Shared, s₃ = { s₁ with heap := h₁, toks := s₁.toks + ([] : List (Str × Value)).length } →
      codeAny (model prog w) A (.compLoop (.ListComp (.Tuple [.Name x₂ q2, .Name x q1] kk qp) [⟨.Tuple [.Name x px, .Name x₂ px₂] tk tp, iter, [], 0⟩] scope pos) 0 (.ref z) (.ref n0) (compEnvC scope cl (n0 + 1) env))
        (compPost (model prog w) A E (some (assign (.Name y py) env)) (fun _ s' => Q .next s') (.ref n0) (n0 + 1)) s₃ := by
    rintro s₃ rfl
    refine LCp.codeAny_compLoop_pair
      (fun k s' => ∃ h' tk i acc nn m', s' = { s₁ with heap := h', toks := tk } ∧ i ≤ 2 ∧ k = 3 - i ∧ Made its n0 i acc nn ∧ ZipAt h' z TI TO i1 i2 l .none its i (2 - (i : Int)) ∧ Fr h₀ env.locals h' m ∧ h'.Ns (n0 + 1) m' ∧ News h₀ env.locals h' ((n0, LCg.lst acc) :: (nn ++ news)))
      ?_ 3 ⟨h₁, _, 0, [], [], _, rfl, Nat.zero_le _, rfl, .inl ⟨rfl, rfl, rfl⟩, Z.move fun c o _ e => old c o e, F.keeps fun b o e => old b o e, hns₁, fun p hp => ?_⟩
    · rintro k s' ⟨h', tk, i, acc, nn, m', rfl, hi, rfl, J, Z', F', hn', N'⟩
      have hnn := J.above
      have offs : ∀ p ∈ ((n0, LCg.lst acc) :: (nn ++ news)), p.1 ≠ z ∧ p.1 ≠ TO ∧ p.1 ≠ i1 ∧ p.1 ≠ i2 ∧ @Ne Nat p.1 (n0 + 1) := fun p hp => by
        have a1 := hzlt z (by simp); have a2 := hzlt TO (by simp); have a3 := hzlt i1 (by simp); have a4 := hzlt i2 (by simp)
        rcases List.mem_cons.mp hp with rfl | hp
        · refine ⟨?_, ?_, ?_, ?_, ?_⟩ <;> first | (show @Ne Nat n0 _; (first | exact Nat.ne_of_lt (by assumption) | exact Nat.ne_of_gt (by assumption) | exact Nat.ne_of_lt (Nat.lt_succ_of_lt (by assumption)) | exact Nat.ne_of_lt (Nat.lt_succ_of_lt (Nat.lt_succ_of_lt (by assumption))) | exact Nat.ne_of_gt (Nat.lt_succ_of_lt (by assumption)) | exact Nat.ne_of_gt (Nat.lt_succ_of_lt (Nat.lt_succ_of_lt (by assumption))) | exact Nat.ne_of_lt (Nat.lt_succ_self _) | exact Nat.ne_of_gt (Nat.lt_succ_self _) | exact Nat.ne_of_lt (Nat.lt_succ_of_lt (Nat.lt_succ_self _)) | exact Nat.ne_of_gt (Nat.lt_succ_of_lt (Nat.lt_succ_self _)) | omega))
        · rcases List.mem_append.mp hp with hp | hp
          · have := hnn p hp
            refine ⟨?_, ?_, ?_, ?_, ?_⟩ <;> (show @Ne Nat p.1 _; (first | exact Nat.ne_of_lt (by assumption) | exact Nat.ne_of_gt (by assumption) | exact Nat.ne_of_lt (Nat.lt_succ_of_lt (by assumption)) | exact Nat.ne_of_lt (Nat.lt_succ_of_lt (Nat.lt_succ_of_lt (by assumption))) | exact Nat.ne_of_gt (Nat.lt_succ_of_lt (by assumption)) | exact Nat.ne_of_gt (Nat.lt_succ_of_lt (Nat.lt_succ_of_lt (by assumption))) | exact Nat.ne_of_lt (Nat.lt_succ_self _) | exact Nat.ne_of_gt (Nat.lt_succ_self _) | exact Nat.ne_of_lt (Nat.lt_succ_of_lt (Nat.lt_succ_self _)) | exact Nat.ne_of_gt (Nat.lt_succ_of_lt (Nat.lt_succ_self _)) | omega))
          · have a5 := hoff p hp
            have := hnlt p hp
            exact ⟨a5.1, a5.2.1, a5.2.2.1, a5.2.2.2, by omega⟩
      by_cases hlt : i < 2
      · obtain ⟨v, hv⟩ : ∃ v, its[i]? = some v := ⟨its[i], Array.getElem?_eq_getElem (by first | exact Nat.ne_of_lt (by assumption) | exact Nat.ne_of_gt (by assumption) | exact Nat.ne_of_lt (Nat.lt_succ_of_lt (by assumption)) | exact Nat.ne_of_lt (Nat.lt_succ_of_lt (Nat.lt_succ_of_lt (by assumption))) | exact Nat.ne_of_gt (Nat.lt_succ_of_lt (by assumption)) | exact Nat.ne_of_gt (Nat.lt_succ_of_lt (Nat.lt_succ_of_lt (by assumption))) | exact Nat.ne_of_lt (Nat.lt_succ_self _) | exact Nat.ne_of_gt (Nat.lt_succ_self _) | exact Nat.ne_of_lt (Nat.lt_succ_of_lt (Nat.lt_succ_self _)) | exact Nat.ne_of_gt (Nat.lt_succ_of_lt (Nat.lt_succ_self _)) | omega)⟩
        refine pyNext_zipR_item D6 Z' (by first | exact Nat.ne_of_lt (by assumption) | exact Nat.ne_of_gt (by assumption) | exact Nat.ne_of_lt (Nat.lt_succ_of_lt (by assumption)) | exact Nat.ne_of_lt (Nat.lt_succ_of_lt (Nat.lt_succ_of_lt (by assumption))) | exact Nat.ne_of_gt (Nat.lt_succ_of_lt (by assumption)) | exact Nat.ne_of_gt (Nat.lt_succ_of_lt (Nat.lt_succ_of_lt (by assumption))) | exact Nat.ne_of_lt (Nat.lt_succ_self _) | exact Nat.ne_of_gt (Nat.lt_succ_self _) | exact Nat.ne_of_lt (Nat.lt_succ_of_lt (Nat.lt_succ_self _)) | exact Nat.ne_of_gt (Nat.lt_succ_of_lt (Nat.lt_succ_self _)) | omega) hv fun h₂ Z₂ hT₂ hsz₂ k₂ => ?_
        dsimp only at Z₂ hT₂ hsz₂ k₂ ⊢
        have hnb : @LT.lt Nat _ (n0 + 1) h'.objs.size := hn'.lt
        generalize hT : h'.objs.size = T at *
        refine letGo_zipR D6 Z₂ fun h₃ Z₃ hs₃ => ?_
        dsimp only at hs₃ ⊢
        have a1 := hzlt z (by simp); have a2 := hzlt TO (by simp); have a3 := hzlt i1 (by simp); have a4 := hzlt i2 (by simp)
        have hT₃ : IsPair h₃ T (.int (i : Int) tk) v := hs₃.extBut _ _ (by show @Ne Nat T z; (first | exact Nat.ne_of_lt (by assumption) | exact Nat.ne_of_gt (by assumption) | exact Nat.ne_of_lt (Nat.lt_succ_of_lt (by assumption)) | exact Nat.ne_of_lt (Nat.lt_succ_of_lt (Nat.lt_succ_of_lt (by assumption))) | exact Nat.ne_of_gt (Nat.lt_succ_of_lt (by assumption)) | exact Nat.ne_of_gt (Nat.lt_succ_of_lt (Nat.lt_succ_of_lt (by assumption))) | exact Nat.ne_of_lt (Nat.lt_succ_self _) | exact Nat.ne_of_gt (Nat.lt_succ_self _) | exact Nat.ne_of_lt (Nat.lt_succ_of_lt (Nat.lt_succ_self _)) | exact Nat.ne_of_gt (Nat.lt_succ_of_lt (Nat.lt_succ_self _)) | omega)) hT₂
        have z3 : h₃.objs.size = T + 1 := by rw [hs₃.1, hsz₂]
        have k₃ : ∀ c o, c ≠ z → c ≠ TO → c ≠ i1 → c ≠ i2 → h'.get? c = some o → h₃.get? c = some o := fun c o c1 c2 c3 c4 e => hs₃.extBut _ _ c1 (k₂ c o c1 c2 c3 c4 e)
        refine assign_Tuple_tuple hh ⟨_, hT₃, rfl, _, rfl⟩ rfl rfl fun h₅ he => ?_
        have he' : ∀ b o, h₃.get? b = some o → h₅.get? b = some o := fun b o e => he b o (Nat.ne_of_lt (Heap.lt_size e)) e
        have n5 : h₅.Ns (n0 + 1) m' := (hn'.at' fun o e => k₃ _ o (by show @Ne Nat (n0 + 1) z; (first | exact Nat.ne_of_lt (by assumption) | exact Nat.ne_of_gt (by assumption) | exact Nat.ne_of_lt (Nat.lt_succ_of_lt (by assumption)) | exact Nat.ne_of_lt (Nat.lt_succ_of_lt (Nat.lt_succ_of_lt (by assumption))) | exact Nat.ne_of_gt (Nat.lt_succ_of_lt (by assumption)) | exact Nat.ne_of_gt (Nat.lt_succ_of_lt (Nat.lt_succ_of_lt (by assumption))) | exact Nat.ne_of_lt (Nat.lt_succ_self _) | exact Nat.ne_of_gt (Nat.lt_succ_self _) | exact Nat.ne_of_lt (Nat.lt_succ_of_lt (Nat.lt_succ_self _)) | exact Nat.ne_of_gt (Nat.lt_succ_of_lt (Nat.lt_succ_self _)) | omega)) (by show @Ne Nat (n0 + 1) TO; (first | exact Nat.ne_of_lt (by assumption) | exact Nat.ne_of_gt (by assumption) | exact Nat.ne_of_lt (Nat.lt_succ_of_lt (by assumption)) | exact Nat.ne_of_lt (Nat.lt_succ_of_lt (Nat.lt_succ_of_lt (by assumption))) | exact Nat.ne_of_gt (Nat.lt_succ_of_lt (by assumption)) | exact Nat.ne_of_gt (Nat.lt_succ_of_lt (Nat.lt_succ_of_lt (by assumption))) | exact Nat.ne_of_lt (Nat.lt_succ_self _) | exact Nat.ne_of_gt (Nat.lt_succ_self _) | exact Nat.ne_of_lt (Nat.lt_succ_of_lt (Nat.lt_succ_self _)) | exact Nat.ne_of_gt (Nat.lt_succ_of_lt (Nat.lt_succ_self _)) | omega)) (by show @Ne Nat (n0 + 1) i1; (first | exact Nat.ne_of_lt (by assumption) | exact Nat.ne_of_gt (by assumption) | exact Nat.ne_of_lt (Nat.lt_succ_of_lt (by assumption)) | exact Nat.ne_of_lt (Nat.lt_succ_of_lt (Nat.lt_succ_of_lt (by assumption))) | exact Nat.ne_of_gt (Nat.lt_succ_of_lt (by assumption)) | exact Nat.ne_of_gt (Nat.lt_succ_of_lt (Nat.lt_succ_of_lt (by assumption))) | exact Nat.ne_of_lt (Nat.lt_succ_self _) | exact Nat.ne_of_gt (Nat.lt_succ_self _) | exact Nat.ne_of_lt (Nat.lt_succ_of_lt (Nat.lt_succ_self _)) | exact Nat.ne_of_gt (Nat.lt_succ_of_lt (Nat.lt_succ_self _)) | omega)) (by show @Ne Nat (n0 + 1) i2; (first | exact Nat.ne_of_lt (by assumption) | exact Nat.ne_of_gt (by assumption) | exact Nat.ne_of_lt (Nat.lt_succ_of_lt (by assumption)) | exact Nat.ne_of_lt (Nat.lt_succ_of_lt (Nat.lt_succ_of_lt (by assumption))) | exact Nat.ne_of_gt (Nat.lt_succ_of_lt (by assumption)) | exact Nat.ne_of_gt (Nat.lt_succ_of_lt (Nat.lt_succ_of_lt (by assumption))) | exact Nat.ne_of_lt (Nat.lt_succ_self _) | exact Nat.ne_of_gt (Nat.lt_succ_self _) | exact Nat.ne_of_lt (Nat.lt_succ_of_lt (Nat.lt_succ_self _)) | exact Nat.ne_of_gt (Nat.lt_succ_of_lt (Nat.lt_succ_self _)) | omega)) e).at' fun o e => he' _ o e
        refine assignInOrder_cons (wpAny_assign_Name (wpAny_storeName_local (lookup_relabel_local hx) n5 (fun h₆ hn₆ hs₆ => ?_) (by simp [compEnvC, relabel, hkind])))
        refine assignInOrder_cons (wpAny_assign_Name (wpAny_storeName_local (lookup_relabel_local hx₂) hn₆ (fun h₇ hn₇ hs₇ => ?_) (by simp [compEnvC, relabel, hkind])))
        refine assignInOrder_nil ?_
        dsimp only at hs₆ hs₇ hn₇ ⊢
        have k₇ : ∀ b o, @Ne Nat b (n0 + 1) → h₃.get? b = some o → h₇.get? b = some o := fun b o hb e => hs₇.extBut b o hb (hs₆.extBut b o hb (he' b o e))
        refine ev_pair (a := .int (i : Int) tk) (b := v) hkind hx hx₂ hd1 hd2 hn₇ (by simp [hxx]) (by simp) ?_
        dsimp only
        have z7 : @LT.lt Nat _ (n0 + 1) h₇.objs.size := hn₇.lt
        have hTlt : @LT.lt Nat _ T h₇.objs.size := by
          have := k₇ T _ (by first | exact Nat.ne_of_lt (by assumption) | exact Nat.ne_of_gt (by assumption) | exact Nat.ne_of_lt (Nat.lt_succ_of_lt (by assumption)) | exact Nat.ne_of_lt (Nat.lt_succ_of_lt (Nat.lt_succ_of_lt (by assumption))) | exact Nat.ne_of_gt (Nat.lt_succ_of_lt (by assumption)) | exact Nat.ne_of_gt (Nat.lt_succ_of_lt (Nat.lt_succ_of_lt (by assumption))) | exact Nat.ne_of_lt (Nat.lt_succ_self _) | exact Nat.ne_of_gt (Nat.lt_succ_self _) | exact Nat.ne_of_lt (Nat.lt_succ_of_lt (Nat.lt_succ_self _)) | exact Nat.ne_of_gt (Nat.lt_succ_of_lt (Nat.lt_succ_self _)) | omega) hT₃
          exact Heap.lt_size this
        generalize hA : h₇.objs.size = P at *
        have hP : (h₇.push (pr v (.int (i : Int) tk))).get? P = some (pr v (.int (i : Int) tk)) := by rw [← hA]; exact Heap.get?_push_size _ rfl
        generalize hH8 : h₇.push (pr v (.int (i : Int) tk)) = H8 at *
        have k₈ : ∀ b o, h₇.get? b = some o → H8.get? b = some o := fun b o e => hH8 ▸ Heap.get?_push_of_some _ e
        have kall : ∀ b o, b ≠ z → b ≠ TO → b ≠ i1 → b ≠ i2 → @Ne Nat b (n0 + 1) → h'.get? b = some o → H8.get? b = some o := fun b o c1 c2 c3 c4 c5 e => k₈ b o (k₇ b o c5 (k₃ b o c1 c2 c3 c4 e))
        have hD8 : H8.get? n0 = some (LCg.lst acc) := kall _ _ (offs _ (List.Mem.head _)).1 (offs _ (List.Mem.head _)).2.1 (offs _ (List.Mem.head _)).2.2.1 (offs _ (List.Mem.head _)).2.2.2.1 (offs _ (List.Mem.head _)).2.2.2.2 (N' _ (List.Mem.head _)).1
        refine append_at (hsz := by show acc.toArray.size ≤ sizeLine; rw [List.size_toArray, sizeLine_eq, J.len]; omega) hD8 fun h₉ hs₉ hD₉ => ?_
        dsimp only at hs₉ hD₉ ⊢
        have h0n : @Ne Nat n0 env.locals := by omega
        refine ⟨3 - (i + 1), by omega, h₉, _, i + 1, acc ++ [.ref P], nn ++ [(P, pr v (.int (i : Int) tk))], _, rfl, hlt, rfl, J.step hlt hv P tk z7 ?_, ?_, ?_, ((hn₇.at' fun o e => k₈ _ o e).sameBut hs₉ (by show @Ne Nat (n0 + 1) n0; (first | exact Nat.ne_of_lt (by assumption) | exact Nat.ne_of_gt (by assumption) | exact Nat.ne_of_lt (Nat.lt_succ_of_lt (by assumption)) | exact Nat.ne_of_lt (Nat.lt_succ_of_lt (Nat.lt_succ_of_lt (by assumption))) | exact Nat.ne_of_gt (Nat.lt_succ_of_lt (by assumption)) | exact Nat.ne_of_gt (Nat.lt_succ_of_lt (Nat.lt_succ_of_lt (by assumption))) | exact Nat.ne_of_lt (Nat.lt_succ_self _) | exact Nat.ne_of_gt (Nat.lt_succ_self _) | exact Nat.ne_of_lt (Nat.lt_succ_of_lt (Nat.lt_succ_self _)) | exact Nat.ne_of_gt (Nat.lt_succ_of_lt (Nat.lt_succ_self _)) | omega))), ?_⟩
        · intro p hp
          have q1 := (N' p (List.mem_cons_of_mem _ (List.mem_append_left _ hp))).1
          have : @LT.lt Nat _ p.1 T := hT ▸ Heap.lt_size q1
          omega
        · have e2 : (2 : Int) - ((i + 1 : Nat) : Int) = 2 - (i : Int) - 1 := by omega
          rw [e2]
          exact Z₃.move fun c o hc e => hs₉.extBut c o (by have := hzlt c hc; show @Ne Nat c n0; (first | exact Nat.ne_of_lt (by assumption) | exact Nat.ne_of_gt (by assumption) | exact Nat.ne_of_lt (Nat.lt_succ_of_lt (by assumption)) | exact Nat.ne_of_lt (Nat.lt_succ_of_lt (Nat.lt_succ_of_lt (by assumption))) | exact Nat.ne_of_gt (Nat.lt_succ_of_lt (by assumption)) | exact Nat.ne_of_gt (Nat.lt_succ_of_lt (Nat.lt_succ_of_lt (by assumption))) | exact Nat.ne_of_lt (Nat.lt_succ_self _) | exact Nat.ne_of_gt (Nat.lt_succ_self _) | exact Nat.ne_of_lt (Nat.lt_succ_of_lt (Nat.lt_succ_self _)) | exact Nat.ne_of_gt (Nat.lt_succ_of_lt (Nat.lt_succ_self _)) | omega)) (k₈ c o (k₇ c o (by have := hzlt c hc; omega) e))
        · refine ⟨F'.ns.at' fun o e => hs₉.extBut _ o (by show @Ne Nat env.locals n0; (first | exact Nat.ne_of_lt (by assumption) | exact Nat.ne_of_gt (by assumption) | exact Nat.ne_of_lt (Nat.lt_succ_of_lt (by assumption)) | exact Nat.ne_of_lt (Nat.lt_succ_of_lt (Nat.lt_succ_of_lt (by assumption))) | exact Nat.ne_of_gt (Nat.lt_succ_of_lt (by assumption)) | exact Nat.ne_of_gt (Nat.lt_succ_of_lt (Nat.lt_succ_of_lt (by assumption))) | exact Nat.ne_of_lt (Nat.lt_succ_self _) | exact Nat.ne_of_gt (Nat.lt_succ_self _) | exact Nat.ne_of_lt (Nat.lt_succ_of_lt (Nat.lt_succ_self _)) | exact Nat.ne_of_gt (Nat.lt_succ_of_lt (Nat.lt_succ_self _)) | omega)) (kall _ o lz lTO l1 l2 (by show @Ne Nat env.locals (n0 + 1); (first | exact Nat.ne_of_lt (by assumption) | exact Nat.ne_of_gt (by assumption) | exact Nat.ne_of_lt (Nat.lt_succ_of_lt (by assumption)) | exact Nat.ne_of_lt (Nat.lt_succ_of_lt (Nat.lt_succ_of_lt (by assumption))) | exact Nat.ne_of_gt (Nat.lt_succ_of_lt (by assumption)) | exact Nat.ne_of_gt (Nat.lt_succ_of_lt (Nat.lt_succ_of_lt (by assumption))) | exact Nat.ne_of_lt (Nat.lt_succ_self _) | exact Nat.ne_of_gt (Nat.lt_succ_self _) | exact Nat.ne_of_lt (Nat.lt_succ_of_lt (Nat.lt_succ_self _)) | exact Nat.ne_of_gt (Nat.lt_succ_of_lt (Nat.lt_succ_self _)) | omega)) e), fun b o e => ?_, F'.above⟩
          have b1 := h0ne b o e
          have b2 := h0lt b o e
          exact hs₉.extBut b o (by show @Ne Nat b n0; (first | exact Nat.ne_of_lt (by assumption) | exact Nat.ne_of_gt (by assumption) | exact Nat.ne_of_lt (Nat.lt_succ_of_lt (by assumption)) | exact Nat.ne_of_lt (Nat.lt_succ_of_lt (Nat.lt_succ_of_lt (by assumption))) | exact Nat.ne_of_gt (Nat.lt_succ_of_lt (by assumption)) | exact Nat.ne_of_gt (Nat.lt_succ_of_lt (Nat.lt_succ_of_lt (by assumption))) | exact Nat.ne_of_lt (Nat.lt_succ_self _) | exact Nat.ne_of_gt (Nat.lt_succ_self _) | exact Nat.ne_of_lt (Nat.lt_succ_of_lt (Nat.lt_succ_self _)) | exact Nat.ne_of_gt (Nat.lt_succ_of_lt (Nat.lt_succ_self _)) | omega)) (kall b o b1.1 b1.2.1 b1.2.2.1 b1.2.2.2 (by first | exact Nat.ne_of_lt (by assumption) | exact Nat.ne_of_gt (by assumption) | exact Nat.ne_of_lt (Nat.lt_succ_of_lt (by assumption)) | exact Nat.ne_of_lt (Nat.lt_succ_of_lt (Nat.lt_succ_of_lt (by assumption))) | exact Nat.ne_of_gt (Nat.lt_succ_of_lt (by assumption)) | exact Nat.ne_of_gt (Nat.lt_succ_of_lt (Nat.lt_succ_of_lt (by assumption))) | exact Nat.ne_of_lt (Nat.lt_succ_self _) | exact Nat.ne_of_gt (Nat.lt_succ_self _) | exact Nat.ne_of_lt (Nat.lt_succ_of_lt (Nat.lt_succ_self _)) | exact Nat.ne_of_gt (Nat.lt_succ_of_lt (Nat.lt_succ_self _)) | omega) (F'.keep b o e))
        · intro p hp
          rcases List.mem_cons.mp hp with rfl | hp
          · exact ⟨hD₉.trans (congrArg some (LCg.lst_snoc acc _)), h0n, h0none _ (Nat.le_refl _)⟩
          · have old2 : ∀ q, q ∈ ((n0, LCg.lst acc) :: (nn ++ news)) → @Ne Nat q.1 n0 → h₉.get? q.1 = some q.2 ∧ q.1 ≠ env.locals ∧ h₀.get? q.1 = none := fun q hq hne => by
              have o5 := offs q hq
              exact ⟨hs₉.extBut q.1 _ hne (kall q.1 _ o5.1 o5.2.1 o5.2.2.1 o5.2.2.2.1 o5.2.2.2.2 (N' q hq).1), (N' q hq).2⟩
            rw [List.append_assoc] at hp
            rcases List.mem_append.mp hp with hp | hp
            · exact old2 p (List.mem_cons_of_mem _ (List.mem_append_left _ hp)) (by have := hnn p hp; omega)
            · rcases List.mem_append.mp hp with hp | hp
              · rw [List.mem_singleton.mp hp]
                exact ⟨hs₉.extBut P _ (by show @Ne Nat P n0; (first | exact Nat.ne_of_lt (by assumption) | exact Nat.ne_of_gt (by assumption) | exact Nat.ne_of_lt (Nat.lt_succ_of_lt (by assumption)) | exact Nat.ne_of_lt (Nat.lt_succ_of_lt (Nat.lt_succ_of_lt (by assumption))) | exact Nat.ne_of_gt (Nat.lt_succ_of_lt (by assumption)) | exact Nat.ne_of_gt (Nat.lt_succ_of_lt (Nat.lt_succ_of_lt (by assumption))) | exact Nat.ne_of_lt (Nat.lt_succ_self _) | exact Nat.ne_of_gt (Nat.lt_succ_self _) | exact Nat.ne_of_lt (Nat.lt_succ_of_lt (Nat.lt_succ_self _)) | exact Nat.ne_of_gt (Nat.lt_succ_of_lt (Nat.lt_succ_self _)) | omega)) hP, (by show @Ne Nat P env.locals; (first | exact Nat.ne_of_lt (by assumption) | exact Nat.ne_of_gt (by assumption) | exact Nat.ne_of_lt (Nat.lt_succ_of_lt (by assumption)) | exact Nat.ne_of_lt (Nat.lt_succ_of_lt (Nat.lt_succ_of_lt (by assumption))) | exact Nat.ne_of_gt (Nat.lt_succ_of_lt (by assumption)) | exact Nat.ne_of_gt (Nat.lt_succ_of_lt (Nat.lt_succ_of_lt (by assumption))) | exact Nat.ne_of_lt (Nat.lt_succ_self _) | exact Nat.ne_of_gt (Nat.lt_succ_self _) | exact Nat.ne_of_lt (Nat.lt_succ_of_lt (Nat.lt_succ_self _)) | exact Nat.ne_of_gt (Nat.lt_succ_of_lt (Nat.lt_succ_self _)) | omega)), h0none _ (by show n0 ≤ P; omega)⟩
              · exact old2 p (List.mem_cons_of_mem _ (List.mem_append_right _ hp)) (by have := hnlt p hp; omega)
      · have hi2 : i = 2 := by omega
        subst hi2
        refine pyNext_zipR_end hh D6 Z' (by first | exact Nat.ne_of_lt (by assumption) | exact Nat.ne_of_gt (by assumption) | exact Nat.ne_of_lt (Nat.lt_succ_of_lt (by assumption)) | exact Nat.ne_of_lt (Nat.lt_succ_of_lt (Nat.lt_succ_of_lt (by assumption))) | exact Nat.ne_of_gt (Nat.lt_succ_of_lt (by assumption)) | exact Nat.ne_of_gt (Nat.lt_succ_of_lt (Nat.lt_succ_of_lt (by assumption))) | exact Nat.ne_of_lt (Nat.lt_succ_self _) | exact Nat.ne_of_gt (Nat.lt_succ_self _) | exact Nat.ne_of_lt (Nat.lt_succ_of_lt (Nat.lt_succ_self _)) | exact Nat.ne_of_gt (Nat.lt_succ_of_lt (Nat.lt_succ_self _)) | omega) fun h₂ hit₂ k₂ => ?_
        dsimp only at k₂ ⊢
        have a1 := hzlt z (by simp); have a2 := hzlt TO (by simp); have a3 := hzlt i1 (by simp); have a4 := hzlt i2 (by simp)
        have F₂ : Fr h₀ env.locals h₂ m := ⟨F'.ns.at' fun o e => k₂ _ o lz lTO l1 l2 e, fun b o e => by
          have b1 := h0ne b o e
          exact k₂ b o b1.1 b1.2.1 b1.2.2.1 b1.2.2.2 (F'.keep b o e), F'.above⟩
        have n2 : h₂.Ns (n0 + 1) m' := hn'.at' fun o e => k₂ _ o (by show @Ne Nat (n0 + 1) z; (first | exact Nat.ne_of_lt (by assumption) | exact Nat.ne_of_gt (by assumption) | exact Nat.ne_of_lt (Nat.lt_succ_of_lt (by assumption)) | exact Nat.ne_of_lt (Nat.lt_succ_of_lt (Nat.lt_succ_of_lt (by assumption))) | exact Nat.ne_of_gt (Nat.lt_succ_of_lt (by assumption)) | exact Nat.ne_of_gt (Nat.lt_succ_of_lt (Nat.lt_succ_of_lt (by assumption))) | exact Nat.ne_of_lt (Nat.lt_succ_self _) | exact Nat.ne_of_gt (Nat.lt_succ_self _) | exact Nat.ne_of_lt (Nat.lt_succ_of_lt (Nat.lt_succ_self _)) | exact Nat.ne_of_gt (Nat.lt_succ_of_lt (Nat.lt_succ_self _)) | omega)) (by show @Ne Nat (n0 + 1) TO; (first | exact Nat.ne_of_lt (by assumption) | exact Nat.ne_of_gt (by assumption) | exact Nat.ne_of_lt (Nat.lt_succ_of_lt (by assumption)) | exact Nat.ne_of_lt (Nat.lt_succ_of_lt (Nat.lt_succ_of_lt (by assumption))) | exact Nat.ne_of_gt (Nat.lt_succ_of_lt (by assumption)) | exact Nat.ne_of_gt (Nat.lt_succ_of_lt (Nat.lt_succ_of_lt (by assumption))) | exact Nat.ne_of_lt (Nat.lt_succ_self _) | exact Nat.ne_of_gt (Nat.lt_succ_self _) | exact Nat.ne_of_lt (Nat.lt_succ_of_lt (Nat.lt_succ_self _)) | exact Nat.ne_of_gt (Nat.lt_succ_of_lt (Nat.lt_succ_self _)) | omega)) (by show @Ne Nat (n0 + 1) i1; (first | exact Nat.ne_of_lt (by assumption) | exact Nat.ne_of_gt (by assumption) | exact Nat.ne_of_lt (Nat.lt_succ_of_lt (by assumption)) | exact Nat.ne_of_lt (Nat.lt_succ_of_lt (Nat.lt_succ_of_lt (by assumption))) | exact Nat.ne_of_gt (Nat.lt_succ_of_lt (by assumption)) | exact Nat.ne_of_gt (Nat.lt_succ_of_lt (Nat.lt_succ_of_lt (by assumption))) | exact Nat.ne_of_lt (Nat.lt_succ_self _) | exact Nat.ne_of_gt (Nat.lt_succ_self _) | exact Nat.ne_of_lt (Nat.lt_succ_of_lt (Nat.lt_succ_self _)) | exact Nat.ne_of_gt (Nat.lt_succ_of_lt (Nat.lt_succ_self _)) | omega)) (by show @Ne Nat (n0 + 1) i2; (first | exact Nat.ne_of_lt (by assumption) | exact Nat.ne_of_gt (by assumption) | exact Nat.ne_of_lt (Nat.lt_succ_of_lt (by assumption)) | exact Nat.ne_of_lt (Nat.lt_succ_of_lt (Nat.lt_succ_of_lt (by assumption))) | exact Nat.ne_of_gt (Nat.lt_succ_of_lt (by assumption)) | exact Nat.ne_of_gt (Nat.lt_succ_of_lt (Nat.lt_succ_of_lt (by assumption))) | exact Nat.ne_of_lt (Nat.lt_succ_self _) | exact Nat.ne_of_gt (Nat.lt_succ_self _) | exact Nat.ne_of_lt (Nat.lt_succ_of_lt (Nat.lt_succ_self _)) | exact Nat.ne_of_gt (Nat.lt_succ_of_lt (Nat.lt_succ_self _)) | omega)) e
        show wpAny _ A (assign (.Name y py) env (.ref n0)) _ _ _
        refine wpAny_assign_Name (wpAny_storeName_local hy F₂.ns (fun h₃ hn₃ hs₃ => ?_) hp)
        dsimp only at hs₃ ⊢
        have hL₀ : h₀.get? env.locals = none := Heap.get?_none_of_le F'.above
        have F₃ : Fr h₀ env.locals h₃ (fun q => if q = y then some (.ref n0) else m q) := ⟨hn₃, fun b o e => hs₃.extBut b o (fun q => by rw [q, hL₀] at e; cases e) (F₂.keep b o e), F'.above⟩
        refine ⟨m', n2.sameBut hs₃ (by show @Ne Nat (n0 + 1) env.locals; (first | exact Nat.ne_of_lt (by assumption) | exact Nat.ne_of_gt (by assumption) | exact Nat.ne_of_lt (Nat.lt_succ_of_lt (by assumption)) | exact Nat.ne_of_lt (Nat.lt_succ_of_lt (Nat.lt_succ_of_lt (by assumption))) | exact Nat.ne_of_gt (Nat.lt_succ_of_lt (by assumption)) | exact Nat.ne_of_gt (Nat.lt_succ_of_lt (Nat.lt_succ_of_lt (by assumption))) | exact Nat.ne_of_lt (Nat.lt_succ_self _) | exact Nat.ne_of_gt (Nat.lt_succ_self _) | exact Nat.ne_of_lt (Nat.lt_succ_of_lt (Nat.lt_succ_self _)) | exact Nat.ne_of_gt (Nat.lt_succ_of_lt (Nat.lt_succ_self _)) | omega)), fun h₄ hs₄ => ?_⟩
        rcases J with ⟨h9, _⟩ | ⟨h9, _⟩ | ⟨_, A0, A1, t0, t1, v0, v1, e0, e1, rfl, rfl, lt0, lt1⟩
        · cases h9
        · cases h9
        · obtain ⟨oi, hoi, hc9, hd9⟩ := hit₂
          refine fin n0 A0 A1 t0 t1 v0 v1 h₄ _ oi hc9 hd9 e0 e1 (F₃.change hs₄ (by show @Ne Nat (n0 + 1) env.locals; (first | exact Nat.ne_of_lt (by assumption) | exact Nat.ne_of_gt (by assumption) | exact Nat.ne_of_lt (Nat.lt_succ_of_lt (by assumption)) | exact Nat.ne_of_lt (Nat.lt_succ_of_lt (Nat.lt_succ_of_lt (by assumption))) | exact Nat.ne_of_gt (Nat.lt_succ_of_lt (by assumption)) | exact Nat.ne_of_gt (Nat.lt_succ_of_lt (Nat.lt_succ_of_lt (by assumption))) | exact Nat.ne_of_lt (Nat.lt_succ_self _) | exact Nat.ne_of_gt (Nat.lt_succ_self _) | exact Nat.ne_of_lt (Nat.lt_succ_of_lt (Nat.lt_succ_self _)) | exact Nat.ne_of_gt (Nat.lt_succ_of_lt (Nat.lt_succ_self _)) | omega)) (h0none _ (Nat.le_succ _))) ?_ hnlt a4 (by first | exact Nat.ne_of_lt (by assumption) | exact Nat.ne_of_gt (by assumption) | exact Nat.ne_of_lt (Nat.lt_succ_of_lt (by assumption)) | exact Nat.ne_of_lt (Nat.lt_succ_of_lt (Nat.lt_succ_of_lt (by assumption))) | exact Nat.ne_of_gt (Nat.lt_succ_of_lt (by assumption)) | exact Nat.ne_of_gt (Nat.lt_succ_of_lt (Nat.lt_succ_of_lt (by assumption))) | exact Nat.ne_of_lt (Nat.lt_succ_self _) | exact Nat.ne_of_gt (Nat.lt_succ_self _) | exact Nat.ne_of_lt (Nat.lt_succ_of_lt (Nat.lt_succ_self _)) | exact Nat.ne_of_gt (Nat.lt_succ_of_lt (Nat.lt_succ_self _)) | omega) lt1
          have old2 : ∀ q, q ∈ ((n0, LCg.lst [Value.ref A0, Value.ref A1]) :: ([(A0, pr v0 (.int 0 t0)), (A1, pr v1 (.int 1 t1))] ++ news)) → h₄.get? q.1 = some q.2 ∧ q.1 ≠ env.locals ∧ h₀.get? q.1 = none := fun q hq => by
            have o5 := offs q hq
            exact ⟨hs₄.extBut q.1 _ o5.2.2.2.2 (hs₃.extBut q.1 _ (N' q hq).2.1 (k₂ q.1 _ o5.1 o5.2.1 o5.2.2.1 o5.2.2.2.1 (N' q hq).1)), (N' q hq).2⟩
          intro p hp
          rcases List.mem_cons.mp hp with rfl | hp
          · exact old2 _ (by simp)
          · rcases List.mem_cons.mp hp with rfl | hp
            · exact old2 _ (by simp)
            · rcases List.mem_cons.mp hp with rfl | hp
              · exact old2 _ (by simp)
              · rcases List.mem_cons.mp hp with rfl | hp
                · have h9 := (hnew i2 (by simp))
                  exact ⟨hs₄.extBut i2 _ (by show @Ne Nat i2 (n0 + 1); (first | exact Nat.ne_of_lt (by assumption) | exact Nat.ne_of_gt (by assumption) | exact Nat.ne_of_lt (Nat.lt_succ_of_lt (by assumption)) | exact Nat.ne_of_lt (Nat.lt_succ_of_lt (Nat.lt_succ_of_lt (by assumption))) | exact Nat.ne_of_gt (Nat.lt_succ_of_lt (by assumption)) | exact Nat.ne_of_gt (Nat.lt_succ_of_lt (Nat.lt_succ_of_lt (by assumption))) | exact Nat.ne_of_lt (Nat.lt_succ_self _) | exact Nat.ne_of_gt (Nat.lt_succ_self _) | exact Nat.ne_of_lt (Nat.lt_succ_of_lt (Nat.lt_succ_self _)) | exact Nat.ne_of_gt (Nat.lt_succ_of_lt (Nat.lt_succ_self _)) | omega)) (hs₃.extBut i2 _ h9.1 hoi), h9⟩
                · exact old2 _ (by simp [hp])
    · rcases List.mem_cons.mp hp with rfl | hp
      · exact ⟨hacc, (by show @Ne Nat n0 env.locals; (first | exact Nat.ne_of_lt (by assumption) | exact Nat.ne_of_gt (by assumption) | exact Nat.ne_of_lt (Nat.lt_succ_of_lt (by assumption)) | exact Nat.ne_of_lt (Nat.lt_succ_of_lt (Nat.lt_succ_of_lt (by assumption))) | exact Nat.ne_of_gt (Nat.lt_succ_of_lt (by assumption)) | exact Nat.ne_of_gt (Nat.lt_succ_of_lt (Nat.lt_succ_of_lt (by assumption))) | exact Nat.ne_of_lt (Nat.lt_succ_self _) | exact Nat.ne_of_gt (Nat.lt_succ_self _) | exact Nat.ne_of_lt (Nat.lt_succ_of_lt (Nat.lt_succ_self _)) | exact Nat.ne_of_gt (Nat.lt_succ_of_lt (Nat.lt_succ_self _)) | omega)), h0none _ (Nat.le_refl _)⟩
      · exact ⟨old _ _ (N p hp).1, (N p hp).2⟩
  refine codeAny_compStart_list (loop _ rfl) ?_
  exact wpAny_pyIter_zip (Z.move fun c o _ e => old c o e).hz (loop _ rfl)

theorem for_it {I l : Addr} {x : Str} {body : List Stmt} {Q : Flow → Shared → Prop} {its : Array Value} {oI : Obj} {news : List (Addr × Obj)} (hL : env.locals = L) (n : Nat) (J : Nat → (Str → Option Value) → List (Addr × Obj) → Prop)
    (hh : A.handled = none) (hcI : oI.cls = .type "list_iterator") (hdI : oI.data = .fields #[.ref l, .int (2 : Nat) 0]) (hl : h₀.IsList l its) (hn : n + 2 = its.size) (F : Fr h₀ L s.heap m) (N : News h₀ L s.heap ((I, oI) :: news)) (off : ∀ p ∈ news, p.1 ≠ I) (hj : J 0 m news)
    (turn : ∀ i v m₁ news₁ h tk oI, i < n → its[i + 2]? = some v → J i m₁ news₁ → (∀ p ∈ news₁, p.1 ≠ I) → Fr h₀ L h (fun y => if y = x then some v else m₁ y) → News h₀ L h ((I, oI) :: news₁) →
      wpAny (model prog w) A (execs body env) (Turn h₀ L I oI (J (i + 1)) { s with heap := h, toks := tk } Q) E { s with heap := h, toks := tk })
    (done : ∀ m₁ news₁ h tk, J n m₁ news₁ → Fr h₀ L h m₁ → News h₀ L h news₁ → Q .next { s with heap := h, toks := tk }) :
    wpAny (model prog w) A (pyIter (.ref I)) (fun it s₂ => LoopAtV prog w A h₀ env x body Q E it s₂) E s := by
  subst hL
  have nI := N _ (List.Mem.head _)
  obtain ⟨ol, hol, hclol, nol, hdol⟩ := id hl
  have lne : l ≠ I := fun q => by have e : h₀.get? I = none := nI.2.2; rw [← q, hol] at e; cases e
  have lL : l ≠ env.locals := fun q => by
    have e : h₀.get? env.locals = none := Heap.get?_none_of_le F.above
    rw [← q, hol] at e; cases e
  have W0 := Walks.list (prog := prog) (w := w) (A := A) hh I l lne its
  have W : Walks prog w A I [I, l] [I] n (fun i v => its[i + 2]? = some v) (fun i h => h.IsListIter I l (i + 2) ∧ h.IsList l its) := {
    sub := W0.sub
    frame := fun i h h' st hk => W0.frame (i + 2) h h' st hk
    item := fun i s Q E hi st hQ => W0.item (i + 2) s Q E (by first | exact Nat.ne_of_lt (by assumption) | exact Nat.ne_of_gt (by assumption) | exact Nat.ne_of_lt (Nat.lt_succ_of_lt (by assumption)) | exact Nat.ne_of_lt (Nat.lt_succ_of_lt (Nat.lt_succ_of_lt (by assumption))) | exact Nat.ne_of_gt (Nat.lt_succ_of_lt (by assumption)) | exact Nat.ne_of_gt (Nat.lt_succ_of_lt (Nat.lt_succ_of_lt (by assumption))) | exact Nat.ne_of_lt (Nat.lt_succ_self _) | exact Nat.ne_of_gt (Nat.lt_succ_self _) | exact Nat.ne_of_lt (Nat.lt_succ_of_lt (Nat.lt_succ_self _)) | exact Nat.ne_of_gt (Nat.lt_succ_of_lt (Nat.lt_succ_self _)) | omega) st fun v h' tk hP st' hk => hQ v h' tk hP st' hk
    done := fun s Q E st hQ => W0.done s Q E (by rw [← hn]; exact st) hQ
    self := fun i s Q E st hQ => W0.self (i + 2) s Q E st hQ }
  have st : (fun i (h : Heap) => h.IsListIter I l (i + 2) ∧ h.IsList l its) 0 s.heap := ⟨⟨oI, nI.1, hcI, hdI⟩, hl.at fun o e => F.keep _ _ e⟩
  refine W.self 0 _ _ _ st ?_
  refine for_W J W (fun b hb hbI => ?_) (fun hm => ?_) nI.2.2 (fun i h st => by obtain ⟨o, e, _⟩ := st.1; exact ⟨o, e⟩) st F (fun p hp => N p (List.Mem.tail _ hp)) off hj (fun i v m₁ news₁ h tk oI hi hv hJ ho F₁ N₁ => turn i v m₁ news₁ h tk oI hi hv hJ ho F₁ N₁) (fun m₁ news₁ h tk hJ _ F₁ N₁ => done m₁ news₁ h tk hJ F₁ N₁)
  · simp at hb
    rcases hb with rfl | rfl
    · exact absurd rfl hbI
    · exact ⟨_, hol⟩
  · simp at hm
    rcases hm with hm | hm
    · exact nI.2.1 hm.symm
    · exact lL hm.symm
end
end Mine

end

-- part M7f
section
open PySem PySem.W PySem.Spec PySem.Calls PyProof.Rows SeqAt
open MeetsSeq MeetsSeq2 MeetsSeq3 SeqRoads2
set_option maxRecDepth 100000
set_option maxHeartbeats 4000000
namespace Mine

def One (h : Heap) (v : Value) (d : Int) : Prop := ∃ T t x u, v = .ref T ∧ h.get? T = some (pr (.int d t) (.str x u))
theorem One.keep {h h' : Heap} {v : Value} {d : Int} (a : One h v d) (k : Kept h h') : One h' v d := by
  obtain ⟨T, t, x, u, rfl, e⟩ := a
  exact ⟨T, t, x, u, rfl, k _ _ e⟩

theorem One.fr {h h' : Heap} {v : Value} {d : Int} {L : Addr} {m : Str → Option Value} (a : One h v d) (F : Fr h L h' m) : One h' v d := a.keep F.keep
theorem sort2_wp {cmp : Nat → Nat → (Bool → Shared → Prop) → Shared → Prop} {G : Array Nat → Shared → Prop} {s : Shared} (h : cmp 1 0 (fun b s' => G (if b then #[1, 0] else #[0, 1]) s') s) : (kas_sort 2).kasWp cmp G s := by
  have e : (kas_sort 2).kasWp cmp G s = cmp 1 0 (fun b s' => G (if b then #[1, 0] else #[0, 1]) s') s := by
    show cmp 1 0 _ s = _
    congr 1
    funext b s'
    cases b with
    | true => rfl
    | false => rfl
  rw [e]
  exact h

section
variable {prog : Program} {w : World} {A : Around} {E : Value → Shared → Prop} {s : Shared}
theorem oneLt_of {x y : Value} {c : Bool} {Q : Bool → Shared → Prop} (h : LtAt A s x y c) (hq : Q c s) : wpAny (model prog w) A (oneLt' false x y) Q E s := kat_one x y (h prog w E _ hq)

theorem katLex2 {b : Bool} {a1 b1 a2 b2 : Value} {e1 e2 c1 c2 : Bool} {C : Bool → Shared → Prop} (q1 : EqAt A s a1 a2 e1) (l1 : e1 = false → ∀ (Q : Bool → Shared → Prop) (E : Value → Shared → Prop), Q c1 s → wpAny (model prog w) A (oneLt' (b && true) a1 a2) Q E s)
    (q2 : EqAt A s b1 b2 e2) (l2 : e2 = false → LtAt A s b1 b2 c2) (h : C (if e1 then (if e2 then false else c2) else c1) s) : KatLex prog w A b false C [(a1, a2), (b1, b2)] 0 s := by
  refine kat_cons (q1 prog w _ _ ?_)
  cases e1 with
  | false => exact kat_no (l1 rfl _ _ h)
  | true =>
    refine kat_yes (kat_cons (q2 prog w _ _ ?_))
    cases e2 with
    | false =>
      refine kat_no ?_
      have e : (b && (0 + 1 == 0)) = false := by simp
      rw [e]
      exact oneLt_of (l2 rfl) h
    | true => exact kat_yes (kat_nil h)

theorem looks_tuple {M : Model} {h : Heap} {T : Addr} {a b : Value} (e : h.get? T = some (pr a b)) : Looks M h (typeOf (.ref T)) (.type "tuple") := (Looks.ld e).andThen .now

theorem sort2 {h₀ : Heap} {L : Addr} {m : Str → Option Value} {news : List (Addr × Obj)} {D Pa Pb Ta Tb : Addr} {c : Nat} {oa ob da db : Int} {ta tb : Tok} {Q : Value → Shared → Prop} (F : Fr h₀ L s.heap m) (N : News h₀ L s.heap ((D, W.listOf #[.ref Pa, .ref Pb] c) :: news)) (off : ∀ p ∈ news, p.1 ≠ D)
    (ma : (Pa, pr (.ref Ta) (.int oa ta)) ∈ news) (mb : (Pb, pr (.ref Tb) (.int ob tb)) ∈ news) (onea : One h₀ (.ref Ta) da) (oneb : One h₀ (.ref Tb) db) (hu : A.units + 10 < cLine)
    (h : ∀ h' c' out, Fr h₀ L h' m → News h₀ L h' ((D, W.listOf out c') :: news) → ((out = #[.ref Pa, .ref Pb] ∧ da ≤ db) ∨ (out = #[.ref Pb, .ref Pa] ∧ db ≤ da)) → Q .none { s with heap := h' }) :
    wpAny (model prog w) A (call (.builtin "list.sort") [.ref D]) Q E s := by
  refine kat_lsort (vs := [.ref Pa, .ref Pb]) F N (UpdF.head off) rfl (Nat.le_refl 2) (by show 2 < 64; omega) fun e1 h' F' N' => ?_
  have na : h'.get? Pa = _ := (N' _ (List.Mem.tail _ ma)).1
  have nb : h'.get? Pb = _ := (N' _ (List.Mem.tail _ mb)).1
  obtain ⟨_, xt, xx, xu, xe, ha⟩ := onea
  injection xe with xe
  subst xe
  obtain ⟨_, yt, yx, yu, ye, hb⟩ := oneb
  injection ye with ye
  subst ye
  have ha' := F'.keep _ _ ha
  have hb' := F'.keep _ _ hb
  refine kat_kind (fs := [.ref Ta, .ref Tb]) (T := .type "tuple") (KatTups.cons na rfl rfl rfl (KatTups.cons nb rfl rfl rfl .nil)) (Nat.zero_lt_succ _) (fun v hv => ?_) rfl ?_
  · simp only [List.mem_cons, List.not_mem_nil, or_false] at hv
    rcases hv with rfl | rfl
    · exact looks_tuple ha'
    · exact looks_tuple hb'
  · refine sort2_wp ?_
    show wpAny (model prog w) A.in1 (keyLt' (tuples' false) (.ref Pb) (.ref Pa)) _ _ _
    have u1 : A.in1.units < cLine := by show A.units + _ < _; omega
    obtain ⟨e, q1, he⟩ := one_eq (A := A.in1) (s := { s with heap := h' }) hb' ha' u1
    obtain ⟨b, l1, c1, c2⟩ := one_lt (A := A.in1) (s := { s with heap := h' }) hb' ha' u1
    refine kat_lt nb rfl na rfl ?_
    refine katLex2 (c2 := decide (ob < oa)) q1 (fun _ _ _ hq => oneLt_of l1 hq) ((EqGives.int ob oa tb ta).at _ _) (fun _ => LtAt.int _ _ _ _) ?_
    generalize hr : (if e = true then (if (ob == oa) = true then false else decide (ob < oa)) else b) = r
    have hle : (r = true → db ≤ da) ∧ (r = false → da ≤ db) := by
      cases e with
      | true => have := he rfl; exact ⟨fun _ => by omega, fun _ => by omega⟩
      | false => simp only [Bool.false_eq_true, if_false] at hr; subst hr; exact ⟨c1, c2⟩
    cases r with
    | true => exact KasFin.intro F' N' (UpdF.head off) fun h'' c' F'' N'' => h h'' c' _ F'' N'' (.inr ⟨rfl, hle.1 rfl⟩)
    | false => exact KasFin.intro F' N' (UpdF.head off) fun h'' c' F'' N'' => h h'' c' _ F'' N'' (.inl ⟨rfl, hle.2 rfl⟩)
end
end Mine

end

-- part M7e
section
open PySem PySem.W PySem.Spec PySem.Calls PyProof.Rows SeqAt
set_option maxRecDepth 100000
set_option maxHeartbeats 4000000
namespace Mine

theorem Two.of {R P T : Addr} {h : Heap} {d o : Int} {v : Tok} {a : Array Value} {c : Nat} (h1 : One h (.ref T) d) (hP : h.get? P = some (pr (.ref T) (.int o v))) (hR : h.get? R = some (W.listOf a c)) : Two R h P d := by
  obtain ⟨T', t, x, u, e, hT⟩ := h1
  injection e with e
  subst e
  refine ⟨fun q => ?_, T, o, x, t, u, v, fun q => ?_, hP, hT⟩
  · subst q; rw [hP] at hR; simp [W.listOf] at hR
  · subst q; rw [hT] at hR; simp [W.listOf] at hR

/-- the two least so far: i on top -/
def Top2 (its : List Value) (d : Nat → Int) (k i j : Nat) (Ta Tb : Addr) : Prop :=
  its.getD i .none = .ref Ta ∧ its.getD j .none = .ref Tb ∧ i ≠ j ∧ i < k ∧ j < k ∧ d j ≤ d i ∧ ∀ q, q < k → q ≠ i → q ≠ j → d i ≤ d q
theorem Top2.stay {its : List Value} {d : Nat → Int} {k i j : Nat} {Ta Tb : Addr} (h : Top2 its d k i j Ta Tb) (hd : d i ≤ d k) : Top2 its d (k + 1) i j Ta Tb := by
  obtain ⟨a, b, ne, li, lj, le, al⟩ := h
  refine ⟨a, b, ne, by omega, by omega, le, fun q hq h1 h2 => ?_⟩
  by_cases e : q = k
  · rw [e]; exact hd
  · exact al q (by omega) h1 h2
theorem Top2.new {its : List Value} {d : Nat → Int} {k i j : Nat} {Ta Tb Tn : Addr} (h : Top2 its d k i j Ta Tb) (hn : its.getD k .none = .ref Tn) (hd : d k ≤ d i) (hj : d j ≤ d k) : Top2 its d (k + 1) k j Tn Tb := by
  obtain ⟨a, b, ne, li, lj, le, al⟩ := h
  refine ⟨hn, b, by omega, by omega, by omega, hj, fun q hq h1 h2 => ?_⟩
  by_cases e : q = i
  · rw [e]; exact hd
  · exact Int.le_trans hd (al q (by omega) e h2)
theorem Top2.under {its : List Value} {d : Nat → Int} {k i j : Nat} {Ta Tb Tn : Addr} (h : Top2 its d k i j Ta Tb) (hn : its.getD k .none = .ref Tn) (hj : d k ≤ d j) : Top2 its d (k + 1) j k Tb Tn := by
  obtain ⟨a, b, ne, li, lj, le, al⟩ := h
  refine ⟨b, hn, by omega, by omega, by omega, hj, fun q hq h1 h2 => ?_⟩
  by_cases e : q = i
  · rw [e]; exact le
  · exact Int.le_trans le (al q (by omega) e h1)
theorem Top2.least2 {its : List Value} {d : Nat → Int} {k i j : Nat} {Ta Tb : Addr} (h : Top2 its d k i j Ta Tb) {q : Nat} (hq : q < k) : d j ≤ d q := by
  obtain ⟨a, b, ne, li, lj, le, al⟩ := h
  by_cases e : q = i
  · rw [e]; exact le
  · by_cases e2 : q = j
    · rw [e2]; exact Int.le_refl _
    · exact Int.le_trans le (al q hq e e2)
theorem Top2.least1 {its : List Value} {d : Nat → Int} {k i j : Nat} {Ta Tb : Addr} (h : Top2 its d k i j Ta Tb) (hd : d i ≤ d j) {q : Nat} (hq : q < k) : d i ≤ d q := Int.le_trans hd (h.least2 hq)
theorem getD_of {its : List Value} {i : Nat} {v : Value} (h : its.toArray[i]? = some v) : its.getD i .none = v := by
  simp at h
  simp [List.getD, h]

section
variable {prog : Program} {w : World} {A : Around} {E : Value → Shared → Prop} {s : Shared} {h₀ : Heap} {L : Addr} {m : Str → Option Value} {news : List (Addr × Obj)}
theorem one_cmp {v v' : Value} {d d' : Int} {Q : Value → Shared → Prop} (a : One s.heap v d) (b : One s.heap v' d') (hu : A.units < cLine)
    (h1 : d ≤ d' → Q (.bool true) s) (h2 : d' ≤ d → Q (.bool false) s) : wpAny (model prog w) A (compareOp .Lt v v') Q E s := by
  obtain ⟨T, t, x, u, rfl, a1⟩ := a
  obtain ⟨T', t', x', u', rfl, b1⟩ := b
  obtain ⟨c, hlt, c1, c2⟩ := one_lt (A := A) a1 b1 hu
  refine hlt prog w E Q ?_
  cases c with
  | true => exact h1 (c1 rfl)
  | false => exact h2 (c2 rfl)
theorem iter_K {l : Addr} {ys : Array Value} {Q : Value → Shared → Prop} (F : Fr h₀ L s.heap m) (N : News h₀ L s.heap news) (hl : h₀.IsList l ys)
    (h : ∀ I h', Fr h₀ L h' m → News h₀ L h' ((I, liObj l 0) :: news) → (∀ p ∈ news, p.1 < I) → Q (.ref I) { s with heap := h' }) : wpAny (model prog w) A (call (.builtin "iter") [.ref l]) Q E s :=
  iter_list (hl.at fun o e => F.keep _ _ e) (h _ _ (F.push _) (News.push F N _ rfl) fun q hq => Heap.lt_size (N q hq).1)

theorem zip_K {r I l : Addr} {t u v : Tok} {ys : Array Value} {y : Str} {Q : Flow → Shared → Prop} (F : Fr h₀ L s.heap m) (N : News h₀ L s.heap ((I, liObj l 0) :: news)) (hr : IsRange s.heap r 0 2 1 t u v) (hl : h₀.IsList l ys) (h2 : 2 ≤ ys.size) (off : ∀ p ∈ news, p.1 ≠ I) (hh : A.handled = none)
    (fin : ∀ I', I' = I → ∀ D A0 A1 t0 t1 v0 v1 h tk oI, oI.cls = .type "list_iterator" → oI.data = .fields #[.ref l, .int (2 : Nat) 0] → ys[0]? = some v0 → ys[1]? = some v1 → Fr h₀ L h (fun q => if q = y then some (.ref D) else m q) →
        News h₀ L h ((D, LCg.lst [.ref A0, .ref A1]) :: (A0, pr v0 (.int 0 t0)) :: (A1, pr v1 (.int 1 t1)) :: (I, oI) :: news) → (∀ p ∈ news, @LT.lt Nat _ p.1 D) → @LT.lt Nat _ I D → @LT.lt Nat _ D A0 → @LT.lt Nat _ A0 A1 → Q .next { s with heap := h, toks := tk }) :
    wpAny (model prog w) A (call (.type "zip") [.ref r, .ref I]) (fun xv s₁ => ∃ z TI TO i1 i2 l its news, xv = .ref z ∧ A.handled = none ∧ Fr h₀ L s₁.heap m ∧ News h₀ L s₁.heap news ∧ ZipAt s₁.heap z TI TO i1 i2 l .none its 0 2 ∧ Six z TI TO i1 i2 l ∧ 2 ≤ its.size ∧
      (∀ c, (c = z ∨ c = TI ∨ c = TO ∨ c = i1 ∨ c = i2) → c ≠ L ∧ h₀.get? c = none) ∧ (∀ p ∈ news, p.1 ≠ z ∧ p.1 ≠ TO ∧ p.1 ≠ i1 ∧ p.1 ≠ i2) ∧
      (∀ D A0 A1 t0 t1 v0 v1 h tk oI, oI.cls = .type "list_iterator" → oI.data = .fields #[.ref l, .int (2 : Nat) 0] → its[0]? = some v0 → its[1]? = some v1 → Fr h₀ L h (fun q => if q = y then some (.ref D) else m q) →
        News h₀ L h ((D, LCg.lst [.ref A0, .ref A1]) :: (A0, pr v0 (.int 0 t0)) :: (A1, pr v1 (.int 1 t1)) :: (i2, oI) :: news) → (∀ p ∈ news, @LT.lt Nat _ p.1 D) → @LT.lt Nat _ i2 D → @LT.lt Nat _ D A0 → @LT.lt Nat _ A0 A1 → Q .next { s₁ with heap := h, toks := tk })) E s := by
  obtain ⟨ol, hol, hclol, nol, hdol⟩ := id hl
  have nI := N _ (List.Mem.head _)
  have lI : @LT.lt Nat _ I s.heap.objs.size := Heap.lt_size nI.1
  have ll : @LT.lt Nat _ l s.heap.objs.size := Heap.lt_size (F.keep _ _ hol)
  have lL : @LT.lt Nat _ L s.heap.objs.size := F.ns.lt
  have lne : @Ne Nat l I := fun q => by have e : h₀.get? I = none := nI.2.2; rw [← q, hol] at e; cases e
  have gnone : ∀ a : Nat, s.heap.objs.size ≤ a → h₀.get? a = none := fun a ha => by
    cases e : h₀.get? a with
    | none => rfl
    | some o => exact absurd (Heap.lt_size (F.keep _ _ e)) (Nat.not_lt.mpr ha)
  have nlt : ∀ p ∈ news, @LT.lt Nat _ p.1 s.heap.objs.size := fun p hp => Heap.lt_size (N p (List.Mem.tail _ hp)).1
  refine call_zipR (ys := ys) hr ⟨_, nI.1, rfl, rfl⟩ (hl.at fun o e => F.keep _ _ e) fun h2' Z2 sz2 k2 => ?_
  generalize hn : s.heap.objs.size = n0 at *
  refine ⟨n0 + 3, n0 + 1, n0 + 2, n0, I, l, ys, news, rfl, hh, F.keeps k2, fun p hp => ⟨k2 _ _ (N p (List.Mem.tail _ hp)).1, (N p (List.Mem.tail _ hp)).2⟩, Z2, ?_, h2, ?_, ?_, fin I rfl⟩
  · constructor
    all_goals (show @Ne Nat _ _; omega)
  · rintro c (rfl | rfl | rfl | rfl | rfl)
    · exact ⟨by show @Ne Nat _ _; omega, gnone _ (by show n0 ≤ n0 + 3; omega)⟩
    · exact ⟨by show @Ne Nat _ _; omega, gnone _ (by show n0 ≤ n0 + 1; omega)⟩
    · exact ⟨by show @Ne Nat _ _; omega, gnone _ (by show n0 ≤ n0 + 2; omega)⟩
    · exact ⟨by show @Ne Nat _ _; omega, gnone _ (Nat.le_refl _)⟩
    · exact nI.2
  · intro p hp
    have := nlt p hp
    exact ⟨by show @Ne Nat _ _; omega, by show @Ne Nat _ _; omega, by show @Ne Nat _ _; omega, off p hp⟩
end

section
variable {prog : Program} {w : World} {A : Around} {E : Value → Shared → Prop} {s : Shared}
theorem item_pr0 {value slice : Expr} {P : Addr} {a b : Value} {u : Tok} {Q : Value → Shared → Prop} (hp : s.heap.get? P = some (pr a b)) (h : Q a s)
    (hs : subscripted slice false (.ref P) (.int 0 u) = operate [.ref P, .int 0 u] (getItem (.ref P) (.int 0 u)) := by with_unfolding_all rfl) :
    wpAny (model prog w) A (subscriptTail value slice (.ref P) (.int 0 u)) Q E s :=
  item_tupleT (l := [a, b]) (j := 0) ⟨_, hp, rfl, _, rfl⟩ (by decide) (by decide) rfl rfl h hs
theorem item_pr1 {value slice : Expr} {P : Addr} {a b : Value} {u : Tok} {Q : Value → Shared → Prop} (hp : s.heap.get? P = some (pr a b)) (h : Q b s)
    (hs : subscripted slice false (.ref P) (.int 1 u) = operate [.ref P, .int 1 u] (getItem (.ref P) (.int 1 u)) := by with_unfolding_all rfl) :
    wpAny (model prog w) A (subscriptTail value slice (.ref P) (.int 1 u)) Q E s :=
  item_tupleT (l := [a, b]) (j := 1) ⟨_, hp, rfl, _, rfl⟩ (by decide) (by decide) rfl rfl h hs
theorem item_l0 {value slice : Expr} {D : Addr} {a b : Value} {c : Nat} {u : Tok} {Q : Value → Shared → Prop} (hp : s.heap.get? D = some (W.listOf #[a, b] c)) (h : Q a s)
    (hs : subscripted slice false (.ref D) (.int 0 u) = operate [.ref D, .int 0 u] (getItem (.ref D) (.int 0 u)) := by with_unfolding_all rfl) :
    wpAny (model prog w) A (subscriptTail value slice (.ref D) (.int 0 u)) Q E s :=
  have hl : s.heap.IsList D #[a, b] := ⟨_, hp, rfl, _, rfl⟩
  tail_any hl.typeIs slot_list_getitem.lookup (wpAny_getItem_list hl (by decide) (by decide) rfl h) hs
theorem item_l1 {value slice : Expr} {D : Addr} {a b : Value} {c : Nat} {u : Tok} {Q : Value → Shared → Prop} (hp : s.heap.get? D = some (W.listOf #[a, b] c)) (h : Q b s)
    (hs : subscripted slice false (.ref D) (.int 1 u) = operate [.ref D, .int 1 u] (getItem (.ref D) (.int 1 u)) := by with_unfolding_all rfl) :
    wpAny (model prog w) A (subscriptTail value slice (.ref D) (.int 1 u)) Q E s :=
  have hl : s.heap.IsList D #[a, b] := ⟨_, hp, rfl, _, rfl⟩
  tail_any hl.typeIs slot_list_getitem.lookup (wpAny_getItem_list hl (by decide) (by decide) rfl h) hs
end
local macro_rules | `(tactic| k_all) => `(tactic| k_extra "M7e_1")
local macro_rules | `(tactic| walk_at "subscriptTail") => `(tactic| k_extra "M7e_2")
local macro_rules | `(tactic| walk_at "subscriptTail Name Constant ref int") => `(tactic| k_extra "M7e_3")

theorem sub5a {α : Type} {a b c d e p : α} (h : p ∈ [c, a, b, e]) : p ∈ [a, b, c, d, e] := by
  simp only [List.mem_cons, List.not_mem_nil, or_false] at h ⊢
  rcases h with h | h | h | h <;> simp [h]
theorem sub5b {α : Type} {a b c d e p : α} (h : p ∈ [c, a, e, b]) : p ∈ [a, b, c, d, e] := by
  simp only [List.mem_cons, List.not_mem_nil, or_false] at h ⊢
  rcases h with h | h | h | h <;> simp [h]
theorem News.front {h₀ h : Heap} {L : Addr} {a b c : Addr × Obj} {rest : List (Addr × Obj)} (N : News h₀ L h (a :: b :: c :: rest)) : News h₀ L h (c :: a :: b :: rest) := fun p hp => N p (by
  rcases List.mem_cons.mp hp with rfl | hp
  · exact List.Mem.tail _ (List.Mem.tail _ (List.Mem.head _))
  · rcases List.mem_cons.mp hp with rfl | hp
    · exact List.Mem.head _
    · rcases List.mem_cons.mp hp with rfl | hp
      · exact List.Mem.tail _ (List.Mem.head _)
      · exact List.Mem.tail _ (List.Mem.tail _ (List.Mem.tail _ hp)))
theorem News.front3 {h₀ h : Heap} {L : Addr} {a b c e : Addr × Obj} (N : News h₀ L h [a, b, c, e]) : News h₀ L h [e, a, b, c] := fun p hp => N p (by
  rcases List.mem_cons.mp hp with rfl | hp
  · exact List.Mem.tail _ (List.Mem.tail _ (List.Mem.tail _ (List.Mem.head _)))
  · rcases List.mem_cons.mp hp with rfl | hp
    · exact List.Mem.head _
    · rcases List.mem_cons.mp hp with rfl | hp
      · exact List.Mem.tail _ (List.Mem.head _)
      · rw [List.mem_singleton.mp hp]
        exact List.Mem.tail _ (List.Mem.tail _ (List.Mem.head _)))

local macro_rules | `(tactic| walk_at "compareOp Lt ref ref") => `(tactic| k_extra "M7e_4")
local macro_rules | `(tactic| walk_at "exec Try") => `(tactic| k_extra "M7e_5")
local macro_rules | `(tactic| walk_at "call builtin:len") => `(tactic| k_extra "M7e_6")
local macro_rules | `(tactic| walk_at "call builtin:iter") => `(tactic| k_extra "M7e_7")

theorem ns_gives (w : World) (l : Addr) (t2 : Tok) (its : List Value) (d : Nat → Int) (hl : its.length ≤ 6) (h3 : 3 ≤ its.length) :
    Gives w 48 12 [.int 2 t2, .ref l] (fun h => h.IsList l its.toArray ∧ ∀ i, i < its.length → One h (its.getD i .none) (d i))
      (fun h v h' => ∃ D i j c, v = .ref D ∧ h.get? D = none ∧ h'.get? D = some (W.listOf #[its.getD i .none, its.getD j .none] c) ∧ i ≠ j ∧ i < its.length ∧ j < its.length ∧ ∀ k, k < its.length → d i ≤ d k) := by
  w_top off
  k_with_none
  (k_with "M7e_1" => first | exact List.forall_mem_nil _ | (refine' List.forall_mem_cons.mpr ⟨?a, ?b⟩; (case a => k_ne); (case b => k_all)) | fail "none")
  (k_with "M7e_2" => ((with_reducible show wpAny _ _ (subscriptTail _ _ (Value.ref _) (Value.int _ _)) _ _ _); (with_reducible rename News _ _ _ _ => N9); k_dflt (first | refine item_l0 (N9 (_, _) (by k_memK)).1 ?_ | refine item_pr0 (N9 (_, _) (by k_memK)).1 ?_); (try dsimp only)))
  (k_with "M7e_3" => ((with_reducible show wpAny _ _ (subscriptTail _ _ (Value.ref _) (Value.int _ _)) _ _ _); (with_reducible rename News _ _ _ _ => N9); k_dflt (first | refine item_l0 (N9 (_, _) (by k_memK)).1 ?_ | refine item_pr0 (N9 (_, _) (by k_memK)).1 ?_); (try dsimp only)))
  (k_with "M7e_4" => ((with_reducible rename Fr _ _ _ _ => F9); (refine one_cmp (One.fr (by assumption) F9) (One.fr (by assumption) F9) ?u9 (fun hc9 => ?_) (fun hc9 => ?_); (case u9 => ktr_units)) <;> (try dsimp only)))
  (k_with "M7e_5" => (refine wpAny_Try_except ?_))
  (k_with "M7e_6" => ((with_reducible show wpAny _ _ (call (Value.builtin "len") [Value.ref _]) _ _ _); (refine len_list (Fr.lst (by assumption) (by assumption)) (by omega) ?_); (try dsimp only)))
  (k_with "M7e_7" => ((with_reducible show wpAny _ _ (call (Value.builtin "iter") [Value.ref _]) _ _ _); (with_reducible rename Fr _ _ _ _ => F9); (with_reducible rename News _ _ _ _ => N9); (refine iter_K F9 N9 (by assumption) ?_); intro I9 h9 F10 N10 l9; (try k_lt l9); clear F9 N9; (try dsimp only)))
  unfold Gives
  k_fill
  intro mean mg mb dp un gd cn cs fa ccd cl outer A₀ base h₀ L m s Q E B F X T hkf hdp hun hpre hret
  refine wpAny_call ?_
  k_dflt (refine' enterC ?k1 ?k2 ?k3 ?k5 ?kA ?kF ?kK ?k6 ?k7 ?k8 ?k9 ?kB ?kD ?_ ?c2 ?c3 ?c4; (case kA => exact rfl); (case kF => exact rfl); (case kK => assumption); (case k1 => k_asm); (case k2 => k_asm); (case k3 => k_asm); (case k5 => k_asm); (case k6 => k_is); (case k7 => k_is); (case k8 => ktr_room); (case k9 => exact binds_K (by k_in) rfl (by k_is) rfl rfl rfl); (case kB => exact rfl); (case kD => decide +kernel); (case c2 => exact rfl); (case c3 => exact rfl); (case c4 => exact rfl); k_whole; intro g' L' h' tk' cells' G9 FG' F' N' Y' B' X' T'; k_cells Y'; (try dsimp only); (try k_fold))
  have hz : @LE.le Nat _ its.toArray.size 6 := by simpa using hl
  rename _ = Data.cell _ => hcell
  have hl' : g'.IsList l its.toArray := let ⟨o, ho, r⟩ := hpre.1; ⟨o, G9 _ _ ho, r⟩
  have hone : ∀ i, i < its.length → One g' (its.getD i .none) (d i) := fun i hi => (hpre.2 i hi).keep G9
  replace F' : Fr g' L' h' (ov [((Str.ofString "iterable"), Value.ref l), ((Str.ofString "n"), Value.int 2 t2)] (fun _ => none)) := F'
  dsimp only [ov] at F'
  have hz3 : @LE.le Nat _ 3 its.toArray.size := by simpa using h3
  repeat' ((fail_if_success (with_reducible show wpAny _ _ (exec (Stmt.While _ _ _ _) _) _ _ _)); (fail_if_success (with_reducible show wpAny _ _ (pyIter _) _ _ _)); (fail_if_success (with_reducible show wpAny _ _ (eval (Expr.ListComp _ _ _ _) _) _ _ _)); (fail_if_success (with_reducible show wpAny _ _ (exec (Stmt.Assign _ (Expr.ListComp _ _ _ _) _) _) _ _ _)); (fail_if_success (with_reducible show Mine.Ex _ _ _ _ _)); (fail_if_success (with_reducible show WhileStep2 _ _ _ _ _ _ _ _)); (fail_if_success (with_reducible show Mine.Turn _ _ _ _ _ _ _ _ _)); (fail_if_success (with_reducible show LCg.CompSrc _ _ _ _ _ _ _ _ _ _ _ _ _ _)); (fail_if_success (with_reducible show LCt.CompSrcT _ _ _ _ _ _ _ _ _ _ _ _ _ _ _)); (fail_if_success (with_reducible show LCg.CompEnd _ _ _ _ _ _ _ _ _ _ _ _ _ _)); (fail_if_success (with_reducible show Exists _)); (first | (k_unfold; (try dsimp only)) | walk1 | (dsimp only; walk1) | (leave1; walk_say "STEP leave1"; try dsimp only) | fail "no step"))
  with_reducible rename News g' _ _ _ => N9
  with_reducible rename Fr g' _ _ _ => F9
  k_unmd
  k_fold
  refine Assign_Z F9 rfl (by with_unfolding_all rfl) (by with_unfolding_all rfl) (by decide) rfl (by decide) rfl rfl (by decide) (by decide) (by decide) rfl rfl ?_
  repeat' (first | (k_unfold; (try dsimp only)) | walk1 | (dsimp only; walk1) | (leave1; walk_say "STEP leave1"; try dsimp only) | fail "no step")
  rename IsRange _ _ 0 _ _ _ _ _ => R9
  with_reducible rename News g' _ _ _ => N9
  with_reducible rename Fr g' _ _ _ => F9
  have N8 : News g' L' _ ((_, liObj l 0) :: [(L' + 1, _)]) := fun p hp => N9 p (by simpa using hp)
  refine zip_K F9 N8 R9 hl' (by omega) (fun p hp => ?off) rfl ?fin
  case off =>
    rw [List.mem_singleton.mp hp]
    exact Nat.ne_of_lt (by assumption)
  case fin =>
    clear F9 N9 N8 hcell
    intro I hIe D A0 A1 t0 t1 v0 v1 h tk oI hcI hdI e0 e1 F9 N9 lD lI l0 l1
    subst hIe
    have lCD := lD _ (List.Mem.head _)
    dsimp only at lCD
    have hg0 := getD_of e0
    have hg1 := getD_of e1
    have one0 := hone 0 (by omega)
    have one1 := hone 1 (by omega)
    rw [hg0] at one0
    rw [hg1] at one1
    obtain ⟨T0, u0, x0, w0, ev0, hT0⟩ := id one0
    obtain ⟨T1, u1, x1, w1, ev1, hT1⟩ := id one1
    subst ev0 ev1
    clear hT0 hT1
    have N8 : News g' L' h [(D, W.listOf #[.ref A0, .ref A1] 2), (A0, pr (.ref T0) (.int 0 t0)), (A1, pr (.ref T1) (.int 1 t1)), (I, oI)] := fun p hp => N9 p (by
      rcases List.mem_cons.mp hp with rfl | hp
      · exact List.Mem.head _
      · refine List.Mem.tail _ ?_
        rcases List.mem_cons.mp hp with rfl | hp
        · exact List.Mem.head _
        · refine List.Mem.tail _ ?_
          rcases List.mem_cons.mp hp with rfl | hp
          · exact List.Mem.head _
          · refine List.Mem.tail _ ?_
            rw [List.mem_singleton.mp hp]
            exact List.Mem.head _)
    clear N9
    repeat' ((fail_if_success (with_reducible show wpAny _ _ (exec (Stmt.While _ _ _ _) _) _ _ _)); (fail_if_success (with_reducible show wpAny _ _ (pyIter _) _ _ _)); (fail_if_success (with_reducible show wpAny _ _ (eval (Expr.ListComp _ _ _ _) _) _ _ _)); (fail_if_success (with_reducible show wpAny _ _ (exec (Stmt.Assign _ (Expr.ListComp _ _ _ _) _) _) _ _ _)); (fail_if_success (with_reducible show Mine.Ex _ _ _ _ _)); (fail_if_success (with_reducible show WhileStep2 _ _ _ _ _ _ _ _)); (fail_if_success (with_reducible show Mine.Turn _ _ _ _ _ _ _ _ _)); (fail_if_success (with_reducible show LCg.CompSrc _ _ _ _ _ _ _ _ _ _ _ _ _ _)); (fail_if_success (with_reducible show LCt.CompSrcT _ _ _ _ _ _ _ _ _ _ _ _ _ _ _)); (fail_if_success (with_reducible show LCg.CompEnd _ _ _ _ _ _ _ _ _ _ _ _ _ _)); (fail_if_success (with_reducible show Exists _)); (first | (k_unfold; (try dsimp only)) | walk1 | (dsimp only; walk1) | (leave1; walk_say "STEP leave1"; try dsimp only) | fail "no step"))
    with_reducible rename News g' _ _ _ => N7
    with_reducible rename Fr g' _ _ _ => F7
    k_dflt (refine' GivesR.use (heapify_gives _ D A0 A1 _ (d 0) (d 1)) ?k1 F7 N7 ?k3 ?k5 ?kK ?kd ?ku ?kn ?kp ?_; (case k1 => k_asm); (case k3 => k_asm); (case k5 => k_asm); (case kK => exact rfl); (case kd => ktr_room); (case ku => ktr_units))
    case kn => k_all
    case kp => exact ⟨Two.of (one0.fr F7) (N7 _ (List.Mem.tail _ (List.Mem.head _))).1 (N7 _ (List.Mem.head _)).1, Two.of (one1.fr F7) (N7 _ (List.Mem.tail _ (List.Mem.tail _ (List.Mem.head _)))).1 (N7 _ (List.Mem.head _)).1⟩
    intro v9 o9 h9 tk9 hR9 hk9 F10 N10
    obtain ⟨e9, c9, hor9⟩ := hR9
    subst e9
    clear F7 N7
    have hst : ∃ Pa Pb Ta Tb ii jj oa ob ta tb, News g' L' h9 [(D, W.listOf #[.ref Pa, .ref Pb] c9), (Pa, pr (.ref Ta) (.int oa ta)), (Pb, pr (.ref Tb) (.int ob tb)), (I, oI)] ∧ Top2 its d 2 ii jj Ta Tb ∧ @LT.lt Nat _ D Pa ∧ @LT.lt Nat _ D Pb ∧ @Ne Nat Pa Pb := by
      rcases hor9 with ⟨rfl, hle⟩ | ⟨rfl, hle⟩
      · exact ⟨A0, A1, T0, T1, 0, 1, 0, 1, t0, t1, N10, ⟨hg0, hg1, by omega, by omega, by omega, hle, fun q _ _ _ => by omega⟩, by omega, by omega, by omega⟩
      · refine ⟨A1, A0, T1, T0, 1, 0, 1, 0, t1, t0, fun p hp => N10 p ?_, ⟨hg1, hg0, by omega, by omega, by omega, hle, fun q _ _ _ => by omega⟩, by omega, by omega, by omega⟩
        rcases List.mem_cons.mp hp with rfl | hp
        · exact List.Mem.head _
        · rcases List.mem_cons.mp hp with rfl | hp
          · exact List.Mem.tail _ (List.Mem.tail _ (List.Mem.head _))
          · rcases List.mem_cons.mp hp with rfl | hp
            · exact List.Mem.tail _ (List.Mem.head _)
            · exact List.Mem.tail _ (List.Mem.tail _ (List.Mem.tail _ hp))
    obtain ⟨Pa, Pb, Ta, Tb, ii, jj, oa, ob, ta, tb, N9, htop, lPa, lPb, lPP⟩ := hst
    clear hor9 N10 hk9
    dsimp only
    repeat' ((fail_if_success (with_reducible show wpAny _ _ (exec (Stmt.While _ _ _ _) _) _ _ _)); (fail_if_success (with_reducible show wpAny _ _ (pyIter _) _ _ _)); (fail_if_success (with_reducible show wpAny _ _ (eval (Expr.ListComp _ _ _ _) _) _ _ _)); (fail_if_success (with_reducible show wpAny _ _ (exec (Stmt.Assign _ (Expr.ListComp _ _ _ _) _) _) _ _ _)); (fail_if_success (with_reducible show Mine.Ex _ _ _ _ _)); (fail_if_success (with_reducible show WhileStep2 _ _ _ _ _ _ _ _)); (fail_if_success (with_reducible show Mine.Turn _ _ _ _ _ _ _ _ _)); (first | (k_unfold; (try dsimp only)) | walk1 | (dsimp only; walk1) | (leave1; walk_say "STEP leave1"; try dsimp only) | fail "no step"))
    with_reducible rename News g' _ _ _ => N9
    with_reducible rename Fr g' _ _ _ => F9
    k_unmd
    k_fold
    refine for_it (L := L') rfl (its.length - 2) (fun i m₁ news₁ => ∃ Pa Pb Ta Tb ii jj oa ob ta tb c o t u, news₁ = [(D, W.listOf #[.ref Pa, .ref Pb] c), (Pa, pr (.ref Ta) (.int oa ta)), (Pb, pr (.ref Tb) (.int ob tb))] ∧ Top2 its d (i + 2) ii jj Ta Tb ∧ @LT.lt Nat _ D Pa ∧ @LT.lt Nat _ D Pb ∧ @Ne Nat Pa Pb ∧
      m₁ = ov [((Str.ofString "result"), .ref D), ((Str.ofString "top"), .ref Ta), ((Str.ofString "order"), .int o t), ((Str.ofString "_heapreplace"), .ref 21)] u) rfl hcI hdI hl' (by simp; omega) F9 (News.front3 N9) ?off ?hj ?turn ?done
    case off => k_all
    case hj => exact ⟨Pa, Pb, Ta, Tb, ii, jj, oa, ob, ta, tb, _, _, _, _, rfl, htop, lPa, lPb, lPP, ov_self _ _ ⟨rfl, rfl, rfl, rfl, trivial⟩⟩
    case turn =>
      clear F9 N9
      rintro i v m₁ news₁ h tk oI' hi hv ⟨Pa, Pb, Ta, Tb, ii, jj, oa, ob, ta, tb, c, o, t, u, rfl, htop, lPa, lPb, lPP, rfl⟩ hI F9 N9
      dsimp only [ov] at F9
      have hgv := getD_of hv
      have onev := hone (i + 2) (by omega)
      rw [hgv] at onev
      obtain ⟨Tv, _, _, _, rfl, _⟩ := id onev
      have onea : One g' (.ref Ta) (d ii) := htop.1 ▸ hone ii (by have := htop.2.2.2.1; omega)
      have oneb : One g' (.ref Tb) (d jj) := htop.2.1 ▸ hone jj (by have := htop.2.2.2.2.1; omega)
      dsimp only
      repeat' ((fail_if_success (with_reducible show wpAny _ _ (exec (Stmt.While _ _ _ _) _) _ _ _)); (fail_if_success (with_reducible show wpAny _ _ (pyIter _) _ _ _)); (fail_if_success (with_reducible show wpAny _ _ (eval (Expr.ListComp _ _ _ _) _) _ _ _)); (fail_if_success (with_reducible show wpAny _ _ (exec (Stmt.Assign _ (Expr.ListComp _ _ _ _) _) _) _ _ _)); (fail_if_success (with_reducible show Mine.Ex _ _ _ _ _)); (fail_if_success (with_reducible show WhileStep2 _ _ _ _ _ _ _ _)); (fail_if_success (with_reducible show Mine.Turn _ _ _ _ _ _ _ _ _)); (fail_if_success (with_reducible show wpAny _ _ (call (Value.ref 21) _) _ _ _)); (first | (k_unfold; (try dsimp only)) | walk1 | (dsimp only; walk1) | (leave1; walk_say "STEP leave1"; try dsimp only) | fail "no step"))
      · rename d (i + 2) ≤ d ii => hle
        with_reducible rename News g' _ _ _ => N7
        with_reducible rename Fr g' _ _ _ => F7
        have N6 := News.front N7
        have nP := (N6 _ (List.Mem.tail _ (List.Mem.head _)))
        k_dflt (refine' GivesR.use (repl_gives _ D _ Pa Pb _ (d (i + 2)) (d jj)) ?k1 F7 N6 ?k3 ?k5 ?kK ?kd ?ku ?kn ?kp ?_; (case k1 => k_asm); (case k3 => k_asm); (case k5 => k_asm); (case kK => exact rfl); (case kd => ktr_room); (case ku => ktr_units))
        case kn => k_all
        case kp => exact ⟨Two.of (onev.fr F7) nP.1 (N6 _ (List.Mem.head _)).1, Two.of (oneb.fr F7) (N6 _ (List.Mem.tail _ (List.Mem.tail _ (List.Mem.tail _ (List.Mem.tail _ (List.Mem.head _)))))).1 (N6 _ (List.Mem.head _)).1⟩
        intro v9 o9 h9 tk9 hR9 hk9 F10 N10
        obtain ⟨e9, c9, hor9⟩ := hR9
        subst e9
        clear F7 N7 N6 nP hk9
        rcases hor9 with ⟨rfl, hle2⟩ | ⟨rfl, hle2⟩
        ·
          dsimp only
          repeat' ((fail_if_success (with_reducible show wpAny _ _ (exec (Stmt.While _ _ _ _) _) _ _ _)); (fail_if_success (with_reducible show wpAny _ _ (pyIter _) _ _ _)); (fail_if_success (with_reducible show wpAny _ _ (eval (Expr.ListComp _ _ _ _) _) _ _ _)); (fail_if_success (with_reducible show wpAny _ _ (exec (Stmt.Assign _ (Expr.ListComp _ _ _ _) _) _) _ _ _)); (fail_if_success (with_reducible show Mine.Ex _ _ _ _ _)); (fail_if_success (with_reducible show WhileStep2 _ _ _ _ _ _ _ _)); (fail_if_success (with_reducible show Mine.Turn _ _ _ _ _ _ _ _ _)); (first | (k_unfold; (try dsimp only)) | walk1 | (dsimp only; walk1) | (leave1; walk_say "STEP leave1"; try dsimp only) | fail "no step"))
          with_reducible rename News g' _ _ _ => N7
          with_reducible rename Fr g' _ _ _ => F7
          refine Turn.next F7 N7 (fun p hp => sub5a hp) ?off2 ⟨_, Pb, Tv, Tb, i + 2, jj, o, ob, t, tb, _, _, _, _, rfl, htop.new hgv hle hle2, by omega, lPb, by omega, ov_self _ _ ⟨rfl, rfl, rfl, rfl, trivial⟩⟩
          case off2 => k_all
        ·
          dsimp only
          repeat' ((fail_if_success (with_reducible show wpAny _ _ (exec (Stmt.While _ _ _ _) _) _ _ _)); (fail_if_success (with_reducible show wpAny _ _ (pyIter _) _ _ _)); (fail_if_success (with_reducible show wpAny _ _ (eval (Expr.ListComp _ _ _ _) _) _ _ _)); (fail_if_success (with_reducible show wpAny _ _ (exec (Stmt.Assign _ (Expr.ListComp _ _ _ _) _) _) _ _ _)); (fail_if_success (with_reducible show Mine.Ex _ _ _ _ _)); (fail_if_success (with_reducible show WhileStep2 _ _ _ _ _ _ _ _)); (fail_if_success (with_reducible show Mine.Turn _ _ _ _ _ _ _ _ _)); (first | (k_unfold; (try dsimp only)) | walk1 | (dsimp only; walk1) | (leave1; walk_say "STEP leave1"; try dsimp only) | fail "no step"))
          with_reducible rename News g' _ _ _ => N7
          with_reducible rename Fr g' _ _ _ => F7
          refine Turn.next F7 N7 (fun p hp => sub5b hp) ?off3 ⟨Pb, _, Tb, Tv, jj, i + 2, ob, o, tb, t, _, _, _, _, rfl, htop.under hgv hle2, lPb, by omega, by omega, ov_self _ _ ⟨rfl, rfl, rfl, rfl, trivial⟩⟩
          case off3 => k_all
      · rename d ii ≤ d (i + 2) => hle
        refine Turn.next (by k_asm) N9 (fun p hp => hp) hI ⟨Pa, Pb, Ta, Tb, ii, jj, oa, ob, ta, tb, _, _, _, _, rfl, htop.stay hle, lPa, lPb, lPP, ov_self _ _ ⟨rfl, rfl, rfl, rfl, trivial⟩⟩
    case done =>
      clear F9 N9
      rintro m₁ news₁ h tk ⟨Pa, Pb, Ta, Tb, ii, jj, oa, ob, ta, tb, c, o, t, u, rfl, htop, lPa, lPb, lPP, rfl⟩ F9 N9
      dsimp only [ov] at F9
      have onea : One g' (.ref Ta) (d ii) := htop.1 ▸ hone ii (by have := htop.2.2.2.1; omega)
      have oneb : One g' (.ref Tb) (d jj) := htop.2.1 ▸ hone jj (by have := htop.2.2.2.2.1; omega)
      dsimp only
      repeat' ((fail_if_success (with_reducible show wpAny _ _ (exec (Stmt.While _ _ _ _) _) _ _ _)); (fail_if_success (with_reducible show wpAny _ _ (pyIter _) _ _ _)); (fail_if_success (with_reducible show wpAny _ _ (eval (Expr.ListComp _ _ _ _) _) _ _ _)); (fail_if_success (with_reducible show wpAny _ _ (exec (Stmt.Assign _ (Expr.ListComp _ _ _ _) _) _) _ _ _)); (fail_if_success (with_reducible show Mine.Ex _ _ _ _ _)); (fail_if_success (with_reducible show WhileStep2 _ _ _ _ _ _ _ _)); (fail_if_success (with_reducible show Mine.Turn _ _ _ _ _ _ _ _ _)); (fail_if_success (with_reducible show wpAny _ _ (call (Value.builtin "list.sort") _) _ _ _)); (first | (k_unfold; (try dsimp only)) | walk1 | (dsimp only; walk1) | (leave1; walk_say "STEP leave1"; try dsimp only) | fail "no step"))
      with_reducible rename News g' _ _ _ => N7
      with_reducible rename Fr g' _ _ _ => F7
      refine sort2 F7 N7 ?so (List.Mem.head _) (List.Mem.tail _ (List.Mem.head _)) onea oneb ?su ?_
      case so => k_all
      case su => ktr_units
      intro h9 c9 out9 F10 N10 hor9
      clear F7 N7
      rcases hor9 with ⟨rfl, hle2⟩ | ⟨rfl, hle2⟩
      · dsimp only
        repeat' (first | (k_unfold; (try dsimp only)) | walk1 | (dsimp only; walk1) | (leave1; walk_say "STEP leave1"; try dsimp only) | fail "no step")
        with_reducible rename News g' _ _ _ => N9
        refine hret _ _ _ ⟨_, ii, jj, 2, rfl, fresh_of G9 (N9 _ (List.Mem.head _)).2.2, ?_, htop.2.2.1, by have := htop.2.2.2.1; omega, by have := htop.2.2.2.2.1; omega, fun q hq => ?_⟩ (fun b o e => Fr.keep (by k_asm) b o (G9 b o e))
        · rw [htop.1, htop.2.1]; exact (N9 _ (List.Mem.head _)).1
        · exact htop.least1 hle2 (by omega)
      · dsimp only
        repeat' (first | (k_unfold; (try dsimp only)) | walk1 | (dsimp only; walk1) | (leave1; walk_say "STEP leave1"; try dsimp only) | fail "no step")
        with_reducible rename News g' _ _ _ => N9
        refine hret _ _ _ ⟨_, jj, ii, 2, rfl, fresh_of G9 (N9 _ (List.Mem.head _)).2.2, ?_, Ne.symm htop.2.2.1, by have := htop.2.2.2.2.1; omega, by have := htop.2.2.2.1; omega, fun q hq => ?_⟩ (fun b o e => Fr.keep (by k_asm) b o (G9 b o e))
        · rw [htop.1, htop.2.1]; exact (N9 _ (List.Mem.head _)).1
        · exact htop.least2 (by omega)
end Mine

end

-- part M7g
section
open PySem PySem.W PySem.Spec PySem.Calls PyProof.Rows SeqAt
open MeetsSeq MeetsSeq2 MeetsSeq3 SeqRoads2
set_option maxRecDepth 100000
set_option maxHeartbeats 4000000
namespace Mine

theorem sort_kw (a : Addr) : Builtin.«list.sort» ⟨[.ref a], [(Str.ofString "key", .none)]⟩ = Builtin.«list.sort» ⟨[.ref a], []⟩ := rfl
theorem args_sort_kw (a : Value) : argsOk "list.sort" ⟨[a], [(Str.ofString "key", .none)]⟩ := by unfold argsOk; kernel_rfl
theorem args_sorted_kw (a : Value) : argsOk "sorted" ⟨[a], [(Str.ofString "key", .none)]⟩ := by unfold argsOk; kernel_rfl
theorem looks_int {M : Model} {h : Heap} {d : Int} {t : Tok} : Looks M h (typeOf (.int d t)) (.type "int") := .now

section
variable {prog : Program} {w : World} {A : Around} {E : Value → Shared → Prop} {s : Shared} {h₀ : Heap} {L : Addr} {m : Str → Option Value} {news : List (Addr × Obj)}
theorem sorted2 {l Ta Tb : Addr} {da db : Int} {Q : Value → Shared → Prop} (F : Fr h₀ L s.heap m) (N : News h₀ L s.heap news) (hl : s.heap.IsList l #[.ref Ta, .ref Tb]) (onea : One h₀ (.ref Ta) da) (oneb : One h₀ (.ref Tb) db)
    (h : ∀ D c out h', Fr h₀ L h' m → News h₀ L h' ((D, W.listOf out c) :: news) → (∀ q ∈ news, q.1 < D) → ((out = #[.ref Ta, .ref Tb] ∧ da ≤ db) ∨ (out = #[.ref Tb, .ref Ta] ∧ db ≤ da)) → Q (.ref D) { s with heap := h' }) :
    wpAny (model prog w) A (call (.builtin "sorted") [.ref l] [(Str.ofString "key", .none)]) Q E s := by
  refine call_function_entry_kw kind_sorted plain_sorted entry_sorted (args_sorted_kw _) ?_
  unfold Builtin.«sorted»
  refine wpAny_bind (m := checkCount "sorted" 1 1 _) (wpAny_pure ?_)
  refine wpAny_bind (collect_list (vs := [.ref Ta, .ref Tb]) hl ?_ (by rw [sizeLine_eq]; show 2 ≤ _; omega))
  refine wpAny_bind (wpAny_newList ?_ (by rw [sizeLine_eq]; show 2 ≤ _; omega))
  dsimp only
  have k1 : ∀ b o, s.heap.get? b = some o → ((s.heap.push (seqObj "list" #[] 0)).update s.heap.objs.size (Obj.mapSeq fun x => x ++ #[Value.ref Ta, Value.ref Tb])).get? b = some o := fun b o q => by
    have hlt : @LT.lt Nat _ b s.heap.objs.size := Heap.lt_size q
    rw [Heap.get?_update_ne _ _ _ _ (Nat.ne_of_lt hlt)]
    exact Heap.get?_push_of_some _ q
  have z1 : ((s.heap.push (seqObj "list" #[] 0)).update s.heap.objs.size (Obj.mapSeq fun x => x ++ #[Value.ref Ta, Value.ref Tb])).objs.size = s.heap.objs.size + 1 := by rw [Heap.size_update, size_push']
  generalize (s.heap.push (seqObj "list" #[] 0)).update s.heap.objs.size (Obj.mapSeq fun x => x ++ #[Value.ref Ta, Value.ref Tb]) = H1 at k1 z1 ⊢
  have k2 : ∀ b o, s.heap.get? b = some o → (H1.push (seqObj "list" #[Value.ref Ta, Value.ref Tb] 0)).get? b = some o := fun b o q => Heap.get?_push_of_some _ (k1 b o q)
  have hD : (H1.push (seqObj "list" #[Value.ref Ta, Value.ref Tb] 0)).get? H1.objs.size = some (seqObj "list" #[Value.ref Ta, Value.ref Tb] 0) := Heap.get?_push_size _ rfl
  show wpAny _ _ _ _ _ { s with heap := H1.push (seqObj "list" #[Value.ref Ta, Value.ref Tb] 0) }
  generalize H1.push (seqObj "list" #[Value.ref Ta, Value.ref Tb] 0) = H2 at k2 hD ⊢
  generalize H1.objs.size = D at z1 hD ⊢
  have lD : @LT.lt Nat _ s.heap.objs.size D := by rw [z1]; exact Nat.lt_succ_self _
  have lL : @LT.lt Nat _ L s.heap.objs.size := F.ns.lt
  refine wpAny_bind (wpAny_holding (wpAny_call_entry_kw slot_list_sort ⟨_, hD, rfl⟩ entry_list_sort ?body (args_sort_kw _)))
  case body =>
    rw [sort_kw]
    refine kat_list_sort (s := { s with heap := H2 }) (vs := [.ref Ta, .ref Tb]) (F.kept k2) (N.grown k2) hD (Nat.ne_of_gt (Nat.lt_trans lL lD)) (Heap.get?_none_of_le (Nat.le_trans F.above (Nat.le_of_lt (Nat.lt_trans lL lD))))
      (fun p hp => Nat.ne_of_lt (Nat.lt_trans (Heap.lt_size (N p hp).1) lD)) (Nat.le_refl 2) (by show 2 < 64; omega) fun e1 h' F' N' => ?_
    have hoff : ∀ p ∈ news, p.1 ≠ D := fun p hp => Nat.ne_of_lt (Nat.lt_trans (Heap.lt_size (N p hp).1) lD)
    obtain ⟨_, xt, xx, xu, xe, ha⟩ := onea
    injection xe with xe
    subst xe
    obtain ⟨_, yt, yx, yu, ye, hb⟩ := oneb
    injection ye with ye
    subst ye
    have na := F'.keep _ _ ha
    have nb := F'.keep _ _ hb
    refine kat_kind (fs := [.int da xt, .int db yt]) (T := .type "int") (KatTups.cons na rfl rfl rfl (KatTups.cons nb rfl rfl rfl .nil)) (Nat.zero_lt_succ _) (fun v hv => ?_) rfl ?_
    · simp only [List.mem_cons, List.not_mem_nil, or_false] at hv
      rcases hv with rfl | rfl
      · exact looks_int
      · exact looks_int
    · refine sort2_wp ?_
      show wpAny (model prog w) _ (keyLt' (tuples' true) (.ref Tb) (.ref Ta)) _ _ _
      refine kat_lt nb rfl na rfl ?_
      refine katLex2 (c1 := decide (db < da)) (c2 := decide (yx.cps.toList < xx.cps.toList)) ((EqGives.int db da yt xt).at _ _) (fun _ _ _ hq => oneLt_int hq) ((eqGives_str yx xx yu xu).at _ _) (fun _ => LtAt.str _ _ _ _) ?_
      generalize hr : (if (db == da) = true then (if (yx == xx) = true then false else decide (yx.cps.toList < xx.cps.toList)) else decide (db < da)) = r
      have hle : (r = true → db ≤ da) ∧ (r = false → da ≤ db) := by
        by_cases e : db = da
        · exact ⟨fun _ => by omega, fun _ => by omega⟩
        · rw [if_neg (by simpa using e)] at hr
          subst hr
          exact ⟨fun h => by have := of_decide_eq_true h; omega, fun h => by have := of_decide_eq_false h; omega⟩
      have hn : ∀ q ∈ news, q.1 < D := fun p hp => Nat.lt_trans (Heap.lt_size (N p hp).1) lD
      cases r with
      | true => exact KasFin.intro F' N' (UpdF.head hoff) fun h'' c' F'' N'' => ⟨_, rfl, wpAny_pure ⟨_, rfl, h D c' _ h'' F'' N'' hn (.inr ⟨rfl, hle.1 rfl⟩)⟩⟩
      | false => exact KasFin.intro F' N' (UpdF.head hoff) fun h'' c' F'' N'' => ⟨_, rfl, wpAny_pure ⟨_, rfl, h D c' _ h'' F'' N'' hn (.inl ⟨rfl, hle.2 rfl⟩)⟩⟩

theorem slice_T {value slice : Expr} {l : Addr} {items out : Array Value} {vl vu : Value} {lo hi : Option Int} {Q : Value → Shared → Prop}
    (F : Fr h₀ L s.heap m) (N : News h₀ L s.heap news) (hl : s.heap.IsList l items) (pl : IsPart vl lo) (pu : IsPart vu hi) (e : slicePick items lo hi none = out) (hsz : items.size ≤ 1000)
    (h : ∀ D h', Fr h₀ L h' m → News h₀ L h' ((D, W.listOf out 0) :: news) → (∀ p ∈ news, p.1 < D) → Q (.ref D) { s with heap := h' })
    (hs : subscripted slice false (.ref l) (.ref s.heap.objs.size) = operate [.ref s.heap.objs.size, .ref l] (getItem (.ref l) (.ref s.heap.objs.size)) := by with_unfolding_all rfl) :
    wpAny (model prog w) A (subscriptTail value slice (.ref l) (.ref s.heap.objs.size)) Q E { s with heap := s.heap.push { cls := .type "slice", data := .fields #[vl, vu, .none] } } := by
  refine tail_any (Heap.IsList.typeIs (s := { s with heap := s.heap.push { cls := .type "slice", data := .fields #[vl, vu, .none] } }) (hl.push _)) list_getitem_lookup
    (wpAny_getItem_list_slice (hl.push _) (Heap.IsSliceOf.new ..) pl pu .none (by simp) ?_ (by rw [sizeLine_eq]; omega)) hs
  subst e
  have F1 := F.push { cls := .type "slice", data := .fields #[vl, vu, .none] }
  have N1 := News.push F1 (N.grown fun _ _ e => Heap.get?_push_of_some _ e) { cls := .type "list", data := .seq (slicePick items lo hi none) }
  refine h _ _ (F1.push _) N1 fun p hp => ?_
  rw [Heap.size_push]
  exact Nat.lt_succ_of_lt (Heap.lt_size (N p hp).1)
theorem len_two {l : Addr} {a b : Value} {Q : Value → Shared → Prop} (hl : s.heap.IsList l #[a, b]) (h : Q (.int 2 (s.toks + 1)) { s with toks := s.toks + 1 + 1 }) : wpAny (model prog w) A (call (.builtin "len") [.ref l]) Q E s :=
  len_list hl (by show (2 : Int) < _; decide) h
end
theorem pick2 (a b : Value) : slicePick #[a, b] none (some 2) none = #[a, b] := rfl
theorem pick1 (a b : Value) : slicePick #[a, b] none (some 1) none = #[a] := rfl
theorem pick0 (a b : Value) : slicePick #[a, b] none (some 0) none = #[] := rfl
end Mine

end

-- part M7h
section
open PySem PySem.W PySem.Spec PySem.Calls PyProof.Rows SeqAt
set_option maxRecDepth 100000
set_option maxHeartbeats 4000000
namespace Mine

local macro_rules | `(tactic| k_all) => `(tactic| k_extra "M7h_1")
local macro_rules | `(tactic| walk_at "exec Try") => `(tactic| k_extra "M7h_2")
local macro_rules | `(tactic| walk_at "call builtin:len") => `(tactic| k_extra "M7h_3")
local macro_rules | `(tactic| walk_at "call builtin:sorted") => `(tactic| k_extra "M7h_4")

theorem ns2_gives (w : World) (l : Addr) (t2 : Tok) (Ta Tb : Addr) (d0 d1 : Int) :
    Gives w 48 12 [.int 2 t2, .ref l] (fun h => h.IsList l #[.ref Ta, .ref Tb] ∧ One h (.ref Ta) d0 ∧ One h (.ref Tb) d1)
      (fun h v h' => ∃ D c, v = .ref D ∧ h.get? D = none ∧ ((h'.get? D = some (W.listOf #[.ref Ta, .ref Tb] c) ∧ d0 ≤ d1) ∨ (h'.get? D = some (W.listOf #[.ref Tb, .ref Ta] c) ∧ d1 ≤ d0))) := by
  w_top off
  k_with_none
  (k_with "M7h_1" => first | exact List.forall_mem_nil _ | (refine' List.forall_mem_cons.mpr ⟨?a, ?b⟩; (case a => k_ne); (case b => k_all)) | fail "none")
  (k_with "M7h_2" => (refine wpAny_Try_except ?_))
  (k_with "M7h_3" => ((with_reducible show wpAny _ _ (call (Value.builtin "len") [Value.ref _]) _ _ _); (refine len_two (Fr.lst (by assumption) (by assumption)) ?_); (try dsimp only)))
  (k_with "M7h_4" => ((show wpAny _ _ (call (Value.builtin "sorted") [Value.ref _] [(Str.ofString "key", Value.none)]) _ _ _); (with_reducible rename Fr _ _ _ _ => F9); (with_reducible rename News _ _ _ _ => N9); (refine sorted2 F9 N9 (Fr.lst F9 (by assumption)) (by assumption) (by assumption) ?_); intro D9 c9 out9 h9 F10 N10 l9 hor9; (try k_lt l9); clear F9 N9; (try dsimp only)))
  unfold Gives
  k_fill
  intro mean mg mb dp un gd cn cs fa ccd cl outer A₀ base h₀ L m s Q E B F X T hkf hdp hun hpre hret
  refine wpAny_call ?_
  k_dflt (refine' enterC ?k1 ?k2 ?k3 ?k5 ?kA ?kF ?kK ?k6 ?k7 ?k8 ?k9 ?kB ?kD ?_ ?c2 ?c3 ?c4; (case kA => exact rfl); (case kF => exact rfl); (case kK => assumption); (case k1 => k_asm); (case k2 => k_asm); (case k3 => k_asm); (case k5 => k_asm); (case k6 => k_is); (case k7 => k_is); (case k8 => ktr_room); (case k9 => exact binds_K (by k_in) rfl (by k_is) rfl rfl rfl); (case kB => exact rfl); (case kD => decide +kernel); (case c2 => exact rfl); (case c3 => exact rfl); (case c4 => exact rfl); k_whole; intro g' L' h' tk' cells' G9 FG' F' N' Y' B' X' T'; k_cells Y'; (try dsimp only); (try k_fold))
  rename _ = Data.cell _ => hcell
  have hl' : g'.IsList l #[.ref Ta, .ref Tb] := let ⟨o, ho, r⟩ := hpre.1; ⟨o, G9 _ _ ho, r⟩
  have onea : One g' (.ref Ta) d0 := hpre.2.1.keep G9
  have oneb : One g' (.ref Tb) d1 := hpre.2.2.keep G9
  replace F' : Fr g' L' h' (ov [((Str.ofString "iterable"), Value.ref l), ((Str.ofString "n"), Value.int 2 t2)] (fun _ => none)) := F'
  dsimp only [ov] at F'
  repeat' (first | (k_unfold; (try dsimp only)) | walk1 | (dsimp only; walk1) | (leave1; walk_say "STEP leave1"; try dsimp only) | fail "no step")
  with_reducible rename Fr g' _ _ _ => F9
  with_reducible rename News g' _ _ _ => N9
  with_reducible rename _ ∨ _ => hor9
  rcases hor9 with ⟨e9, hle9⟩ | ⟨e9, hle9⟩
  all_goals subst e9
  · refine slice_T (s := ⟨_, _, _, _, _⟩) F9 N9 ⟨_, (N9 (_, _) (List.Mem.head _)).1, rfl, _, rfl⟩ IsPart.none (IsPart.int 2 _) (pick2 _ _) (Nat.le_of_ble_eq_true rfl) ?_
    clear F9 N9
    intro D9 h9 F10 N10 l9
    clear l9
    dsimp only
    repeat' (first | (k_unfold; (try dsimp only)) | walk1 | (dsimp only; walk1) | (leave1; walk_say "STEP leave1"; try dsimp only) | fail "no step")
    with_reducible rename News g' _ _ _ => N9
    exact hret _ _ _ ⟨_, _, rfl, fresh_of G9 (N9 _ (List.Mem.head _)).2.2, .inl ⟨(N9 _ (List.Mem.head _)).1, hle9⟩⟩ (fun b o e => Fr.keep (by k_asm) b o (G9 b o e))
  · refine slice_T (s := ⟨_, _, _, _, _⟩) F9 N9 ⟨_, (N9 (_, _) (List.Mem.head _)).1, rfl, _, rfl⟩ IsPart.none (IsPart.int 2 _) (pick2 _ _) (Nat.le_of_ble_eq_true rfl) ?_
    clear F9 N9
    intro D9 h9 F10 N10 l9
    clear l9
    dsimp only
    repeat' (first | (k_unfold; (try dsimp only)) | walk1 | (dsimp only; walk1) | (leave1; walk_say "STEP leave1"; try dsimp only) | fail "no step")
    with_reducible rename News g' _ _ _ => N9
    exact hret _ _ _ ⟨_, _, rfl, fresh_of G9 (N9 _ (List.Mem.head _)).2.2, .inr ⟨(N9 _ (List.Mem.head _)).1, hle9⟩⟩ (fun b o e => Fr.keep (by k_asm) b o (G9 b o e))
end Mine

end

-- part M8a
section
open PySem PySem.W PySem.Spec PySem.Calls PyProof.Rows SeqAt
set_option maxRecDepth 100000
set_option maxHeartbeats 4000000
namespace Mine

theorem nsm_gives (w : World) (l : Addr) (t2 : Tok) (its : List Value) (d : Nat → Int) (hl : its.length ≤ 6) (h2 : 2 ≤ its.length) :
    Gives w 48 12 [.int 2 t2, .ref l] (fun h => h.IsList l its.toArray ∧ ∀ i, i < its.length → One h (its.getD i .none) (d i))
      (fun h v h' => ∃ D i j c, v = .ref D ∧ h.get? D = none ∧ h'.get? D = some (W.listOf #[its.getD i .none, its.getD j .none] c) ∧ i ≠ j ∧ i < its.length ∧ j < its.length ∧ ∀ k, k < its.length → d i ≤ d k) := by
  by_cases h3 : 3 ≤ its.length
  · exact ns_gives w l t2 its d hl h3
  · obtain ⟨a, b, rfl⟩ : ∃ a b, its = [a, b] := by
      cases its with
      | nil => simp at h2
      | cons a r =>
        cases r with
        | nil => simp at h2
        | cons b r =>
          cases r with
          | nil => exact ⟨a, b, rfl⟩
          | cons _ _ => simp at h3
    · intro mean mg mb dp un gd cn cs fa ccd cl outer A₀ base h₀ L m s Q E B F X T hkf hdp hun hpre hret
      have o1 := hpre.2 0 (by show 0 < 2; omega)
      have o2 := hpre.2 1 (by show 1 < 2; omega)
      obtain ⟨Ta, _, _, _, ea, _⟩ := id o1
      obtain ⟨Tb, _, _, _, eb, _⟩ := id o2
      have ea' : a = .ref Ta := ea
      have eb' : b = .ref Tb := eb
      subst ea' eb'
      refine ns2_gives w l t2 Ta Tb (d 0) (d 1) mean mg mb dp un gd cn cs fa ccd cl outer A₀ base h₀ L m s Q E B F X T hkf hdp hun ⟨hpre.1, o1, o2⟩ fun v h' tk' hR hk => hret v h' tk' ?_ hk
      obtain ⟨D, c, rfl, hD, ⟨e, hle⟩ | ⟨e, hle⟩⟩ := hR
      · exact ⟨D, 0, 1, c, rfl, hD, e, by omega, by show 0 < 2; omega, by show 1 < 2; omega, fun k hk => by
          have hk' : k < 2 := hk
          match k, hk' with
          | 0, _ => exact Int.le_refl _
          | 1, _ => exact hle⟩
      · exact ⟨D, 1, 0, c, rfl, hD, e, by omega, by show 1 < 2; omega, by show 0 < 2; omega, fun k hk => by
          have hk' : k < 2 := hk
          match k, hk' with
          | 0, _ => exact hle
          | 1, _ => exact Int.le_refl _⟩

section
variable {prog : Program} {w : World} {A : Around} {E : Value → Shared → Prop} {s : Shared} {env : Env} {h₀ : Heap} {x : Str} {body : List Stmt} {Q : Flow → Shared → Prop}

theorem for_L {L l : Addr} {its : Array Value} {c : Nat} {m₀ : Str → Option Value} {news : List (Addr × Obj)} (hL : env.locals = L) (J : Nat → (Str → Option Value) → List (Addr × Obj) → Prop)
    (hh : A.handled = none) (F : Fr h₀ L s.heap m₀) (N : News h₀ L s.heap news) (hj : J 0 m₀ news) (hJl : ∀ i m₁ news₁, J i m₁ news₁ → (l, W.listOf its c) ∈ news₁)
    (turn : ∀ i v m₁ news₁ h tk I oI, its[i]? = some v → J i m₁ news₁ → (∀ p ∈ news, p.1 < I) → (∀ p ∈ news₁, p.1 ≠ I) → Fr h₀ L h (fun y => if y = x then some v else m₁ y) → News h₀ L h ((I, oI) :: news₁) →
      wpAny (model prog w) A (execs body env) (Turn h₀ L I oI (J (i + 1)) { s with heap := h, toks := tk } Q) E { s with heap := h, toks := tk })
    (done : ∀ m₁ news₁ h tk, J its.size m₁ news₁ → Fr h₀ L h m₁ → News h₀ L h news₁ → Q .next { s with heap := h, toks := tk }) :
    wpAny (model prog w) A (pyIter (.ref l)) (fun it s₂ => LoopAtV prog w A h₀ env x body Q E it s₂) E s := by
  subst hL
  have nl := N _ (hJl _ _ _ hj)
  have hl : s.heap.IsList l its := ⟨_, nl.1, rfl, _, rfl⟩
  refine wpAny_pyIter_list hl ?_
  have hlt : ∀ p ∈ news, @LT.lt Nat _ p.1 s.heap.objs.size := fun p hp => Heap.lt_size (N p hp).1
  have lne : l ≠ s.heap.objs.size := Nat.ne_of_lt (hlt _ (hJl _ _ _ hj))
  have F1 := F.push { cls := .type "list_iterator", data := .fields #[.ref l, .int 0 0] }
  have N1 : News h₀ env.locals (s.heap.push { cls := .type "list_iterator", data := .fields #[.ref l, .int 0 0] }) news := fun p hp => ⟨Heap.get?_push_of_some _ (N p hp).1, (N p hp).2⟩
  have hIn : h₀.get? s.heap.objs.size = none := next_is_new F
  have hst : (s.heap.push { cls := .type "list_iterator", data := .fields #[.ref l, .int 0 0] }).IsListIter s.heap.objs.size l 0 ∧ (s.heap.push { cls := .type "list_iterator", data := .fields #[.ref l, .int 0 0] }).IsList l its := ⟨⟨_, Heap.get?_push_size _ rfl, rfl, rfl⟩, hl.push _⟩
  have hIL : env.locals ≠ s.heap.objs.size := Nat.ne_of_lt F.ns.lt
  generalize hI : s.heap.objs.size = I at *
  generalize hH : s.heap.push { cls := .type "list_iterator", data := .fields #[.ref l, .int 0 0] } = H at *
  refine ⟨I, [I, l], [I], its.size, _, _, m₀, news, J, rfl, Walks.list hh I l lne its, ?_, fun b hb => by rw [List.mem_singleton.mp hb]; exact hIn, fun p hp hm => Nat.ne_of_lt (hlt p hp) (List.mem_singleton.mp hm), hst, F1, N1, hj, ?_, ?_⟩
  · intro hm
    simp at hm
    rcases hm with hm | hm
    · exact hIL hm
    · exact nl.2.1 hm.symm
  · rintro i v m₁ news₁ s₁ own ⟨hh', tk', rfl⟩ hin hP hJ hoff hown hget hall hst₁ F₁ N₁
    obtain ⟨oI, hoI, _⟩ := hst₁.1
    have hmem : (I, oI) ∈ own := hall I (by simp) hIn oI hoI
    have hmemL := hJl _ _ _ hJ
    have hgl := (N₁ _ (List.mem_append_right _ hmemL)).1
    have honly : ∀ p ∈ own, p = (I, oI) ∨ p = (l, W.listOf its c) := fun p hp => by
      have h1 := hown p hp
      have h3 := hget p hp
      simp at h1
      rcases h1 with e | e
      · rw [e] at h3
        exact .inl (Prod.ext e (Option.some.inj (h3.symm.trans hoI)))
      · rw [e] at h3
        exact .inr (Prod.ext e (Option.some.inj (h3.symm.trans hgl)))
    have hne : ∀ p ∈ news₁, p.1 ≠ I := fun p hp e => hoff p hp (List.mem_singleton.mpr e)
    have N₂ : News h₀ env.locals hh' ((I, oI) :: news₁) := fun p hp => by
      rcases List.mem_cons.mp hp with rfl | hp
      · exact N₁ _ (List.mem_append_left _ hmem)
      · exact N₁ p (List.mem_append_right _ hp)
    refine wpAny_mono (turn i v m₁ news₁ hh' tk' I oI hP hJ hlt hne F₁ N₂) (fun f s₂ p => ?_) fun _ _ e => e
    have fin : (∃ h' tk m' news', s₂ = { s with heap := h', toks := tk } ∧ Fr h₀ env.locals h' m' ∧ News h₀ env.locals h' ((I, oI) :: news') ∧ (∀ p ∈ news', p.1 ≠ I) ∧ J (i + 1) m' news') →
        LoopStepU h₀ env.locals [I] own (J (i + 1)) { s with heap := hh', toks := tk' } .next s₂ := by
      rintro ⟨h', tk, m', news', e, F', N', hn', hJ'⟩
      refine ⟨rfl, h', tk, m', news', e, F', fun p hp => ?_, fun p hp hm => hn' p hp (List.mem_singleton.mp hm), hJ'⟩
      rcases List.mem_append.mp hp with hp | hp
      · rcases honly p hp with rfl | rfl
        · exact N' _ List.mem_cons_self
        · exact N' _ (List.mem_cons_of_mem _ (hJl _ _ _ hJ'))
      · exact N' p (List.mem_cons_of_mem _ hp)
    cases f with
    | ret v => exact .ret p
    | brk => exact .brk p
    | next => exact .next (fin p)
    | cont => exact .cont (fin p)
  · rintro h' tk m' news' F' N' hoff hJ
    exact done m' news' h' tk hJ F' N'
end

/-- the pairs told by ps, as the refs ys, lie in tn -/
inductive Tups (tn : List (Addr × Obj)) : List (Int × List Nat) → List Value → Prop
  | nil : Tups tn [] []
  | snoc {ps : List (Int × List Nat)} {ys : List Value} {d : Int} {c : List Nat} {T : Addr} {t u : Tok} : Tups tn ps ys → (T, pr (.int d t) (.str (S c) u)) ∈ tn → Tups tn (ps ++ [(d, c)]) (ys ++ [.ref T])
theorem Tups.mono {tn tn' : List (Addr × Obj)} (hs : ∀ p ∈ tn, p ∈ tn') {ps : List (Int × List Nat)} {ys : List Value} (h : Tups tn ps ys) : Tups tn' ps ys := by
  induction h with
  | nil => exact .nil
  | snoc _ hm ih => exact .snoc ih (hs _ hm)
theorem Tups.length {tn : List (Addr × Obj)} {ps : List (Int × List Nat)} {ys : List Value} (h : Tups tn ps ys) : ys.length = ps.length := by
  induction h with
  | nil => rfl
  | snoc _ _ ih => simp [ih]
theorem Tups.at {tn : List (Addr × Obj)} {ps : List (Int × List Nat)} {ys : List Value} (h : Tups tn ps ys) : ∀ {i : Nat} {d : Int} {c : List Nat}, ps[i]? = some (d, c) → ∃ T t u, ys.getD i .none = .ref T ∧ (T, pr (.int d t) (.str (S c) u)) ∈ tn := by
  induction h with
  | nil => intro i d c h; simp at h
  | @snoc ps ys d' c' T t u h hm ih =>
    intro i d c hi
    by_cases e : i < ps.length
    · rw [List.getElem?_append_left e] at hi
      obtain ⟨T, t, u, h1, h2⟩ := ih hi
      refine ⟨T, t, u, ?_, h2⟩
      rw [← h1]
      simp [List.getD, List.getElem?_append_left (h.length ▸ e)]
    · have e2 : i = ps.length := by
        have : i < (ps ++ [(d', c')]).length := by
          rcases Nat.lt_or_ge i (ps ++ [(d', c')]).length with h | h
          · exact h
          · rw [List.getElem?_eq_none h] at hi; cases hi
        simp at this; omega
      subst e2
      simp at hi
      obtain ⟨rfl, rfl⟩ := hi
      exact ⟨T, t, u, by simp [List.getD, ← h.length], hm⟩
end Mine

end

-- part M8b
section
open PySem PySem.W PySem.Spec PySem.Calls PyProof.Rows SeqAt
open MeetsSeq MeetsSeq2 MeetsSeq3 SeqRoads2
set_option maxRecDepth 100000
set_option maxHeartbeats 4000000
namespace Mine
section
variable {prog : Program} {w : World} {A : Around} {E : Value → Shared → Prop} {s : Shared}
theorem eq_one {P P' : Addr} {d : Int} {x : Str} {t t' u u' : Tok} (hP : s.heap.get? P = some (pr (.int d t) (.str x u))) (hP' : s.heap.get? P' = some (pr (.int d t') (.str x u'))) (hu : A.units < cLine) : EqAt A s (.ref P) (.ref P') true := by
  by_cases hne : P = P'
  · subst hne; exact EqAt.same _
  · have h := EqAt.of_refs hne (RcAt.tuples (A := A) (s := s) (items := #[.int d t, .str x u]) (items2 := #[.int d t', .str x u']) (e := fun j => match j with | 0 => d == d | _ => x == x) ⟨_, hP, rfl, _, rfl⟩ ⟨_, hP', rfl, _, rfl⟩ hu (by
      intro j h1 h2
      match j, h1, h2 with
      | 0, _, _ => exact (EqGives.int d d t t').at _ _
      | 1, _, _ => exact (eqGives_str x x u u').at _ _))
    simpa [List.range_succ] using h
theorem ne_one {l b P P' : Addr} {d : Int} {x : Str} {t t' u u' : Tok} {Q : Value → Shared → Prop} (hl : s.heap.IsList l #[.ref P]) (hb : s.heap.IsList b #[.ref P']) (hP : s.heap.get? P = some (pr (.int d t) (.str x u))) (hP' : s.heap.get? P' = some (pr (.int d t') (.str x u'))) (hu : A.units + 10 < cLine) (h : Q (.bool false) s) :
    wpAny (model prog w) A (compareOp .NotEq (.ref l) (.ref b)) Q E s := by
  have hu1 : A.in1.units < cLine := by show A.units + _ < _; omega
  have hr := RcNeAt.lists (A := A) (s := s) (e := fun _ => true) hl hb rfl (by omega) (fun j h1 h2 => by
    have e : j = 0 := by simp at h1; omega
    subst e
    exact eq_one hP hP' hu1)
  exact hr prog w E Q (by simpa [List.range_succ] using h)
end
end Mine

end

-- part M8c
section
open PySem PySem.W PySem.Spec PySem.Calls PyProof.Rows SeqAt
set_option maxRecDepth 100000
set_option maxHeartbeats 4000000
namespace Mine

-- the reckoning of the distance: never below 4 where more than one sign is struck
def Ok2 (st : DP) : Prop := (∀ x ∈ st.row, 2 ≤ x) ∧ 2 ≤ st.dist ∧ 2 ≤ st.res
theorem getD_ge {l : List Int} {i : Nat} (h : ∀ x ∈ l, 2 ≤ x) (hi : i < l.length) : 2 ≤ l.getD i 0 := by
  have : l.getD i 0 = l[i] := by simp [List.getD, hi]
  rw [this]
  exact h _ (List.getElem_mem hi)
theorem set_ge {l : List Int} {i : Nat} {y : Int} (h : ∀ x ∈ l, 2 ≤ x) (hy : 2 ≤ y) : ∀ x ∈ l.set i y, 2 ≤ x := fun x hx => by
  rcases List.mem_or_eq_of_mem_set hx with h1 | h1
  · exact h x h1
  · omega
theorem step_res {c : Nat} {a : List Nat} {st : DP} {i : Nat} (h : ∀ x ∈ st.row, 2 ≤ x) (hi : i < st.row.length) (h2 : 2 ≤ st.res ∨ 0 ≤ st.res) (hd : 2 ≤ st.dist ∨ (0 ≤ st.dist ∧ c ≠ a.getD i 0)) : 2 ≤ (dpStep c a st i).res := by
  have hr := getD_ge h hi
  have e : (dpStep c a st i).res = if (st.dist + if c = a.getD i 0 then 0 else 2) < (if st.row.getD i 0 < st.res then st.row.getD i 0 else st.res) + 2 then st.dist + (if c = a.getD i 0 then 0 else 2) else (if st.row.getD i 0 < st.res then st.row.getD i 0 else st.res) + 2 := rfl
  rw [e]
  rcases hd with hd | ⟨hd, hc⟩
  · split <;> split <;> (try split) <;> omega
  · rw [if_neg hc]
    split <;> (try split) <;> omega
theorem step_ok {c : Nat} {a : List Nat} {st : DP} {i : Nat} (h : ∀ x ∈ st.row, 2 ≤ x) (hi : i < st.row.length) (h2 : 0 ≤ st.res) (hd : 2 ≤ st.dist ∨ (0 ≤ st.dist ∧ c ≠ a.getD i 0)) : Ok2 (dpStep c a st i) :=
  have hr := step_res h hi (.inr h2) hd
  ⟨set_ge h hr, getD_ge h hi, hr⟩
theorem step_four {c : Nat} {a : List Nat} {st : DP} {i : Nat} (o : Ok2 st) (hi : i < st.row.length) (hc : c ≠ a.getD i 0) : 4 ≤ (dpStep c a st i).res := by
  have hr := getD_ge o.1 hi
  have h1 := o.2.1
  have h2 := o.2.2
  have e : (dpStep c a st i).res = if (st.dist + if c = a.getD i 0 then 0 else 2) < (if st.row.getD i 0 < st.res then st.row.getD i 0 else st.res) + 2 then st.dist + (if c = a.getD i 0 then 0 else 2) else (if st.row.getD i 0 < st.res then st.row.getD i 0 else st.res) + 2 := rfl
  rw [e, if_neg hc]
  split <;> (try split) <;> omega
theorem dpAt_ok {c : Nat} {a : List Nat} {row : List Int} {d : Int} (h : ∀ x ∈ row, 2 ≤ x) (h0 : 0 ≤ d) : ∀ j, j ≤ row.length → (2 ≤ d ∨ (1 ≤ j ∧ c ≠ a.getD 0 0)) → Ok2 (dpAt c a row d j)
  | 0, _, hd => by
    have : 2 ≤ d := by omega
    exact ⟨h, this, this⟩
  | j + 1, hj, hd => by
    rw [dpAt_succ]
    by_cases hd2 : 2 ≤ d
    · have o := dpAt_ok (c := c) (a := a) h h0 j (by omega) (.inl hd2)
      exact step_ok o.1 (by rw [dpAt_len]; omega) (by have := o.2.2; omega) (.inl o.2.1)
    · have hc : c ≠ a.getD 0 0 := by rcases hd with hd | hd; exact absurd hd hd2; exact hd.2
      cases j with
      | zero => exact step_ok (st := ⟨row, d, d, _⟩) h (by show 0 < row.length; omega) h0 (.inr ⟨h0, hc⟩)
      | succ j =>
        have o := dpAt_ok (c := c) (a := a) h h0 (j + 1) (by omega) (.inr ⟨by omega, hc⟩)
        exact step_ok o.1 (by rw [dpAt_len]; omega) (by have := o.2.2; omega) (.inl o.2.1)
theorem dpGo_ge {a : List Nat} (ha : 1 ≤ a.length) : ∀ (b : List Nat) (d : Int) (row : List Int) (res : Int), b ≠ [] → (∀ x ∈ row, 2 ≤ x) → row.length = a.length → b.getLastD 0 ≠ a.getD (a.length - 1) 0 → 0 ≤ d →
    (2 ≤ d ∨ (b.getD 0 0 ≠ a.getD 0 0 ∧ ¬ (a.length = 1 ∧ b.length = 1))) → 4 ≤ dpGo a b d row res
  | [], _, _, _, hb, _, _, _, _, _ => absurd rfl hb
  | [c], d, row, res, _, hr, hl, hlast, h0, hd => by
    show 4 ≤ (if 5 < (dpAt c a row d a.length).mn then (6 : Int) else (dpAt c a row d a.length).res)
    split
    · omega
    · obtain ⟨j, hj⟩ : ∃ j, a.length = j + 1 := ⟨a.length - 1, by omega⟩
      rw [hj, dpAt_succ]
      have o : Ok2 (dpAt c a row d j) := dpAt_ok hr h0 j (by omega) (by
        rcases hd with hd | ⟨hd, hn⟩
        · exact .inl hd
        · refine .inr ⟨?_, hd⟩
          have hn' : ¬ a.length = 1 := fun e => hn ⟨e, rfl⟩
          omega)
      refine step_four o (by rw [dpAt_len]; omega) ?_
      have e : a.length - 1 = j := by omega
      rw [e] at hlast
      exact hlast
  | c :: c2 :: bs, d, row, res, _, hr, hl, hlast, h0, hd => by
    show 4 ≤ (if 5 < (dpAt c a row d a.length).mn then (6 : Int) else dpGo a (c2 :: bs) (d + 2) (dpAt c a row d a.length).row (dpAt c a row d a.length).res)
    split
    · omega
    · have o : Ok2 (dpAt c a row d a.length) := dpAt_ok hr h0 a.length (by omega) (by
        rcases hd with hd | ⟨hd, hn⟩
        · exact .inl hd
        · exact .inr ⟨ha, hd⟩)
      exact dpGo_ge ha (c2 :: bs) (d + 2) _ _ (by simp) o.1 (by rw [dpAt_len]; exact hl) (by simpa using hlast) (by omega) (.inl (by omega))
theorem row0_ge (n : Nat) : ∀ x ∈ row0 n, 2 ≤ x := fun x hx => by
  obtain ⟨i, _, rfl⟩ := List.mem_map.mp hx
  omega
theorem levD_ge {a b : List Nat} (ha : a ≠ []) (hb : b ≠ []) (h0 : b.getD 0 0 ≠ a.getD 0 0) (h1 : b.getLastD 0 ≠ a.getLastD 0) (hn : ¬ (a.length = 1 ∧ b.length = 1)) : 4 ≤ levD a b := by
  unfold levD
  split
  · omega
  · have hal : 1 ≤ a.length := by cases a with
      | nil => exact absurd rfl ha
      | cons _ _ => simp
    refine dpGo_ge hal b 0 _ 0 hb (row0_ge _) (by simp [row0]) ?_ (Int.le_refl 0) (.inr ⟨h0, hn⟩)
    have e : a.getD (a.length - 1) 0 = a.getLastD 0 := by
      cases a with
      | nil => exact absurd rfl ha
      | cons x xs => simp [List.getD, List.getLastD_eq_getLast?, List.getLast?_eq_getElem?]
    rw [e]
    exact h1

theorem sp_spec : ∀ a b : List Nat, ∃ pre, a = pre ++ (sp a b).1 ∧ b = pre ++ (sp a b).2 ∧ ((sp a b).1 = [] ∨ (sp a b).2 = [] ∨ (sp a b).1.getD 0 0 ≠ (sp a b).2.getD 0 0)
  | [], b => ⟨[], by rw [sp_nil_l]; rfl, by rw [sp_nil_l]; rfl, .inl (by rw [sp_nil_l])⟩
  | x :: xs, [] => ⟨[], by rw [sp_nil_r]; rfl, by rw [sp_nil_r]; rfl, .inr (.inl (by rw [sp_nil_r]))⟩
  | x :: xs, y :: ys => by
    by_cases e : x = y
    · subst e
      obtain ⟨pre, h1, h2, h3⟩ := sp_spec xs ys
      have es : sp (x :: xs) (x :: ys) = sp xs ys := by simp [sp]
      rw [es]
      exact ⟨x :: pre, by rw [List.cons_append, ← h1], by rw [List.cons_append, ← h2], h3⟩
    · have es : sp (x :: xs) (y :: ys) = (x :: xs, y :: ys) := by simp [sp, e]
      rw [es]
      exact ⟨[], rfl, rfl, .inr (.inr (by simpa using e))⟩

/-- below 4 only where one sign is put in, taken out or turned over, or none -/
theorem lev_cases (l r : List Nat) : 4 ≤ lev l r ∨ ∃ pre suf A B, l = pre ++ A ++ suf ∧ r = pre ++ B ++ suf ∧ ((A = [] ∧ B = []) ∨ (∃ x, A = [x] ∧ B = []) ∨ (∃ y, A = [] ∧ B = [y]) ∨ ∃ x y, A = [x] ∧ B = [y] ∧ x ≠ y) := by
  by_cases e : l = r
  · exact .inr ⟨l, [], [], [], by simp, by simp [e], .inl ⟨rfl, rfl⟩⟩
  obtain ⟨pre, h1, h2, h3⟩ := sp_spec l r
  unfold lev
  rw [if_neg e]
  generalize (sp l r).1 = p at *
  generalize (sp l r).2 = q at *
  obtain ⟨suf, g1, g2, g3⟩ := sp_spec p.reverse q.reverse
  generalize (sp p.reverse q.reverse).1 = p' at *
  generalize (sp p.reverse q.reverse).2 = q' at *
  have hp : p = p'.reverse ++ suf.reverse := by rw [← List.reverse_append, ← g1, List.reverse_reverse]
  have hq : q = q'.reverse ++ suf.reverse := by rw [← List.reverse_append, ← g2, List.reverse_reverse]
  have hA : ∀ z : List Nat, z.reverse.getLastD 0 = z.getD 0 0 := fun z => by
    cases z with
    | nil => rfl
    | cons x xs => simp
  have g3' : p'.reverse = [] ∨ q'.reverse = [] ∨ p'.reverse.getLastD 0 ≠ q'.reverse.getLastD 0 := by
    rw [hA, hA]
    rcases g3 with g | g | g
    · exact .inl (by rw [g]; rfl)
    · exact .inr (.inl (by rw [g]; rfl))
    · exact .inr (.inr g)
  generalize p'.reverse = A at *
  generalize q'.reverse = B at *
  generalize suf.reverse = t at *
  have hl : l = pre ++ A ++ t := by rw [h1, hp, List.append_assoc]
  have hr : r = pre ++ B ++ t := by rw [h2, hq, List.append_assoc]
  unfold levC
  by_cases he : A = [] ∨ B = []
  · rw [if_pos he]
    by_cases hs : 2 ≤ A.length + B.length
    · exact .inl (by omega)
    · refine .inr ⟨pre, t, A, B, hl, hr, ?_⟩
      match A, B, hs with
      | [], [], _ => exact .inl ⟨rfl, rfl⟩
      | [x], [], _ => exact .inr (.inl ⟨x, rfl, rfl⟩)
      | [], [y], _ => exact .inr (.inr (.inl ⟨y, rfl, rfl⟩))
      | _ :: _ :: _, _, hs => exact absurd (by simp; omega) hs
      | [_], _ :: _, hs => exact absurd (by simp; omega) hs
      | [], _ :: _ :: _, hs => exact absurd (by simp) hs
  · rw [if_neg he]
    have hA0 : A ≠ [] := fun x => he (.inl x)
    have hB0 : B ≠ [] := fun x => he (.inr x)
    have hlast : A.getLastD 0 ≠ B.getLastD 0 := by
      rcases g3' with g | g | g
      · exact absurd g hA0
      · exact absurd g hB0
      · exact g
    have hhead : A.getD 0 0 ≠ B.getD 0 0 := by
      have ep : p.getD 0 0 = A.getD 0 0 := by
        rw [hp]
        cases A with
        | nil => exact absurd rfl hA0
        | cons x xs => rfl
      have eq : q.getD 0 0 = B.getD 0 0 := by
        rw [hq]
        cases B with
        | nil => exact absurd rfl hB0
        | cons x xs => rfl
      rcases h3 with g | g | g
      · rw [hp] at g; exact absurd (List.append_eq_nil_iff.mp g).1 hA0
      · rw [hq] at g; exact absurd (List.append_eq_nil_iff.mp g).1 hB0
      · rw [ep, eq] at g; exact g
    by_cases h11 : A.length = 1 ∧ B.length = 1
    · refine .inr ⟨pre, t, A, B, hl, hr, .inr (.inr (.inr ?_))⟩
      match A, B, h11, hhead with
      | [x], [y], _, hh => exact ⟨x, y, rfl, rfl, by simpa using hh⟩
    · refine .inl ?_
      split
      · exact levD_ge hB0 hA0 hhead hlast (fun h => h11 ⟨h.2, h.1⟩)
      · exact levD_ge hA0 hB0 (Ne.symm hhead) (Ne.symm hlast) h11
end Mine

end

-- part M8d
section
open PySem PySem.W PySem.Spec PySem.Calls PyProof.Rows SeqAt
set_option maxRecDepth 100000
set_option maxHeartbeats 4000000
namespace Mine

def wordsK (k : Nat) : List (List Nat) := (List.range (2 ^ k)).map fun v => wordL v k
def words (n : Nat) : List (List Nat) := wordsK (n - 1) ++ wordsK n ++ wordsK (n + 1)
theorem words_all {n : Nat} {P : List Nat → Prop} (h1 : ∀ w ∈ wordsK (n - 1), P w) (h2 : ∀ w ∈ wordsK n, P w) (h3 : ∀ w ∈ wordsK (n + 1), P w) : ∀ w ∈ words n, P w := fun w hw => by
  rcases List.mem_append.mp hw with hw | hw
  · rcases List.mem_append.mp hw with hw | hw
    · exact h1 w hw
    · exact h2 w hw
  · exact h3 w hw
theorem code_far4 : ∀ a ∈ List.range 8, ∀ c ∈ codeL 4 a, ∀ c' ∈ codeL 4 a, c' = c ∨ 6 ≤ lev c c' := by decide +kernel
theorem code_far5 : ∀ a ∈ List.range 10, ∀ c ∈ codeL 5 a, ∀ c' ∈ codeL 5 a, c' = c ∨ 6 ≤ lev c c' := by decide +kernel
theorem code_far6a : ∀ a ∈ List.range 6, ∀ c ∈ codeL 6 a, ∀ c' ∈ codeL 6 a, c' = c ∨ 6 ≤ lev c c' := by decide +kernel
theorem code_far6b : ∀ a ∈ List.range 6, ∀ c ∈ codeL 6 (a + 6), ∀ c' ∈ codeL 6 (a + 6), c' = c ∨ 6 ≤ lev c c' := by decide +kernel
theorem code_far {n a : Nat} (h4 : 4 ≤ n) (h6 : n ≤ 6) (ha : a < 2 * n) : ∀ c ∈ codeL n a, ∀ c' ∈ codeL n a, c' = c ∨ 6 ≤ lev c c' := by
  have : n = 4 ∨ n = 5 ∨ n = 6 := by omega
  rcases this with rfl | rfl | rfl
  · exact code_far4 a (List.mem_range.mpr (by omega))
  · exact code_far5 a (List.mem_range.mpr (by omega))
  · by_cases h : a < 6
    · exact code_far6a a (List.mem_range.mpr h)
    · have := code_far6b (a - 6) (List.mem_range.mpr (by omega))
      rw [show a - 6 + 6 = a by omega] at this
      exact this
theorem edits_two4 : ∀ w ∈ words 4, ∀ c ∈ editsL w 4, c = w ∨ lev w c = 2 := by decide +kernel
theorem edits_two5 : ∀ w ∈ words 5, ∀ c ∈ editsL w 5, c = w ∨ lev w c = 2 := by decide +kernel
theorem edits_two6a : ∀ w ∈ wordsK 5, ∀ c ∈ editsL w 6, c = w ∨ lev w c = 2 := by decide +kernel
theorem edits_two6b : ∀ w ∈ wordsK 6, ∀ c ∈ editsL w 6, c = w ∨ lev w c = 2 := by decide +kernel
theorem edits_two6c : ∀ w ∈ wordsK 7, ∀ c ∈ editsL w 6, c = w ∨ lev w c = 2 := by decide +kernel
theorem edits_two6 : ∀ w ∈ words 6, ∀ c ∈ editsL w 6, c = w ∨ lev w c = 2 := words_all edits_two6a edits_two6b edits_two6c
theorem edits_two {n : Nat} (h4 : 4 ≤ n) (h6 : n ≤ 6) : ∀ w ∈ words n, ∀ c ∈ editsL w n, c = w ∨ lev w c = 2 := by
  have : n = 4 ∨ n = 5 ∨ n = 6 := by omega
  rcases this with rfl | rfl | rfl
  · exact edits_two4
  · exact edits_two5
  · exact edits_two6
def chkW (n : Nat) (c : List Nat) : Nat := (((List.range n).filter fun k => c.getD k 0 == 49).map (· + 1)).sum % (2 * n)
theorem vt4 : ∀ w ∈ words 4, (editsL w 4).Pairwise fun c c' => chkW 4 c ≠ chkW 4 c' ∨ c = c' := by decide +kernel
theorem vt5 : ∀ w ∈ words 5, (editsL w 5).Pairwise fun c c' => chkW 5 c ≠ chkW 5 c' ∨ c = c' := by decide +kernel
theorem vt6a : ∀ w ∈ wordsK 5, (editsL w 6).Pairwise fun c c' => chkW 6 c ≠ chkW 6 c' ∨ c = c' := by decide +kernel
theorem vt6b : ∀ w ∈ wordsK 6, (editsL w 6).Pairwise fun c c' => chkW 6 c ≠ chkW 6 c' ∨ c = c' := by decide +kernel
theorem vt6c : ∀ w ∈ wordsK 7, (editsL w 6).Pairwise fun c c' => chkW 6 c ≠ chkW 6 c' ∨ c = c' := by decide +kernel
theorem vt6 : ∀ w ∈ words 6, (editsL w 6).Pairwise fun c c' => chkW 6 c ≠ chkW 6 c' ∨ c = c' := words_all vt6a vt6b vt6c
theorem pw_all {α : Type} {R : α → α → Prop} (hs : ∀ a b, R a b → R b a) (hr : ∀ a, R a a) : ∀ l : List α, l.Pairwise R → ∀ a ∈ l, ∀ b ∈ l, R a b
  | [], _, _, ha, _, _ => nomatch ha
  | x :: xs, h, a, ha, b, hb => by
    obtain ⟨h1, h2⟩ := List.pairwise_cons.mp h
    rcases List.mem_cons.mp ha with ea | ha'
    · rcases List.mem_cons.mp hb with eb | hb'
      · rw [ea, eb]; exact hr _
      · rw [ea]; exact h1 b hb'
    · rcases List.mem_cons.mp hb with eb | hb'
      · rw [eb]; exact hs _ _ (h1 a ha')
      · exact pw_all hs hr xs h2 a ha' b hb'
theorem vt {n : Nat} (h4 : 4 ≤ n) (h6 : n ≤ 6) {w c c' : List Nat} (hw : w ∈ words n) (hc : c ∈ editsL w n) (hc' : c' ∈ editsL w n) (e : chkW n c = chkW n c') : c = c' := by
  have hp : (editsL w n).Pairwise fun c c' => chkW n c ≠ chkW n c' ∨ c = c' := by
    have : n = 4 ∨ n = 5 ∨ n = 6 := by omega
    rcases this with rfl | rfl | rfl
    · exact vt4 w hw
    · exact vt5 w hw
    · exact vt6 w hw
  rcases pw_all (fun a b h => h.elim (fun h => .inl (Ne.symm h)) fun h => .inr h.symm) (fun a => .inr rfl) _ hp c hc c' hc' with h | h
  · exact absurd e h
  · exact h
theorem chk_word (n v : Nat) : chkW n (wordL v n) = chk n v := by
  unfold chkW chk ones
  congr 3
  refine List.filter_congr fun k hk => ?_
  have hk' := List.mem_range.mp hk
  have h : (wordL v n).getD k 0 = 48 + v / 2 ^ k % 2 := by simp [wordL, hk']
  rw [h]
  unfold bitB
  rcases Nat.mod_two_eq_zero_or_one (v / 2 ^ k) with h | h <;> rw [h] <;> rfl
theorem wordL_mod (v k : Nat) : wordL v k = wordL (v % 2 ^ k) k := by
  unfold wordL
  refine List.map_congr_left fun q hq => ?_
  have hq' := List.mem_range.mp hq
  have e : v / 2 ^ q % 2 = v % 2 ^ k / 2 ^ q % 2 := by
    rw [← Nat.toNat_testBit, ← Nat.toNat_testBit, Nat.testBit_mod_two_pow]
    simp [hq']
  rw [e]

/-- a received word -/
def Recd (n : Nat) (wd : List Nat) : Prop := ∃ v k, v < 128 ∧ n ≤ k + 1 ∧ k ≤ n + 1 ∧ wd = wordL v k
theorem Recd.len {n : Nat} {wd : List Nat} (h : Recd n wd) : wd.length = n - 1 ∨ wd.length = n ∨ wd.length = n + 1 := by
  obtain ⟨v, k, hv, h1, h2, rfl⟩ := h
  rw [wordL_len]
  omega
theorem bits_word (v k : Nat) : Bits (wordL v k) := fun c hc => by
  obtain ⟨q, _, rfl⟩ := List.mem_map.mp hc
  have := Nat.mod_two_eq_zero_or_one (v / 2 ^ q)
  omega
theorem Recd.bits {n : Nat} {wd : List Nat} (h : Recd n wd) : Bits wd := by
  obtain ⟨v, k, hv, h1, h2, rfl⟩ := h
  exact bits_word v k
theorem Recd.word {n : Nat} {wd : List Nat} (h4 : 4 ≤ n) (h : Recd n wd) : wd ∈ words n := by
  obtain ⟨v, k, hv, h1, h2, rfl⟩ := h
  rw [wordL_mod]
  have hm : v % 2 ^ k < 2 ^ k := Nat.mod_lt _ (Nat.two_pow_pos k)
  have hk : k = n - 1 ∨ k = n ∨ k = n + 1 := by omega
  unfold words wordsK
  rcases hk with rfl | rfl | rfl
  · exact List.mem_append_left _ (List.mem_append_left _ (List.mem_map.mpr ⟨_, List.mem_range.mpr hm, rfl⟩))
  · exact List.mem_append_left _ (List.mem_append_right _ (List.mem_map.mpr ⟨_, List.mem_range.mpr hm, rfl⟩))
  · exact List.mem_append_right _ (List.mem_map.mpr ⟨_, List.mem_range.mpr hm, rfl⟩)

theorem code_memL {n a : Nat} {cw : List Nat} (hm : cw ∈ codeL n a) : ∃ v, v < 2 ^ n ∧ chk n v = a ∧ cw = wordL v n := by
  unfold codeL codeTo at hm
  obtain ⟨v, hv, rfl⟩ := List.mem_map.mp hm
  have h2 := List.mem_filter.mp hv
  exact ⟨v, List.mem_range.mp h2.1, by simpa using h2.2, rfl⟩
theorem near {n : Nat} {wd c : List Nat} (hl : wd.length = n - 1 ∨ wd.length = n ∨ wd.length = n + 1) (bw : Bits wd) (bc : Bits c) (hc : c.length = n) (h4 : 4 ≤ n) (h : lev wd c < 4) : c ∈ editsL wd n := by
  rcases lev_cases wd c with g | ⟨pre, suf, A, B, h1, h2, g⟩
  · omega
  unfold editsL
  rcases g with ⟨rfl, rfl⟩ | ⟨x, rfl, rfl⟩ | ⟨y, rfl, rfl⟩ | ⟨x, y, rfl, rfl, hxy⟩
  · have e : c = wd := by rw [h1, h2]
    rw [if_neg (by rw [← e]; omega), if_neg (by rw [← e]; omega), e]
    exact List.Mem.head _
  · have l1 : wd.length = pre.length + 1 + suf.length := by rw [h1]; simp; omega
    have l2 : c.length = pre.length + suf.length := by rw [h2]; simp
    rw [if_neg (by omega), if_pos (by omega)]
    refine List.mem_map.mpr ⟨pre.length, List.mem_range.mpr (by omega), ?_⟩
    unfold delAt
    rw [h1, h2]
    simp
  · have l1 : wd.length = pre.length + suf.length := by rw [h1]; simp
    have l2 : c.length = pre.length + 1 + suf.length := by rw [h2]; simp; omega
    rw [if_pos (by omega)]
    unfold insTo
    refine List.mem_flatMap.mpr ⟨pre.length, List.mem_range.mpr (by omega), ?_⟩
    have hy := bc y (by rw [h2]; simp)
    unfold insAt
    rw [h1, h2]
    rcases hy with rfl | rfl <;> simp
  · have l1 : wd.length = pre.length + 1 + suf.length := by rw [h1]; simp; omega
    have l2 : c.length = pre.length + 1 + suf.length := by rw [h2]; simp; omega
    rw [if_neg (by omega), if_neg (by omega)]
    refine List.Mem.tail _ (List.mem_map.mpr ⟨pre.length, List.mem_range.mpr (by omega), ?_⟩)
    have hx := bw x (by rw [h1]; simp)
    have hy := bc y (by rw [h2]; simp)
    have e : wd.getD pre.length 0 = x := by rw [h1]; simp
    unfold turnAt
    rw [e]
    rw [h1, h2]
    rcases hx with rfl | rfl <;> rcases hy with rfl | rfl
    · exact absurd rfl hxy
    · simp
    · simp
    · exact absurd rfl hxy

theorem code_nodup : ∀ n ∈ [4, 5, 6], ∀ a ∈ List.range (2 * n), (codeL n a).Nodup := by decide +kernel
theorem code_nd {n a : Nat} (h4 : 4 ≤ n) (h6 : n ≤ 6) (ha : a < 2 * n) : (codeL n a).Nodup := by
  refine code_nodup n ?_ a (List.mem_range.mpr ha)
  have : n = 4 ∨ n = 5 ∨ n = 6 := by omega
  rcases this with rfl | rfl | rfl <;> simp
theorem code_ne {n a i j : Nat} {ci cj : List Nat} (h4 : 4 ≤ n) (h6 : n ≤ 6) (ha : a < 2 * n) (hi : (codeL n a)[i]? = some ci) (hj : (codeL n a)[j]? = some cj) (h : i ≠ j) : ci ≠ cj := by
  intro e
  subst e
  obtain ⟨li, ei⟩ := List.getElem?_eq_some_iff.mp hi
  obtain ⟨lj, ej⟩ := List.getElem?_eq_some_iff.mp hj
  have hp := List.pairwise_iff_getElem.mp (code_nd h4 h6 ha)
  rcases Nat.lt_or_gt_of_ne h with g | g
  · exact hp i j li lj g (ei.trans ej.symm)
  · exact hp j i lj li g (ej.trans ei.symm)
theorem one_of_same {α : Type} : ∀ {l : List α}, l.Nodup → (∀ a ∈ l, ∀ b ∈ l, a = b) → l = [] ∨ ∃ c, l = [c]
  | [], _, _ => .inl rfl
  | [c], _, _ => .inr ⟨c, rfl⟩
  | a :: b :: r, hn, h => by
    have e : a = b := h a (.head _) b (.tail _ (.head _))
    have := (List.nodup_cons.mp hn).1
    exact absurd (by rw [e]; exact List.Mem.head _) this
theorem plain {n a : Nat} {wd : List Nat} (h4 : 4 ≤ n) (h6 : n ≤ 6) (ha : a < 2 * n) (hw : Recd n wd) :
    (((codeL n a).filter fun c => decide (c ∈ editsL wd n)) = [] ∧ ∀ c ∈ codeL n a, 4 ≤ lev wd c) ∨
    ∃ c, ((codeL n a).filter fun c => decide (c ∈ editsL wd n)) = [c] ∧ lev wd c = (if c = wd then 0 else 2) ∧ (∀ c' ∈ codeL n a, lev wd c' < 4 → c' = c) ∧ (∀ c' ∈ codeL n a, c' ≠ c → 4 ≤ lev wd c') ∧ (c = wd → ∀ c' ∈ codeL n a, c' ≠ c → 6 ≤ lev wd c') := by
  have hwd := hw.word h4
  have hnear : ∀ c ∈ codeL n a, lev wd c < 4 → c ∈ (codeL n a).filter fun c => decide (c ∈ editsL wd n) := fun c hc hl => by
    obtain ⟨v, _, _, rfl⟩ := code_memL hc
    exact List.mem_filter.mpr ⟨hc, by simpa using near hw.len hw.bits (bits_word v n) (wordL_len v n) h4 hl⟩
  have hsame : ∀ c ∈ ((codeL n a).filter fun c => decide (c ∈ editsL wd n)), ∀ c' ∈ ((codeL n a).filter fun c => decide (c ∈ editsL wd n)), c = c' := fun c hc c' hc' => by
    obtain ⟨m1, e1⟩ := List.mem_filter.mp hc
    obtain ⟨m2, e2⟩ := List.mem_filter.mp hc'
    refine vt h4 h6 hwd (by simpa using e1) (by simpa using e2) ?_
    obtain ⟨v, _, k1, rfl⟩ := code_memL m1
    obtain ⟨v', _, k2, rfl⟩ := code_memL m2
    rw [chk_word, chk_word, k1, k2]
  rcases one_of_same ((code_nd h4 h6 ha).filter _) hsame with e | ⟨c, e⟩
  · refine .inl ⟨e, fun c hc => ?_⟩
    by_cases h : lev wd c < 4
    · have := hnear c hc h
      rw [e] at this
      cases this
    · omega
  · have hcF : c ∈ (codeL n a).filter fun c => decide (c ∈ editsL wd n) := by rw [e]; exact List.Mem.head _
    obtain ⟨mc, ec⟩ := List.mem_filter.mp hcF
    have only : ∀ c' ∈ codeL n a, lev wd c' < 4 → c' = c := fun c' hc' h => hsame c' (hnear c' hc' h) c hcF
    refine .inr ⟨c, e, ?_, only, fun c' hc' hne => ?_, fun ew c' hc' hne => ?_⟩
    · by_cases q : c = wd
      · rw [if_pos q, q]
        unfold lev
        rw [if_pos rfl]
      · rw [if_neg q]
        rcases edits_two h4 h6 wd hwd c (by simpa using ec) with h | h
        · exact absurd h q
        · exact h
    · by_cases h : lev wd c' < 4
      · exact absurd (only c' hc' h) hne
      · omega
    · rcases code_far h4 h6 ha c mc c' hc' with h | h
      · exact absurd h hne
      · rw [← ew]; exact h
end Mine

end

-- part M9
section
open PySem PySem.W PySem.Spec PySem.Calls PyProof.Rows SeqAt
set_option maxRecDepth 100000
set_option maxHeartbeats 40000000
namespace Mine
local macro_rules | `(tactic| k_all) => `(tactic| k_extra "M9_1")
theorem three_ints {xs : List Value} {ns : List Int} (h : IntsAre xs ns) (hl : 3 ≤ ns.length) : ∃ x0 x1 x2 t0 t1 t2, xs.take 3 = [.int x0 t0, .int x1 t1, .int x2 t2] := by
  cases h with
  | nil => simp at hl
  | cons x0 t0 h => cases h with
    | nil => simp at hl
    | cons x1 t1 h => cases h with
      | nil => simp at hl
      | cons x2 t2 h => exact ⟨x0, x1, x2, t0, t1, t2, rfl⟩
theorem News.sub {h₀ h : Heap} {L : Addr} {news all : List (Addr × Obj)} (N : News h₀ L h all) (hs : ∀ p ∈ news, p ∈ all) : News h₀ L h news := fun p hp => N p (hs p hp)
theorem Fr.ns_some {h₀ h : Heap} {L D : Addr} {m : Str → Option Value} (F : Fr h₀ L h m) (q : D = L) (hD : h.get? D = none) : False := by
  subst q
  obtain ⟨es, hes, _⟩ := F.ns
  simp_all
theorem ne_new {h₀ h : Heap} {L D a : Addr} {o : Obj} {news : List (Addr × Obj)} (N : News h₀ L h news) (hm : (a, o) ∈ news) (hD : h.get? D = none) : @Ne Nat a D := fun q => by
  have e := (N _ hm).1
  rw [show a = D from q, hD] at e
  cases e
theorem News.cons_new {h₀ h h' : Heap} {L D : Addr} {m : Str → Option Value} {o : Obj} {news : List (Addr × Obj)} (F : Fr h₀ L h m) (N : News h₀ L h' news) (hk : Kept h h') (hD : h.get? D = none) (hD' : h'.get? D = some o) : News h₀ L h' ((D, o) :: news) := fun p hp => by
  have _ := hk
  rcases List.mem_cons.mp hp with rfl | hp
  · refine ⟨hD', fun q => ?_, fresh_of F.keep hD⟩
    exact Mine.Fr.ns_some F q hD
  · exact N p hp
theorem two_ints {x1 x2 : Int} {t1 t2 : Tok} {i : Nat} {v : Value} (h : (#[Value.int x1 t1, Value.int x2 t2] : Array Value)[i]? = some v) : ∃ x t, v = .int x t := by
  match i, h with
  | 0, h => exact ⟨x1, t1, (Option.some.inj h).symm⟩
  | 1, h => exact ⟨x2, t2, (Option.some.inj h).symm⟩
  | i + 2, h => simp at h
theorem v_of (x : Int) : ∃ v : Nat, (x.fmod 384).fdiv 3 = (v : Int) ∧ v < 128 := by
  rw [Int.fmod_eq_emod_of_nonneg _ (by decide), Int.fdiv_eq_ediv_of_nonneg _ (by decide)]
  exact ⟨(x % 384 / 3).toNat, by omega, by omega⟩
theorem k_of (x : Int) (n : Nat) (h4 : 4 ≤ n) : ∃ k : Nat, (n : Int) - 1 + x.fmod 3 = (k : Int) ∧ n ≤ k + 1 ∧ k ≤ n + 1 := by
  rw [Int.fmod_eq_emod_of_nonneg _ (by decide)]
  exact ⟨((n : Int) - 1 + x % 3).toNat, by omega, by omega, by omega⟩
theorem n_of (x : Int) : ∃ n : Nat, 4 + x.fmod 3 = (n : Int) ∧ 4 ≤ n ∧ n ≤ 6 := by
  rw [Int.fmod_eq_emod_of_nonneg _ (by decide)]
  exact ⟨(4 + x % 3).toNat, by omega, by omega, by omega⟩
theorem a_of (x : Int) (n : Nat) (h4 : 4 ≤ n) (h6 : n ≤ 6) : ∃ a : Nat, (x.fdiv 3).fmod (2 * (n : Int)) = (a : Int) ∧ a < 2 * n := by
  rw [Int.fmod_eq_emod_of_nonneg _ (by omega)]
  generalize x.fdiv 3 = y
  have h1 := Int.emod_nonneg y (b := 2 * (n : Int)) (by omega)
  have h2 := Int.emod_lt_of_pos y (b := 2 * (n : Int)) (by omega)
  exact ⟨(y % (2 * (n : Int))).toNat, by omega, by omega⟩
theorem strs_at {vs : List Value} {ss : List Str} (h : StrsAre vs ss) : ∀ {i : Nat} {v : Value}, vs[i]? = some v → ∃ x t, ss[i]? = some x ∧ v = .str x t := by
  induction h with
  | nil => intro i v h; simp at h
  | cons x t h ih =>
    intro i v hi
    cases i with
    | zero => simp at hi; exact ⟨x, t, by simp, hi.symm⟩
    | succ i => simp at hi; obtain ⟨y, u, h1, h2⟩ := ih hi; exact ⟨y, u, by simpa using h1, h2⟩
theorem code_at {cs : List Value} {l : List (List Nat)} (h : StrsAre cs (l.map S)) {i : Nat} {v : Value} (hv : cs.toArray[i]? = some v) : ∃ cw t, l[i]? = some cw ∧ v = .str (S cw) t := by
  obtain ⟨x, t, h1, h2⟩ := strs_at h (by simpa using hv)
  rw [List.getElem?_map] at h1
  cases e : l[i]? with
  | none => rw [e] at h1; cases h1
  | some cw => rw [e] at h1; cases h1; exact ⟨cw, t, rfl, h2⟩
theorem code_mem {n a i : Nat} {cw : List Nat} (h : (codeL n a)[i]? = some cw) : ∃ v, v < 2 ^ n ∧ chk n v = a ∧ cw = wordL v n := by
  have hm := List.mem_of_getElem? h
  unfold codeL codeTo at hm
  obtain ⟨v, hv, rfl⟩ := List.mem_map.mp hm
  have h2 := List.mem_filter.mp hv
  exact ⟨v, List.mem_range.mp h2.1, by simpa using h2.2, rfl⟩
theorem code_len {n a i : Nat} {cw : List Nat} (h : (codeL n a)[i]? = some cw) : cw.length = n := by
  obtain ⟨v, _, _, rfl⟩ := code_mem h
  exact wordL_len v n
theorem code_bits {n a i : Nat} {cw : List Nat} (h : (codeL n a)[i]? = some cw) : Bits cw := by
  obtain ⟨v, _, _, rfl⟩ := code_mem h
  exact bits_word v n
theorem code_size : ∀ n ∈ [4, 5, 6], ∀ a ∈ List.range (2 * n), 2 ≤ (codeL n a).length ∧ (codeL n a).length ≤ 6 := by decide +kernel
theorem code_two {n a : Nat} (h4 : 4 ≤ n) (h6 : n ≤ 6) (ha : a < 2 * n) : 2 ≤ (codeL n a).length ∧ (codeL n a).length ≤ 6 := by
  refine code_size n ?_ a (List.mem_range.mpr ha)
  have : n = 4 ∨ n = 5 ∨ n = 6 := by omega
  rcases this with rfl | rfl | rfl <;> simp
theorem code_le6 {n a : Nat} {cs : List Value} (h4 : 4 ≤ n) (h6 : n ≤ 6) (ha : a < 2 * n) (hcs : StrsAre cs ((codeL n a).map S)) : cs.length ≤ 6 := by
  rw [hcs.length, List.length_map]
  exact (code_two h4 h6 ha).2
theorem Tups.snoc' {tn : List (Addr × Obj)} {ps : List (Int × List Nat)} {ys : List Value} {d d' : Int} {c : List Nat} {T : Addr} {t u : Tok} (h : Tups tn ps ys) (e : d = d') (hm : (T, pr (.int d' t) (.str (S c) u)) ∈ tn) : Tups tn (ps ++ [(d, c)]) (ys ++ [.ref T]) := by
  subst e
  exact .snoc h hm
theorem code_q {l : List (List Nat)} {wd : List Nat} {q : Nat} (hq : q < l.length) : ∃ c, l[q]? = some c ∧ (l.map fun c => (lev wd c, c))[q]? = some (lev wd c, c) ∧ lev wd (l.getD q []) = lev wd c := by
  refine ⟨l[q], by simp [hq], by simp [hq], by simp [List.getD, hq]⟩
theorem mem7 {α : Type} {a1 a2 a3 a4 a5 a6 a7 p : α} {tn : List α} (h : p ∈ tn) : p ∈ a1 :: a2 :: a3 :: a4 :: a5 :: a6 :: a7 :: tn :=
  .tail _ (.tail _ (.tail _ (.tail _ (.tail _ (.tail _ (.tail _ h))))))
theorem mem_dc {α : Type} {a1 a2 a3 a4 a5 a6 p : α} {tn : List α} : p ∈ a1 :: a2 :: a3 :: a4 :: a5 :: a6 :: p :: tn :=
  .tail _ (.tail _ (.tail _ (.tail _ (.tail _ (.tail _ (.head _))))))
theorem sub_one {α : Type} {d x : α} {pre tn : List α} (hx : x ∈ tn) : ∀ p ∈ d :: x :: pre, p ∈ d :: (pre ++ tn) := by
  intro p hp
  simp only [List.mem_cons, List.mem_append] at hp ⊢
  rcases hp with rfl | rfl | h
  · simp
  · simp [hx]
  · simp [h]
theorem sub10 {α : Type} {x i c d e1 e2 e3 e4 e5 e6 p : α} {tn : List α} (h : p ∈ i :: c :: d :: e1 :: e2 :: e3 :: e4 :: e5 :: e6 :: x :: tn) : p ∈ x :: i :: c :: d :: e1 :: e2 :: e3 :: e4 :: e5 :: e6 :: tn := by
  simp only [List.mem_cons] at h ⊢
  rcases h with h | h | h | h | h | h | h | h | h | h | h <;> simp [h]
theorem sub_pick {α : Type} {d d3 x y e1 e2 e3 e4 e5 e6 : α} {tn : List α} (hx : x ∈ tn) (hy : y ∈ tn) : ∀ p ∈ [d, x, y, e1, e2, e3, e4, e5, e6], p ∈ d :: d3 :: e1 :: e2 :: e3 :: e4 :: e5 :: e6 :: tn := by
  intro p hp
  simp only [List.mem_cons, List.not_mem_nil, or_false] at hp ⊢
  rcases hp with rfl | rfl | rfl | h | h | h | h | h | h
  · simp
  · simp [hx]
  · simp [hy]
  all_goals simp [h]
theorem off_of {I C D : Addr} : ∀ {l : List (Addr × Obj)}, (∀ p ∈ l, (@Ne Nat p.1 I) ∧ (@Ne Nat p.1 C) ∧ (@Ne Nat p.1 D)) → LCg.Off3 I C D l
  | [], _ => trivial
  | p :: r, h => ⟨h p (.head _), off_of fun q hq => h q (.tail _ hq)⟩
theorem off_ins {I C D T : Addr} {o : Obj} {e1 e2 e3 e4 e5 e6 : Addr × Obj} {tn : List (Addr × Obj)} (h : LCg.Off3 I C D (e1 :: e2 :: e3 :: e4 :: e5 :: e6 :: tn)) (h1 : @Ne Nat T I) (h2 : @Ne Nat T C) (h3 : @Ne Nat T D) : LCg.Off3 I C D (e1 :: e2 :: e3 :: e4 :: e5 :: e6 :: (T, o) :: tn) := by
  refine off_of fun p hp => ?_
  by_cases e : p = (T, o)
  · rw [e]; exact ⟨h1, h2, h3⟩
  · refine h.mem p ?_
    simp only [List.mem_cons] at hp ⊢
    rcases hp with h | h | h | h | h | h | h | h
    · simp [h]
    · simp [h]
    · simp [h]
    · simp [h]
    · simp [h]
    · simp [h]
    · exact absurd h e
    · simp [h]
theorem subL {α : Type} {x i c d p : α} {pre tn : List α} (h : p ∈ i :: c :: d :: (pre ++ x :: tn)) : p ∈ x :: i :: c :: d :: (pre ++ tn) := by
  simp only [List.mem_cons, List.mem_append] at h ⊢
  rcases h with h | h | h | h | h | h
  · simp [h]
  · simp [h]
  · simp [h]
  · simp [h]
  · simp [h]
  · simp [h]
theorem off_insL {I C D T : Addr} {o : Obj} {pre tn : List (Addr × Obj)} (h : LCg.Off3 I C D (pre ++ tn)) (h1 : @Ne Nat T I) (h2 : @Ne Nat T C) (h3 : @Ne Nat T D) : LCg.Off3 I C D (pre ++ (T, o) :: tn) := by
  refine off_of fun p hp => ?_
  by_cases e : p = (T, o)
  · rw [e]; exact ⟨h1, h2, h3⟩
  · refine h.mem p ?_
    simp only [List.mem_cons, List.mem_append] at hp ⊢
    rcases hp with h | h | h
    · exact .inl h
    · exact absurd h e
    · exact .inr h
theorem any_S {l : List (List Nat)} {c : List Nat} {b : Bool} (h : ((l.map S).any fun x => x == S c) = b) : decide (c ∈ l) = b := by
  rw [← h]
  by_cases e : c ∈ l
  · rw [decide_eq_true e]
    symm
    rw [List.any_eq_true]
    exact ⟨S c, List.mem_map.mpr ⟨c, e, rfl⟩, by simp⟩
  · rw [decide_eq_false e]
    symm
    rw [List.any_eq_false]
    intro x hx
    obtain ⟨y, hy, rfl⟩ := List.mem_map.mp hx
    intro q
    have : y = c := S_inj.mp (by simpa using q)
    exact e (this ▸ hy)
theorem filter_hit {l ed : List (List Nat)} {i : Nat} {cw : List Nat} (h : l[i]? = some cw) (hany : ((ed.map S).any fun x => x == S cw) = true) : ((l.take (i + 1)).filter fun c => decide (c ∈ ed)) = ((l.take i).filter fun c => decide (c ∈ ed)) ++ [cw] := by
  rw [List.take_add_one, h, List.filter_append]
  have := any_S hany
  simp at this
  simp [this]
theorem filter_miss {l ed : List (List Nat)} {i : Nat} {cw : List Nat} (h : l[i]? = some cw) (hany : ((ed.map S).any fun x => x == S cw) = false) : ((l.take (i + 1)).filter fun c => decide (c ∈ ed)) = ((l.take i).filter fun c => decide (c ∈ ed)) := by
  rw [List.take_add_one, h, List.filter_append]
  have := any_S hany
  simp at this
  simp [this]
theorem ite_w0 {cw wd : List Nat} (h : (S cw == S wd) = true) : (if cw = wd then (0 : Int) else 2) = 0 := if_pos (S_inj.mp (by simpa using h))
theorem ite_w2 {cw wd : List Nat} (h : (S cw == S wd) = false) : (if cw = wd then (0 : Int) else 2) = 2 := if_neg fun e => by simp [e] at h
theorem Tups.nil_inv {tn : List (Addr × Obj)} {ys : List Value} (h : Tups tn [] ys) : ys = [] := by
  have := h.length
  exact List.length_eq_zero_iff.mp this
theorem Tups.one_inv {tn : List (Addr × Obj)} {ys : List Value} {d : Int} {c : List Nat} (h : Tups tn [(d, c)] ys) : ∃ T t u, ys = [.ref T] ∧ (T, pr (.int d t) (.str (S c) u)) ∈ tn := by
  obtain ⟨T, t, u, h1, h2⟩ := h.at (i := 0) rfl
  refine ⟨T, t, u, ?_, h2⟩
  have hl := h.length
  match ys, hl, h1 with
  | [y], _, h1 => rw [show y = .ref T from h1]
theorem law_walk : PySem.Challenge.rw_nq0104_01.Holds := by
  refine hd ?_
  k_go0
  (k_with "M9_1" => first | exact List.forall_mem_nil _ | (refine' List.forall_mem_cons.mpr ⟨?a, ?b⟩; (case a => k_ne); (case b => k_all)) | fail "none")
  all_goals try k_fold
  rename_i w s₀ s₁ mg mb G Y fa ob pm doc ho hg KX X9 V9 GL T9 B9 TE TW m1 m2 M9 m3 m4 hcd sc h1 h2 h3 h4 h5 h6 h7 l vs h8 hl ra w1 r0 hI hr hc63 hct K0 hD h₁ tk₁ F9 o2 o1 hc2 hc1 N9 X0
  replace hc1 : o1.data = Data.cell none := hc1
  replace hc2 : o2.data = Data.cell none := hc2
  replace F9 : Fr s₁.heap s₁.heap.objs.size h₁ (ov [((Str.ofString "script"), Value.ref l)] (fun _ => none)) := F9
  dsimp only [ov] at F9
  try clear hD
  try clear hcd
  try clear X0
  try clear r0
  try clear w1
  try clear ra
  dsimp only
  walk1
  k_unmd
  k_fold
  refine exec_P F9 (fun m₁ news₁ => ∃ (D : Addr) (x0 x1 x2 : Int) (t0 t1 t2 : Tok) (c : Nat) (u : Str → Option Value), news₁ = [(D, W.listOf #[.int x0 t0, .int x1 t1, .int x2 t2] c), (s₁.heap.objs.size + 1 + 1, o2), (s₁.heap.objs.size + 1, o1)] ∧ @LT.lt Nat _ (s₁.heap.objs.size + 1 + 1) D ∧
      m₁ = ov [((Str.ofString "numbers"), Value.ref D)] u) ?turn ?cont
  case turn =>
    iterate 26 (first | (k_unfold; (try dsimp only)) | walk1)
    with_reducible rename Fr s₁.heap _ _ _ => F8
    with_reducible rename News s₁.heap _ _ _ => N8
    rename IntsAre _ (_ ++ _) => hI8
    have hs8 := hI8.length
    refine slice_T (s := ⟨_, _, _, _, _⟩) F8 N8 ⟨_, (N8 (_, _) (List.Mem.head _)).1, rfl, _, rfl⟩ IsPart.none (IsPart.int 3 _) (slicePick_upto' _ 3) (by simp at hs8 ⊢; omega) ?_
    clear F8
    intro D9 h9 F10 N10 l9
    k_lt l9
    clear N8
    obtain ⟨x0, x1, x2, t0, t1, t2, e9⟩ := three_ints hI8 (by simp)
    rw [e9] at N10
    dsimp only
    repeat' ((fail_if_success (with_reducible show wpAny _ _ (exec (Stmt.While _ _ _ _) _) _ _ _)); (fail_if_success (with_reducible show wpAny _ _ (pyIter _) _ _ _)); (fail_if_success (with_reducible show wpAny _ _ (eval (Expr.ListComp _ _ _ _) _) _ _ _)); (fail_if_success (with_reducible show wpAny _ _ (exec (Stmt.Assign _ (Expr.ListComp _ _ _ _) _) _) _ _ _)); (fail_if_success (with_reducible show Mine.Ex _ _ _ _ _)); (fail_if_success (with_reducible show WhileStep2 _ _ _ _ _ _ _ _)); (fail_if_success (with_reducible show Mine.Turn _ _ _ _ _ _ _ _ _)); (fail_if_success (with_reducible show LCg.CompSrc _ _ _ _ _ _ _ _ _ _ _ _ _ _)); (fail_if_success (with_reducible show LCt.CompSrcT _ _ _ _ _ _ _ _ _ _ _ _ _ _ _)); (fail_if_success (with_reducible show LCg.CompEnd _ _ _ _ _ _ _ _ _ _ _ _ _ _)); (fail_if_success (with_reducible show Exists _)); (first | (k_unfold; (try dsimp only)) | walk1 | (dsimp only; walk1) | (leave1; walk_say "STEP leave1"; try dsimp only) | fail "no step"))
    with_reducible rename News s₁.heap _ _ _ => N8
    exact Ex.intro (by k_asm) (News.sub N8 (by k_allIn)) ⟨D9, x0, x1, x2, t0, t1, t2, _, _, rfl, by omega, ov_self _ _ ⟨rfl, trivial⟩⟩
  case cont =>
  clear F9 N9
  rintro m₁ news₁ h tk F9 N9 ⟨D, x0, x1, x2, t0, t1, t2, c, u, rfl, lD, rfl⟩
  dsimp only [ov] at F9
  dsimp only
  iterate 12 (first | (k_unfold; (try dsimp only)) | walk1)
  with_reducible rename News s₁.heap _ _ _ => N9
  with_reducible rename Fr s₁.heap _ _ _ => F9
  k_unmd
  k_fold
  refine exec_P F9 (fun m₁ news₁ => ∃ (n : Nat) (hh : Int) (t th : Tok) (u : Str → Option Value), news₁ = [(D, W.listOf #[.int x0 t0, .int x1 t1, .int x2 t2] c), (s₁.heap.objs.size + 1 + 1, o2), (s₁.heap.objs.size + 1, o1)] ∧ 4 ≤ n ∧ n ≤ 6 ∧
      m₁ = ov [((Str.ofString "numbers"), Value.ref D), ((Str.ofString "head"), .int hh th), ((Str.ofString "n"), .int (n : Int) t)] u) ?turn ?cont
  case turn =>
    repeat' ((fail_if_success (with_reducible show wpAny _ _ (exec (Stmt.While _ _ _ _) _) _ _ _)); (fail_if_success (with_reducible show wpAny _ _ (pyIter _) _ _ _)); (fail_if_success (with_reducible show wpAny _ _ (eval (Expr.ListComp _ _ _ _) _) _ _ _)); (fail_if_success (with_reducible show wpAny _ _ (exec (Stmt.Assign _ (Expr.ListComp _ _ _ _) _) _) _ _ _)); (fail_if_success (with_reducible show Mine.Ex _ _ _ _ _)); (fail_if_success (with_reducible show WhileStep2 _ _ _ _ _ _ _ _)); (fail_if_success (with_reducible show Mine.Turn _ _ _ _ _ _ _ _ _)); (fail_if_success (with_reducible show LCg.CompSrc _ _ _ _ _ _ _ _ _ _ _ _ _ _)); (fail_if_success (with_reducible show LCt.CompSrcT _ _ _ _ _ _ _ _ _ _ _ _ _ _ _)); (fail_if_success (with_reducible show LCg.CompEnd _ _ _ _ _ _ _ _ _ _ _ _ _ _)); (fail_if_success (with_reducible show Exists _)); (first | (k_unfold; (try dsimp only)) | walk1 | (dsimp only; walk1) | (leave1; walk_say "STEP leave1"; try dsimp only) | fail "no step"))
    dsimp only
    obtain ⟨n, en, n4, n6⟩ := n_of (([x0, x1, x2].getD (Int.toNat 0) 0).fmod 360)
    with_reducible rename News s₁.heap _ _ _ => N8
    with_reducible rename Fr s₁.heap _ _ _ => F8
    rw [en] at F8
    exact Ex.intro F8 N8 ⟨n, _, _, _, _, rfl, n4, n6, ov_self _ _ ⟨rfl, rfl, rfl, trivial⟩⟩
  case cont =>
  clear F9 N9
  rintro m₁ news₁ h tk F9 N9 ⟨n, hh, t, th, u, rfl, n4, n6, rfl⟩
  dsimp only [ov] at F9
  dsimp only
  walk1
  k_unmd
  k_fold
  refine exec_P F9 (fun m₁ news₁ => ∃ (a : Nat) (Dc : Addr) (cs : List Value) (cc : Nat) (u : Str → Option Value), news₁ = [(Dc, W.listOf cs.toArray cc), (D, W.listOf #[.int x0 t0, .int x1 t1, .int x2 t2] c), (s₁.heap.objs.size + 1 + 1, o2), (s₁.heap.objs.size + 1, o1)] ∧ a < 2 * n ∧ StrsAre cs ((codeL n a).map S) ∧ @Ne Nat D Dc ∧ @Ne Nat (s₁.heap.objs.size + 1) Dc ∧ @Ne Nat (s₁.heap.objs.size + 1 + 1) Dc ∧
      m₁ = ov [((Str.ofString "numbers"), Value.ref D), ((Str.ofString "n"), .int (n : Int) t), ((Str.ofString "code"), .ref Dc)] u) ?turn ?cont
  case turn =>
    repeat' ((fail_if_success (with_reducible show wpAny _ _ (exec (Stmt.While _ _ _ _) _) _ _ _)); (fail_if_success (with_reducible show wpAny _ _ (pyIter _) _ _ _)); (fail_if_success (with_reducible show wpAny _ _ (eval (Expr.ListComp _ _ _ _) _) _ _ _)); (fail_if_success (with_reducible show wpAny _ _ (exec (Stmt.Assign _ (Expr.ListComp _ _ _ _) _) _) _ _ _)); (fail_if_success (with_reducible show Mine.Ex _ _ _ _ _)); (fail_if_success (with_reducible show WhileStep2 _ _ _ _ _ _ _ _)); (fail_if_success (with_reducible show Mine.Turn _ _ _ _ _ _ _ _ _)); (fail_if_success (with_reducible show wpAny _ _ (call (Value.ref 72) _) _ _ _)); (fail_if_success (with_reducible show wpAny _ _ (call (Value.ref 77) _) _ _ _)); (fail_if_success (with_reducible show wpAny _ _ (call (Value.ref 67) _) _ _ _)); (fail_if_success (with_reducible show wpAny _ _ (call (Value.ref 48) _) _ _ _)); (fail_if_success (with_reducible show wpAny _ _ (call (Value.ref 62) _) _ _ _)); (fail_if_success (with_reducible show LCg.CompSrc _ _ _ _ _ _ _ _ _ _ _ _ _ _)); (fail_if_success (with_reducible show LCt.CompSrcT _ _ _ _ _ _ _ _ _ _ _ _ _ _ _)); (fail_if_success (with_reducible show LCg.CompEnd _ _ _ _ _ _ _ _ _ _ _ _ _ _)); (fail_if_success (with_reducible show Exists _)); (first | (k_unfold; (try dsimp only)) | walk1 | (dsimp only; walk1) | (leave1; walk_say "STEP leave1"; try dsimp only) | fail "no step"))
    obtain ⟨a, ea, ha⟩ := a_of hh n n4 n6
    rw [ea]
    with_reducible rename News s₁.heap _ _ _ => N9
    with_reducible rename Fr s₁.heap _ _ _ => F9
    k_dflt (refine' Gives.use (code_gives _ n a _ _ n4 n6 (by omega)) ?k1 F9 ?k3 ?k5 ?kK ?kd ?ku ?kp ?_; (case k1 => exact K0); (case k3 => exact KX); (case k5 => exact T9); (case kK => exact rfl); (case kd => decide); (case ku => decide))
    case kp => trivial
    intro v9 h9 tk9 hR9 hk9
    obtain ⟨Dc, cs, cc, rfl, hD0, hD9, hcs⟩ := hR9
    have F10 := Fr.keeps F9 hk9
    have ne1 := ne_new N9 (List.Mem.head _) hD0
    have ne2 := ne_new N9 (List.Mem.tail _ (List.Mem.head _)) hD0
    have ne3 := ne_new N9 (List.Mem.tail _ (List.Mem.tail _ (List.Mem.head _))) hD0
    have N10 := News.cons_new F9 (News.grown N9 hk9) hk9 hD0 hD9
    clear F9 N9
    dsimp only at F10 N10 ⊢
    repeat' ((fail_if_success (with_reducible show wpAny _ _ (exec (Stmt.While _ _ _ _) _) _ _ _)); (fail_if_success (with_reducible show wpAny _ _ (pyIter _) _ _ _)); (fail_if_success (with_reducible show wpAny _ _ (eval (Expr.ListComp _ _ _ _) _) _ _ _)); (fail_if_success (with_reducible show wpAny _ _ (exec (Stmt.Assign _ (Expr.ListComp _ _ _ _) _) _) _ _ _)); (fail_if_success (with_reducible show Mine.Ex _ _ _ _ _)); (fail_if_success (with_reducible show WhileStep2 _ _ _ _ _ _ _ _)); (fail_if_success (with_reducible show Mine.Turn _ _ _ _ _ _ _ _ _)); (fail_if_success (with_reducible show LCg.CompSrc _ _ _ _ _ _ _ _ _ _ _ _ _ _)); (fail_if_success (with_reducible show LCt.CompSrcT _ _ _ _ _ _ _ _ _ _ _ _ _ _ _)); (fail_if_success (with_reducible show LCg.CompEnd _ _ _ _ _ _ _ _ _ _ _ _ _ _)); (fail_if_success (with_reducible show Exists _)); (first | (k_unfold; (try dsimp only)) | walk1 | (dsimp only; walk1) | (leave1; walk_say "STEP leave1"; try dsimp only) | fail "no step"))
    dsimp only
    exact Ex.intro (by k_asm) (by k_asm) ⟨a, Dc, cs, cc, _, rfl, ha, hcs, ne1, ne3, ne2, ov_self _ _ ⟨rfl, rfl, rfl, trivial⟩⟩
  case cont =>
  clear F9 N9
  rintro m₁ news₁ h tk F9 N9 ⟨a, Dc, cs, cc, u, rfl, ha, hcs, ne1, ne2, ne3, rfl⟩
  dsimp only [ov] at F9
  dsimp only
  walk1
  k_unmd
  k_fold
  refine For_invV s₁.heap rfl rfl ?_
  repeat' ((fail_if_success (with_reducible show wpAny _ _ (exec (Stmt.While _ _ _ _) _) _ _ _)); (fail_if_success (with_reducible show wpAny _ _ (pyIter _) _ _ _)); (fail_if_success (with_reducible show wpAny _ _ (eval (Expr.ListComp _ _ _ _) _) _ _ _)); (fail_if_success (with_reducible show wpAny _ _ (exec (Stmt.Assign _ (Expr.ListComp _ _ _ _) _) _) _ _ _)); (fail_if_success (with_reducible show Mine.Ex _ _ _ _ _)); (fail_if_success (with_reducible show WhileStep2 _ _ _ _ _ _ _ _)); (fail_if_success (with_reducible show Mine.Turn _ _ _ _ _ _ _ _ _)); (fail_if_success (with_reducible show LCg.CompSrc _ _ _ _ _ _ _ _ _ _ _ _ _ _)); (fail_if_success (with_reducible show LCt.CompSrcT _ _ _ _ _ _ _ _ _ _ _ _ _ _ _)); (fail_if_success (with_reducible show LCg.CompEnd _ _ _ _ _ _ _ _ _ _ _ _ _ _)); (fail_if_success (with_reducible show Exists _)); (first | (k_unfold; (try dsimp only)) | walk1 | (dsimp only; walk1) | (leave1; walk_say "STEP leave1"; try dsimp only) | fail "no step"))
  with_reducible rename News s₁.heap _ _ _ => N9
  with_reducible rename Fr s₁.heap _ _ _ => F9
  rename _ ∧ _ => lt9
  rename_i D2 h2 
  obtain ⟨lt1, lt2, lt3, lt4⟩ := lt9
  k_unmd
  k_fold
  have N8 : News s₁.heap s₁.heap.objs.size h2 [(D2, W.listOf #[.int x1 t1, .int x2 t2] 0), (Dc, W.listOf cs.toArray cc), (s₁.heap.objs.size + 1 + 1, o2), (s₁.heap.objs.size + 1, o1)] := News.sub N9 (by k_allIn)
  refine for_L (L := s₁.heap.objs.size) (its := #[.int x1 t1, .int x2 t2]) (c := 0) rfl (fun i m₁ news₁ => ∃ (o1 o2 : Obj) (u : Str → Option Value) (cv1 cv2 : Option Value), o1.data = Data.cell cv1 ∧ o2.data = Data.cell cv2 ∧ news₁ = [(D2, W.listOf #[.int x1 t1, .int x2 t2] 0), (Dc, W.listOf cs.toArray cc), (s₁.heap.objs.size + 1 + 1, o2), (s₁.heap.objs.size + 1, o1)] ∧
      m₁ = ov [((Str.ofString "n"), .int (n : Int) t), ((Str.ofString "code"), .ref Dc)] u) rfl F9 N8 ?hJ ?hJl ?turn ?done
  case hJ => exact ⟨o1, o2, _, _, _, hc1, hc2, rfl, ov_self _ _ ⟨rfl, rfl, trivial⟩⟩
  case hJl => rintro i m₁ news₁ ⟨_, _, _, _, _, _, _, rfl, _⟩; exact List.Mem.head _
  case turn =>
    clear F9 N9 N8 hc1 hc2
    rintro i v m₁ news₁ h tk I oI hv ⟨o1, o2, u, cv1, cv2, hc1, hc2, rfl, rfl⟩ lI neI F9 N9
    obtain ⟨x, tx, rfl⟩ := two_ints hv
    have ne4 : @Ne Nat D2 I := neI _ (List.Mem.head _)
    have ne5 : @Ne Nat Dc I := neI _ (List.Mem.tail _ (List.Mem.head _))
    have ne6 : @Ne Nat (s₁.heap.objs.size + 1 + 1) I := neI _ (List.Mem.tail _ (List.Mem.tail _ (List.Mem.head _)))
    have ne7 : @Ne Nat (s₁.heap.objs.size + 1) I := neI _ (List.Mem.tail _ (List.Mem.tail _ (List.Mem.tail _ (List.Mem.head _))))
    clear lI neI hv
    dsimp only [ov] at F9
    dsimp only
    walk1
    k_unmd
    k_fold
    have hcl : cs.length ≤ 6 := code_le6 n4 n6 ha hcs
    refine exec_P F9 (fun m₁ news₁ => ∃ (wd : List Nat) (tw : Tok) (o1 : Obj) (u : Str → Option Value), o1.data = Data.cell (some (.str (S wd) tw)) ∧ Recd n wd ∧ news₁ = [(I, oI), (D2, W.listOf #[.int x1 t1, .int x2 t2] 0), (Dc, W.listOf cs.toArray cc), (s₁.heap.objs.size + 1 + 1, o2), (s₁.heap.objs.size + 1, o1)] ∧
      m₁ = ov [((Str.ofString "n"), .int (n : Int) t), ((Str.ofString "code"), .ref Dc)] u) ?turn2 ?cont2
    case turn2 =>
      repeat' ((fail_if_success (with_reducible show wpAny _ _ (exec (Stmt.While _ _ _ _) _) _ _ _)); (fail_if_success (with_reducible show wpAny _ _ (pyIter _) _ _ _)); (fail_if_success (with_reducible show wpAny _ _ (eval (Expr.ListComp _ _ _ _) _) _ _ _)); (fail_if_success (with_reducible show wpAny _ _ (exec (Stmt.Assign _ (Expr.ListComp _ _ _ _) _) _) _ _ _)); (fail_if_success (with_reducible show Mine.Ex _ _ _ _ _)); (fail_if_success (with_reducible show WhileStep2 _ _ _ _ _ _ _ _)); (fail_if_success (with_reducible show Mine.Turn _ _ _ _ _ _ _ _ _)); (fail_if_success (with_reducible show wpAny _ _ (call (Value.ref 72) _) _ _ _)); (fail_if_success (with_reducible show wpAny _ _ (call (Value.ref 77) _) _ _ _)); (fail_if_success (with_reducible show wpAny _ _ (call (Value.ref 67) _) _ _ _)); (fail_if_success (with_reducible show wpAny _ _ (call (Value.ref 48) _) _ _ _)); (fail_if_success (with_reducible show wpAny _ _ (call (Value.ref 62) _) _ _ _)); (fail_if_success (with_reducible show LCg.CompSrc _ _ _ _ _ _ _ _ _ _ _ _ _ _)); (fail_if_success (with_reducible show LCt.CompSrcT _ _ _ _ _ _ _ _ _ _ _ _ _ _ _)); (fail_if_success (with_reducible show LCg.CompEnd _ _ _ _ _ _ _ _ _ _ _ _ _ _)); (fail_if_success (with_reducible show Exists _)); (first | (k_unfold; (try dsimp only)) | walk1 | (dsimp only; walk1) | (leave1; walk_say "STEP leave1"; try dsimp only) | fail "no step"))
      obtain ⟨v, ev, hv9⟩ := v_of x
      obtain ⟨k, ek, hk1, hk2⟩ := k_of x n n4
      rw [ev, ek]
      with_reducible rename News s₁.heap _ _ _ => N9
      with_reducible rename Fr s₁.heap _ _ _ => F9
      k_dflt (refine' Gives.use (word_gives _ v k _ _ hv9 (by omega)) ?k1 F9 ?k3 ?k5 ?kK ?kd ?ku ?kp ?_; (case k1 => exact K0); (case k3 => exact KX); (case k5 => exact T9); (case kK => exact rfl); (case kd => decide); (case ku => decide))
      case kp => trivial
      intro v9 h9 tk9 hR9 hk9
      obtain ⟨tw, rfl⟩ := hR9
      have F10 := Fr.keeps F9 hk9
      have N10 := News.grown N9 hk9
      clear F9 N9
      dsimp only at F10 N10 ⊢
      refine storeX_C F10 N10 rfl (UpdF.tail (by show @Ne Nat _ _; omega) (UpdF.tail (by show @Ne Nat _ _; omega) (UpdF.tail (by show @Ne Nat _ _; omega) (UpdF.tail (by show @Ne Nat _ _; omega) (UpdF.head (List.forall_mem_nil _)))))) hc1 fun h8 o8 F8 N8 d8 => ?_
      exact Ex.intro F8 N8 ⟨wordL v k, tw, o8, _, d8, ⟨v, k, hv9, hk1, hk2, rfl⟩, rfl, ov_self _ _ ⟨rfl, rfl, trivial⟩⟩
    case cont2 =>
    clear F9 N9 hc1
    rintro m₁ news₁ h tk F9 N9 ⟨wd, tw, o1, u, hc1, hwd, rfl, rfl⟩
    dsimp only [ov] at F9
    dsimp only
    have hw9 : wd.length = n - 1 ∨ wd.length = n ∨ wd.length = n + 1 := hwd.len
    have bw9 : Bits wd := hwd.bits
    walk1
    k_unmd
    k_fold
    refine exec_P F9 (fun m₁ news₁ => ∃ (De : Addr) (es : List Value) (ce : Nat) (o2 : Obj) (u : Str → Option Value), o2.data = Data.cell (some (.ref De)) ∧ StrsAre es ((editsL wd n).map S) ∧ news₁ = [(De, W.listOf es.toArray ce), (I, oI), (D2, W.listOf #[.int x1 t1, .int x2 t2] 0), (Dc, W.listOf cs.toArray cc), (s₁.heap.objs.size + 1 + 1, o2), (s₁.heap.objs.size + 1, o1)] ∧
      m₁ = ov [((Str.ofString "n"), .int (n : Int) t), ((Str.ofString "code"), .ref Dc)] u) ?turn3 ?cont3
    case turn3 =>
      repeat' ((fail_if_success (with_reducible show wpAny _ _ (exec (Stmt.While _ _ _ _) _) _ _ _)); (fail_if_success (with_reducible show wpAny _ _ (pyIter _) _ _ _)); (fail_if_success (with_reducible show wpAny _ _ (eval (Expr.ListComp _ _ _ _) _) _ _ _)); (fail_if_success (with_reducible show wpAny _ _ (exec (Stmt.Assign _ (Expr.ListComp _ _ _ _) _) _) _ _ _)); (fail_if_success (with_reducible show Mine.Ex _ _ _ _ _)); (fail_if_success (with_reducible show WhileStep2 _ _ _ _ _ _ _ _)); (fail_if_success (with_reducible show Mine.Turn _ _ _ _ _ _ _ _ _)); (fail_if_success (with_reducible show wpAny _ _ (call (Value.ref 72) _) _ _ _)); (fail_if_success (with_reducible show wpAny _ _ (call (Value.ref 77) _) _ _ _)); (fail_if_success (with_reducible show wpAny _ _ (call (Value.ref 67) _) _ _ _)); (fail_if_success (with_reducible show wpAny _ _ (call (Value.ref 48) _) _ _ _)); (fail_if_success (with_reducible show wpAny _ _ (call (Value.ref 62) _) _ _ _)); (fail_if_success (with_reducible show LCg.CompSrc _ _ _ _ _ _ _ _ _ _ _ _ _ _)); (fail_if_success (with_reducible show LCt.CompSrcT _ _ _ _ _ _ _ _ _ _ _ _ _ _ _)); (fail_if_success (with_reducible show LCg.CompEnd _ _ _ _ _ _ _ _ _ _ _ _ _ _)); (fail_if_success (with_reducible show Exists _)); (first | (k_unfold; (try dsimp only)) | walk1 | (dsimp only; walk1) | (leave1; walk_say "STEP leave1"; try dsimp only) | fail "no step"))
      with_reducible rename News s₁.heap _ _ _ => N9
      with_reducible rename Fr s₁.heap _ _ _ => F9
      k_dflt (refine' Gives.use (edits_gives _ wd n _ _ n4 n6 hw9 bw9) ?k1 F9 ?k3 ?k5 ?kK ?kd ?ku ?kp ?_; (case k1 => exact K0); (case k3 => exact KX); (case k5 => exact T9); (case kK => exact rfl); (case kd => decide); (case ku => decide))
      case kp => trivial
      intro v9 h9 tk9 hR9 hk9
      obtain ⟨De, es, ce, rfl, hD0, hD9, hes⟩ := hR9
      have na1 := ne_new N9 (List.Mem.head _) hD0
      have na2 := ne_new N9 (List.Mem.tail _ (List.Mem.head _)) hD0
      have na3 := ne_new N9 (List.Mem.tail _ (List.Mem.tail _ (List.Mem.head _))) hD0
      have na4 := ne_new N9 (List.Mem.tail _ (List.Mem.tail _ (List.Mem.tail _ (List.Mem.head _)))) hD0
      have na5 := ne_new N9 (List.Mem.tail _ (List.Mem.tail _ (List.Mem.tail _ (List.Mem.tail _ (List.Mem.head _))))) hD0
      have N10 := News.cons_new F9 (News.grown N9 hk9) hk9 hD0 hD9
      have F10 := Fr.keeps F9 hk9
      clear F9 N9
      dsimp only at F10 N10 ⊢
      refine storeX_C F10 N10 rfl (UpdF.tail (by show @Ne Nat _ _; omega) (UpdF.tail (by show @Ne Nat _ _; omega) (UpdF.tail (by show @Ne Nat _ _; omega) (UpdF.tail (by show @Ne Nat _ _; omega) (UpdF.head (List.forall_mem_cons.mpr ⟨by show @Ne Nat _ _; omega, List.forall_mem_nil _⟩)))))) hc2 fun h8 o8 F8 N8 d8 => ?_
      exact Ex.intro F8 N8 ⟨De, es, ce, o8, _, d8, hes, rfl, ov_self _ _ ⟨rfl, rfl, trivial⟩⟩
    case cont3 =>
    clear F9 N9 hc2
    rintro m₁ news₁ h tk F9 N9 ⟨De, es, ce, o2, u, hc2, hes, rfl, rfl⟩
    dsimp only [ov] at F9
    dsimp only
    walk1
    k_unmd
    k_fold
    refine exec_P F9 (fun m₁ news₁ => ∃ (D4 Ti Tj : Addr) (ci cj : List Nat) (i j : Nat) (ti tj ui uj : Tok) (c4 : Nat) (u : Str → Option Value), (codeL n a)[i]? = some ci ∧ (codeL n a)[j]? = some cj ∧ i ≠ j ∧ (∀ c ∈ codeL n a, lev wd ci ≤ lev wd c) ∧
      news₁ = [(D4, W.listOf #[.ref Ti, .ref Tj] c4), (Ti, pr (.int (lev wd ci) ti) (.str (S ci) ui)), (Tj, pr (.int (lev wd cj) tj) (.str (S cj) uj)), (De, W.listOf es.toArray ce), (I, oI), (D2, W.listOf #[.int x1 t1, .int x2 t2] 0), (Dc, W.listOf cs.toArray cc), (s₁.heap.objs.size + 1 + 1, o2), (s₁.heap.objs.size + 1, o1)] ∧
      m₁ = ov [((Str.ofString "n"), .int (n : Int) t), ((Str.ofString "code"), .ref Dc), ((Str.ofString "two"), .ref D4)] u) ?turn4 ?cont4
    case turn4 =>
      repeat' ((fail_if_success (with_reducible show wpAny _ _ (exec (Stmt.While _ _ _ _) _) _ _ _)); (fail_if_success (with_reducible show wpAny _ _ (pyIter _) _ _ _)); (fail_if_success (with_reducible show wpAny _ _ (eval (Expr.ListComp _ _ _ _) _) _ _ _)); (fail_if_success (with_reducible show wpAny _ _ (exec (Stmt.Assign _ (Expr.ListComp _ _ _ _) _) _) _ _ _)); (fail_if_success (with_reducible show Mine.Ex _ _ _ _ _)); (fail_if_success (with_reducible show WhileStep2 _ _ _ _ _ _ _ _)); (fail_if_success (with_reducible show Mine.Turn _ _ _ _ _ _ _ _ _)); (fail_if_success (with_reducible show LCg.CompSrc _ _ _ _ _ _ _ _ _ _ _ _ _ _)); (fail_if_success (with_reducible show LCt.CompSrcT _ _ _ _ _ _ _ _ _ _ _ _ _ _ _)); (fail_if_success (with_reducible show LCg.CompEnd _ _ _ _ _ _ _ _ _ _ _ _ _ _)); (fail_if_success (with_reducible show Exists _)); (first | (k_unfold; (try dsimp only)) | walk1 | (dsimp only; walk1) | (leave1; walk_say "STEP leave1"; try dsimp only) | fail "no step"))
      with_reducible rename News s₁.heap _ _ _ => N9
      with_reducible rename Fr s₁.heap _ _ _ => F9
      k_unmd
      k_fold
      refine LCg.ListComp_U F9 rfl (by decide) rfl (by decide) rfl ?_
      repeat' ((fail_if_success (with_reducible show wpAny _ _ (exec (Stmt.While _ _ _ _) _) _ _ _)); (fail_if_success (with_reducible show wpAny _ _ (pyIter _) _ _ _)); (fail_if_success (with_reducible show wpAny _ _ (eval (Expr.ListComp _ _ _ _) _) _ _ _)); (fail_if_success (with_reducible show wpAny _ _ (exec (Stmt.Assign _ (Expr.ListComp _ _ _ _) _) _) _ _ _)); (fail_if_success (with_reducible show Mine.Ex _ _ _ _ _)); (fail_if_success (with_reducible show WhileStep2 _ _ _ _ _ _ _ _)); (fail_if_success (with_reducible show Mine.Turn _ _ _ _ _ _ _ _ _)); (fail_if_success (with_reducible show LCg.CompSrc _ _ _ _ _ _ _ _ _ _ _ _ _ _)); (fail_if_success (with_reducible show LCt.CompSrcT _ _ _ _ _ _ _ _ _ _ _ _ _ _ _)); (fail_if_success (with_reducible show LCg.CompEnd _ _ _ _ _ _ _ _ _ _ _ _ _ _)); (fail_if_success (with_reducible show Exists _)); (first | (k_unfold; (try dsimp only)) | walk1 | (dsimp only; walk1) | (leave1; walk_say "STEP leave1"; try dsimp only) | fail "no step"))
      with_reducible rename News s₁.heap _ _ _ => N9
      with_reducible rename Fr s₁.heap _ _ _ => F9
      refine LCg.CompSrc.ledger rfl F9 N9 (List.Mem.tail _ (List.Mem.tail _ (List.Mem.tail _ (List.Mem.head _)))) (by rw [sizeLine_eq]; simp; omega) fun g => rest_inv (fun i ys nw => ∃ tn, nw = (De, W.listOf es.toArray ce) :: (I, oI) :: (D2, W.listOf #[.int x1 t1, .int x2 t2] 0) :: (Dc, W.listOf cs.toArray cc) :: (s₁.heap.objs.size + 1 + 1, o2) :: (s₁.heap.objs.size + 1, o1) :: tn ∧
        Tups tn (((codeL n a).take i).map fun c => (lev wd c, c)) ys) ⟨[], rfl, .nil⟩ ?step4 ?fin4
      case step4 =>
        clear F9 N9
        rintro i ys nw vi I2 oI2 C oC D3 m₂ h tk E' hi ⟨tn, rfl, hT⟩ hvi hC hx F9 N9 off ⟨ne8, ne9, ne10⟩
        obtain ⟨cw, tc, hcw, rfl⟩ := code_at hcs hvi
        have hcl8 := code_len hcw
        have hcl9 : cw.length ≤ 7 := by omega
        have bc9 := code_bits hcw
        dsimp only
        repeat' ((fail_if_success (with_reducible show wpAny _ _ (exec (Stmt.While _ _ _ _) _) _ _ _)); (fail_if_success (with_reducible show wpAny _ _ (pyIter _) _ _ _)); (fail_if_success (with_reducible show wpAny _ _ (eval (Expr.ListComp _ _ _ _) _) _ _ _)); (fail_if_success (with_reducible show wpAny _ _ (exec (Stmt.Assign _ (Expr.ListComp _ _ _ _) _) _) _ _ _)); (fail_if_success (with_reducible show Mine.Ex _ _ _ _ _)); (fail_if_success (with_reducible show WhileStep2 _ _ _ _ _ _ _ _)); (fail_if_success (with_reducible show Mine.Turn _ _ _ _ _ _ _ _ _)); (fail_if_success (with_reducible show wpAny _ _ (call (Value.ref 72) _) _ _ _)); (fail_if_success (with_reducible show wpAny _ _ (call (Value.ref 77) _) _ _ _)); (fail_if_success (with_reducible show wpAny _ _ (call (Value.ref 67) _) _ _ _)); (fail_if_success (with_reducible show wpAny _ _ (call (Value.ref 48) _) _ _ _)); (fail_if_success (with_reducible show wpAny _ _ (call (Value.ref 62) _) _ _ _)); (fail_if_success (with_reducible show LCg.CompSrc _ _ _ _ _ _ _ _ _ _ _ _ _ _)); (fail_if_success (with_reducible show LCt.CompSrcT _ _ _ _ _ _ _ _ _ _ _ _ _ _ _)); (fail_if_success (with_reducible show LCg.CompEnd _ _ _ _ _ _ _ _ _ _ _ _ _ _)); (fail_if_success (with_reducible show Exists _)); (first | (k_unfold; (try dsimp only)) | walk1 | (dsimp only; walk1) | (leave1; walk_say "STEP leave1"; try dsimp only) | fail "no step"))
        have hwl9 : wd.length ≤ 7 := by omega
        with_reducible rename News s₁.heap _ _ _ => N9
        with_reducible rename Fr s₁.heap _ _ _ => F9
        k_dflt (refine' Gives.use (lev_gives _ wd cw _ _ _ hwl9 hcl9 bw9 bc9) ?k1 F9 ?k3 ?k5 ?kK ?kd ?ku ?kp ?_; (case k1 => exact K0); (case k3 => exact KX); (case k5 => exact T9); (case kK => exact rfl); (case kd => decide); (case ku => decide))
        case kp => trivial
        intro v9 h9 tk9 hR9 hk9
        obtain ⟨tl, rfl⟩ := hR9
        have F10 := Fr.keeps F9 hk9
        have N10 := News.grown N9 hk9
        clear F9 N9
        dsimp only at F10 N10 ⊢
        repeat' ((fail_if_success (with_reducible show wpAny _ _ (exec (Stmt.While _ _ _ _) _) _ _ _)); (fail_if_success (with_reducible show wpAny _ _ (pyIter _) _ _ _)); (fail_if_success (with_reducible show wpAny _ _ (eval (Expr.ListComp _ _ _ _) _) _ _ _)); (fail_if_success (with_reducible show wpAny _ _ (exec (Stmt.Assign _ (Expr.ListComp _ _ _ _) _) _) _ _ _)); (fail_if_success (with_reducible show Mine.Ex _ _ _ _ _)); (fail_if_success (with_reducible show WhileStep2 _ _ _ _ _ _ _ _)); (fail_if_success (with_reducible show Mine.Turn _ _ _ _ _ _ _ _ _)); (fail_if_success (with_reducible show wpAny _ _ (call (Value.ref 72) _) _ _ _)); (fail_if_success (with_reducible show wpAny _ _ (call (Value.ref 77) _) _ _ _)); (fail_if_success (with_reducible show wpAny _ _ (call (Value.ref 67) _) _ _ _)); (fail_if_success (with_reducible show wpAny _ _ (call (Value.ref 48) _) _ _ _)); (fail_if_success (with_reducible show wpAny _ _ (call (Value.ref 62) _) _ _ _)); (fail_if_success (with_reducible show LCg.CompSrc _ _ _ _ _ _ _ _ _ _ _ _ _ _)); (fail_if_success (with_reducible show LCt.CompSrcT _ _ _ _ _ _ _ _ _ _ _ _ _ _ _)); (fail_if_success (with_reducible show LCg.CompEnd _ _ _ _ _ _ _ _ _ _ _ _ _ _)); (fail_if_success (with_reducible show Exists _)); (first | (k_unfold; (try dsimp only)) | walk1 | (dsimp only; walk1) | (leave1; walk_say "STEP leave1"; try dsimp only) | fail "no step"))
        with_reducible rename News s₁.heap _ _ _ => N8
        rename _ ∧ _ => l8
        obtain ⟨q1, q2, q3, -⟩ := l8
        refine LCg.CompEnd.intro (by k_asm) N8 (_ :: _ :: _ :: _ :: _ :: _ :: (_ :: tn)) (fun p hp => sub10 hp) (off_ins off (by omega) (by omega) (by omega)) (.inr ⟨_, List.Mem.tail _ (List.Mem.tail _ (List.Mem.tail _ (List.Mem.head _))), rfl, _, rfl⟩) ⟨_, rfl, ?_⟩
        rw [List.take_add_one, hcw]
        rw [List.map_append]
        exact .snoc (hT.mono fun p hp => List.Mem.tail _ hp) (List.Mem.head _)
      case fin4 =>
        clear F9 N9
        rintro ys nw ⟨tn, rfl, hT⟩ D3 h tk F9 N9 off
        have hcs6 := code_two n4 n6 ha
        have hcsl : cs.length = (codeL n a).length := by rw [hcs.length, List.length_map]
        rw [List.take_of_length_le (by simp; omega)] at hT
        have hyl : ys.length = (codeL n a).length := by rw [hT.length, List.length_map]
        repeat' ((fail_if_success (with_reducible show wpAny _ _ (exec (Stmt.While _ _ _ _) _) _ _ _)); (fail_if_success (with_reducible show wpAny _ _ (pyIter _) _ _ _)); (fail_if_success (with_reducible show wpAny _ _ (eval (Expr.ListComp _ _ _ _) _) _ _ _)); (fail_if_success (with_reducible show wpAny _ _ (exec (Stmt.Assign _ (Expr.ListComp _ _ _ _) _) _) _ _ _)); (fail_if_success (with_reducible show Mine.Ex _ _ _ _ _)); (fail_if_success (with_reducible show WhileStep2 _ _ _ _ _ _ _ _)); (fail_if_success (with_reducible show Mine.Turn _ _ _ _ _ _ _ _ _)); (fail_if_success (with_reducible show wpAny _ _ (call (Value.ref 72) _) _ _ _)); (fail_if_success (with_reducible show wpAny _ _ (call (Value.ref 77) _) _ _ _)); (fail_if_success (with_reducible show wpAny _ _ (call (Value.ref 67) _) _ _ _)); (fail_if_success (with_reducible show wpAny _ _ (call (Value.ref 48) _) _ _ _)); (fail_if_success (with_reducible show wpAny _ _ (call (Value.ref 62) _) _ _ _)); (fail_if_success (with_reducible show LCg.CompSrc _ _ _ _ _ _ _ _ _ _ _ _ _ _)); (fail_if_success (with_reducible show LCt.CompSrcT _ _ _ _ _ _ _ _ _ _ _ _ _ _ _)); (fail_if_success (with_reducible show LCg.CompEnd _ _ _ _ _ _ _ _ _ _ _ _ _ _)); (fail_if_success (with_reducible show Exists _)); (first | (k_unfold; (try dsimp only)) | walk1 | (dsimp only; walk1) | (leave1; walk_say "STEP leave1"; try dsimp only) | fail "no step"))
        have hz6 : ys.length ≤ 6 := by omega
        have hz2 : 2 ≤ ys.length := by omega
        have hps : ∀ q, q < ys.length → ∃ c, (codeL n a)[q]? = some c ∧ ((codeL n a).map fun c => (lev wd c, c))[q]? = some (lev wd c, c) ∧ lev wd ((codeL n a).getD q []) = lev wd c := fun q hq => code_q (hyl ▸ hq)
        k_dflt (refine' Gives.use (nsm_gives _ D3 _ ys (fun q => lev wd ((codeL n a).getD q [])) hz6 hz2) ?k1 F9 ?k3 ?k5 ?kK ?kd ?ku ?kp ?_; (case k1 => exact K0); (case k3 => exact KX); (case k5 => exact T9); (case kK => exact rfl); (case kd => decide); (case ku => decide))
        case kp =>
          refine ⟨⟨_, (N9 _ (List.Mem.head _)).1, rfl, _, rfl⟩, fun q hq => ?_⟩
          obtain ⟨c, hc, hpc, hlc⟩ := hps q hq
          obtain ⟨T, t', u', e1, e2⟩ := hT.at hpc
          rw [hlc]
          exact ⟨T, t', S c, u', e1, (N9 _ (mem7 e2)).1⟩
        intro v9 h9 tk9 hR9 hk9
        obtain ⟨D4, i, j, c4, rfl, hD0, hD9, hij, hi, hj, hleast⟩ := hR9
        obtain ⟨ci, hci, hpi, hli⟩ := hps i hi
        obtain ⟨cj, hcj, hpj, hlj⟩ := hps j hj
        obtain ⟨Ti, ti, ui, ei, mi⟩ := hT.at hpi
        obtain ⟨Tj, tj, uj, ej, mj⟩ := hT.at hpj
        rw [ei, ej] at hD9
        have hmin : ∀ c ∈ codeL n a, lev wd ci ≤ lev wd c := fun c hc => by
          obtain ⟨q, hq⟩ := List.mem_iff_getElem?.mp hc
          have hql : q < ys.length := by rw [hyl]; exact (List.getElem?_eq_some_iff.mp hq).1
          have := hleast q hql
          rw [hli] at this
          rw [List.getD, hq] at this
          exact this
        have F10 := Fr.keeps F9 hk9
        have N10 := News.cons_new F9 (News.grown N9 hk9) hk9 hD0 hD9
        have N11 : News s₁.heap s₁.heap.objs.size h9 [(D4, W.listOf #[.ref Ti, .ref Tj] c4), (Ti, pr (.int (lev wd ci) ti) (.str (S ci) ui)), (Tj, pr (.int (lev wd cj) tj) (.str (S cj) uj)), (De, W.listOf es.toArray ce), (I, oI), (D2, W.listOf #[.int x1 t1, .int x2 t2] 0), (Dc, W.listOf cs.toArray cc), (s₁.heap.objs.size + 1 + 1, o2), (s₁.heap.objs.size + 1, o1)] := News.sub N10 (sub_pick mi mj)
        clear F9 N9 N10 hT off
        dsimp only at F10 N11 ⊢
        repeat' ((fail_if_success (with_reducible show wpAny _ _ (exec (Stmt.While _ _ _ _) _) _ _ _)); (fail_if_success (with_reducible show wpAny _ _ (pyIter _) _ _ _)); (fail_if_success (with_reducible show wpAny _ _ (eval (Expr.ListComp _ _ _ _) _) _ _ _)); (fail_if_success (with_reducible show wpAny _ _ (exec (Stmt.Assign _ (Expr.ListComp _ _ _ _) _) _) _ _ _)); (fail_if_success (with_reducible show Mine.Ex _ _ _ _ _)); (fail_if_success (with_reducible show WhileStep2 _ _ _ _ _ _ _ _)); (fail_if_success (with_reducible show Mine.Turn _ _ _ _ _ _ _ _ _)); (fail_if_success (with_reducible show wpAny _ _ (call (Value.ref 72) _) _ _ _)); (fail_if_success (with_reducible show wpAny _ _ (call (Value.ref 77) _) _ _ _)); (fail_if_success (with_reducible show wpAny _ _ (call (Value.ref 67) _) _ _ _)); (fail_if_success (with_reducible show wpAny _ _ (call (Value.ref 48) _) _ _ _)); (fail_if_success (with_reducible show wpAny _ _ (call (Value.ref 62) _) _ _ _)); (fail_if_success (with_reducible show LCg.CompSrc _ _ _ _ _ _ _ _ _ _ _ _ _ _)); (fail_if_success (with_reducible show LCt.CompSrcT _ _ _ _ _ _ _ _ _ _ _ _ _ _ _)); (fail_if_success (with_reducible show LCg.CompEnd _ _ _ _ _ _ _ _ _ _ _ _ _ _)); (fail_if_success (with_reducible show Exists _)); (first | (k_unfold; (try dsimp only)) | walk1 | (dsimp only; walk1) | (leave1; walk_say "STEP leave1"; try dsimp only) | fail "no step"))
        exact Ex.intro (by k_asm) (by k_asm) ⟨D4, Ti, Tj, ci, cj, i, j, ti, tj, ui, uj, c4, _, hci, hcj, hij, hmin, rfl, ov_self _ _ ⟨rfl, rfl, rfl, trivial⟩⟩
    case cont4 =>
    clear F9 N9
    rintro m₁ news₁ h tk F9 N9 ⟨D4, Ti, Tj, ci, cj, i4, j4, ti, tj, ui, uj, c4, u, hci, hcj, hij, hmin, rfl, rfl⟩
    dsimp only [ov] at F9
    dsimp only
    walk1
    k_unmd
    k_fold
    refine LCt.Assign_ListComp_T F9 rfl (by with_unfolding_all rfl) (by with_unfolding_all rfl) (by decide) (by rfl) (by decide) (by rfl) (by rfl) (by rfl) ?_
    repeat' ((fail_if_success (with_reducible show wpAny _ _ (exec (Stmt.While _ _ _ _) _) _ _ _)); (fail_if_success (with_reducible show wpAny _ _ (pyIter _) _ _ _)); (fail_if_success (with_reducible show wpAny _ _ (eval (Expr.ListComp _ _ _ _) _) _ _ _)); (fail_if_success (with_reducible show wpAny _ _ (exec (Stmt.Assign _ (Expr.ListComp _ _ _ _) _) _) _ _ _)); (fail_if_success (with_reducible show Mine.Ex _ _ _ _ _)); (fail_if_success (with_reducible show WhileStep2 _ _ _ _ _ _ _ _)); (fail_if_success (with_reducible show Mine.Turn _ _ _ _ _ _ _ _ _)); (fail_if_success (with_reducible show LCg.CompSrc _ _ _ _ _ _ _ _ _ _ _ _ _ _)); (fail_if_success (with_reducible show LCt.CompSrcT _ _ _ _ _ _ _ _ _ _ _ _ _ _ _)); (fail_if_success (with_reducible show LCg.CompEnd _ _ _ _ _ _ _ _ _ _ _ _ _ _)); (fail_if_success (with_reducible show Exists _)); (first | (k_unfold; (try dsimp only)) | walk1 | (dsimp only; walk1) | (leave1; walk_say "STEP leave1"; try dsimp only) | fail "no step"))
    with_reducible rename News s₁.heap _ _ _ => N9
    with_reducible rename Fr s₁.heap _ _ _ => F9
    refine LCt.CompSrcT.ledger rfl F9 N9 (mem_dc) (by rw [sizeLine_eq]; simp; omega) fun g => rest_invT (fun i ys nw => ∃ tn, nw = (D4, W.listOf #[.ref Ti, .ref Tj] c4) :: (Ti, pr (.int (lev wd ci) ti) (.str (S ci) ui)) :: (Tj, pr (.int (lev wd cj) tj) (.str (S cj) uj)) :: (De, W.listOf es.toArray ce) :: (I, oI) :: (D2, W.listOf #[.int x1 t1, .int x2 t2] 0) :: (Dc, W.listOf cs.toArray cc) :: (s₁.heap.objs.size + 1 + 1, o2) :: (s₁.heap.objs.size + 1, o1) :: tn ∧
      Tups tn ((((codeL n a).take i).filter fun c => decide (c ∈ editsL wd n)).map fun c => (if c = wd then 0 else 2, c)) ys) ⟨[], rfl, .nil⟩ ?step5 ?fin5
    case step5 =>
      clear F9 N9
      rintro i ys nw vi I2 oI2 C oC D3 m₂ h tk E' hi ⟨tn, rfl, hT⟩ hvi hC hx F9 N9 off ⟨ne8, ne9, ne10⟩
      obtain ⟨cw, tc, hcw, rfl⟩ := code_at hcs hvi
      dsimp only
      repeat' ((fail_if_success (with_reducible show wpAny _ _ (exec (Stmt.While _ _ _ _) _) _ _ _)); (fail_if_success (with_reducible show wpAny _ _ (pyIter _) _ _ _)); (fail_if_success (with_reducible show wpAny _ _ (eval (Expr.ListComp _ _ _ _) _) _ _ _)); (fail_if_success (with_reducible show wpAny _ _ (exec (Stmt.Assign _ (Expr.ListComp _ _ _ _) _) _) _ _ _)); (fail_if_success (with_reducible show Mine.Ex _ _ _ _ _)); (fail_if_success (with_reducible show WhileStep2 _ _ _ _ _ _ _ _)); (fail_if_success (with_reducible show Mine.Turn _ _ _ _ _ _ _ _ _)); (fail_if_success (with_reducible show wpAny _ _ (call (Value.ref 72) _) _ _ _)); (fail_if_success (with_reducible show wpAny _ _ (call (Value.ref 77) _) _ _ _)); (fail_if_success (with_reducible show wpAny _ _ (call (Value.ref 67) _) _ _ _)); (fail_if_success (with_reducible show wpAny _ _ (call (Value.ref 48) _) _ _ _)); (fail_if_success (with_reducible show wpAny _ _ (call (Value.ref 62) _) _ _ _)); (fail_if_success (with_reducible show LCg.CompSrc _ _ _ _ _ _ _ _ _ _ _ _ _ _)); (fail_if_success (with_reducible show LCt.CompSrcT _ _ _ _ _ _ _ _ _ _ _ _ _ _ _)); (fail_if_success (with_reducible show LCg.CompEnd _ _ _ _ _ _ _ _ _ _ _ _ _ _)); (fail_if_success (with_reducible show Exists _)); (first | (k_unfold; (try dsimp only)) | walk1 | (dsimp only; walk1) | (leave1; walk_say "STEP leave1"; try dsimp only) | fail "no step"))
      · rename (List.any _ _) = true => hany
        rename (S cw == S wd) = true => heq
        with_reducible rename News s₁.heap _ _ _ => N8
        rename _ ∧ _ => l8
        obtain ⟨q1, q2, q3, -⟩ := l8
        refine LCg.CompEnd.intro (by k_asm) N8 ([_, _, _, _, _, _, _, _, _] ++ (_ :: tn)) (fun p hp => subL hp) (off_insL off (by omega) (by omega) (by omega)) (.inr ⟨_, mem_dc, rfl, _, rfl⟩) ⟨_, rfl, ?_⟩
        rw [filter_hit hcw hany, List.map_append]
        exact Tups.snoc' (hT.mono fun p hp => List.Mem.tail _ hp) (ite_w0 heq) (List.Mem.head _)
      · rename (List.any _ _) = true => hany
        rename (S cw == S wd) = false => heq
        with_reducible rename News s₁.heap _ _ _ => N8
        rename _ ∧ _ => l8
        obtain ⟨q1, q2, q3, -⟩ := l8
        refine LCg.CompEnd.intro (by k_asm) N8 ([_, _, _, _, _, _, _, _, _] ++ (_ :: tn)) (fun p hp => subL hp) (off_insL off (by omega) (by omega) (by omega)) (.inr ⟨_, mem_dc, rfl, _, rfl⟩) ⟨_, rfl, ?_⟩
        rw [filter_hit hcw hany, List.map_append]
        exact Tups.snoc' (hT.mono fun p hp => List.Mem.tail _ hp) (ite_w2 heq) (List.Mem.head _)
      · rename (List.any _ _) = false => hany
        refine LCg.CompEnd.intro (by k_asm) N9 _ (fun p hp => hp) off (.inr ⟨_, mem_dc, rfl, _, rfl⟩) ⟨_, rfl, ?_⟩
        rw [filter_miss hcw hany]
        exact hT
    case fin5 =>
      clear F9 N9
      rintro ys nw ⟨tn, rfl, hT⟩ D3 h tk F9 N9 off
      have hcsl : cs.length = (codeL n a).length := by rw [hcs.length, List.length_map]
      rw [List.take_of_length_le (by simp; omega)] at hT
      have PL := plain n4 n6 ha hwd
      have hne : ci ≠ cj := code_ne n4 n6 ha hci hcj hij
      have mi := List.mem_of_getElem? hci
      have mj := List.mem_of_getElem? hcj
      have mini := hmin
      dsimp only
      rcases PL with ⟨pe, pa⟩ | ⟨c, pe, pc, pb, pa, pz⟩
      · rw [pe] at hT
        have hys := hT.nil_inv
        subst hys
        have l1 := pa ci mi
        have l2 := pa cj mj
        have N8 : News s₁.heap s₁.heap.objs.size h [(D3, W.listOf #[] 0), (D4, W.listOf #[.ref Ti, .ref Tj] c4), (Ti, pr (.int (lev wd ci) ti) (.str (S ci) ui)), (Tj, pr (.int (lev wd cj) tj) (.str (S cj) uj)), (De, W.listOf es.toArray ce), (I, oI), (D2, W.listOf #[.int x1 t1, .int x2 t2] 0), (Dc, W.listOf cs.toArray cc), (s₁.heap.objs.size + 1 + 1, o2), (s₁.heap.objs.size + 1, o1)] := News.sub N9 (by k_allIn)
        clear N9 hT
        repeat' ((fail_if_success (with_reducible show wpAny _ _ (execs [] _) _ _ _)); (first | (k_unfold; (try dsimp only)) | walk1))
        refine wpAny_execs_nil ?_
        dsimp only
        refine wpAny_execs_nil ?_
        try dsimp only
        with_reducible rename News s₁.heap _ _ _ => N7
        with_reducible rename Fr s₁.heap _ _ _ => F7
        refine Turn.next (news' := [(D2, W.listOf #[.int x1 t1, .int x2 t2] 0), (Dc, W.listOf cs.toArray cc), (s₁.heap.objs.size + 1 + 1, o2), (s₁.heap.objs.size + 1, o1)]) F7 N7 (by k_allIn) ?off9 ⟨o1, o2, _, _, _, hc1, hc2, rfl, ov_self _ _ ⟨rfl, rfl, trivial⟩⟩
        case off9 => exact List.forall_mem_cons.mpr ⟨ne4, List.forall_mem_cons.mpr ⟨ne5, List.forall_mem_cons.mpr ⟨ne6, List.forall_mem_cons.mpr ⟨ne7, List.forall_mem_nil _⟩⟩⟩⟩
      · rw [pe] at hT
        obtain ⟨T, t', u', hys, hm⟩ := hT.one_inv
        subst hys
        have hcic : ci = c := pb ci mi (by have := hmin c (by have := List.mem_filter.mp (pe ▸ List.mem_singleton.mpr rfl : c ∈ (codeL n a).filter fun c => decide (c ∈ editsL wd n)); exact this.1); rw [pc] at this; split at this <;> omega)
        subst hcic
        have l2 := pa cj mj (Ne.symm hne)
        have l3 := pz
        have N8 : News s₁.heap s₁.heap.objs.size h [(D3, W.listOf #[.ref T] 1), (T, pr (.int (if ci = wd then 0 else 2) t') (.str (S ci) u')), (D4, W.listOf #[.ref Ti, .ref Tj] c4), (Ti, pr (.int (lev wd ci) ti) (.str (S ci) ui)), (Tj, pr (.int (lev wd cj) tj) (.str (S cj) uj)), (De, W.listOf es.toArray ce), (I, oI), (D2, W.listOf #[.int x1 t1, .int x2 t2] 0), (Dc, W.listOf cs.toArray cc), (s₁.heap.objs.size + 1 + 1, o2), (s₁.heap.objs.size + 1, o1)] := News.sub N9 (sub_one hm)
        rw [← pc] at N8
        have l4 : 6 ≤ lev wd ci + lev wd cj := by
          by_cases e : ci = wd
          · have := pz e cj mj (Ne.symm hne)
            rw [pc, if_pos e]; omega
          · rw [pc, if_neg e]; omega
        clear N9 hT hm pb pa pz l3 hmin mini pe
        repeat' ((fail_if_success (with_reducible show wpAny _ _ (execs [] _) _ _ _)); (first | (k_unfold; (try dsimp only)) | walk1))
        with_reducible rename News s₁.heap _ _ _ => N7
        refine ne_one ⟨_, (N7 _ (List.Mem.head _)).1, rfl, _, rfl⟩ ⟨_, (N7 _ (List.Mem.tail _ (List.Mem.head _))).1, rfl, _, rfl⟩ (N7 _ (List.Mem.tail _ (List.Mem.tail _ (List.Mem.tail _ (List.Mem.tail _ (List.Mem.head _)))))).1 (N7 _ (List.Mem.tail _ (List.Mem.tail _ (List.Mem.head _)))).1 (by show callerA.units + 3 + 10 < cLine; decide) ?_
        dsimp only
        repeat' ((fail_if_success (with_reducible show wpAny _ _ (execs [] _) _ _ _)); (first | (k_unfold; (try dsimp only)) | walk1))
        refine wpAny_execs_nil ?_
        dsimp only
        refine wpAny_execs_nil ?_
        try dsimp only
        with_reducible rename News s₁.heap _ _ _ => N7
        with_reducible rename Fr s₁.heap _ _ _ => F7
        refine Turn.next (news' := [(D2, W.listOf #[.int x1 t1, .int x2 t2] 0), (Dc, W.listOf cs.toArray cc), (s₁.heap.objs.size + 1 + 1, o2), (s₁.heap.objs.size + 1, o1)]) F7 N7 (by k_allIn) ?off9 ⟨o1, o2, _, _, _, hc1, hc2, rfl, ov_self _ _ ⟨rfl, rfl, trivial⟩⟩
        case off9 => exact List.forall_mem_cons.mpr ⟨ne4, List.forall_mem_cons.mpr ⟨ne5, List.forall_mem_cons.mpr ⟨ne6, List.forall_mem_cons.mpr ⟨ne7, List.forall_mem_nil _⟩⟩⟩⟩
  case done =>
    clear F9 N9
    rintro m₁ news₁ h tk ⟨o1, o2, u, cv1, cv2, hc1, hc2, rfl, rfl⟩ F9 N9
    dsimp only [ov] at F9
    dsimp only
    repeat' (first | (k_unfold; (try dsimp only)) | walk1 | (dsimp only; walk1) | (leave1; walk_say "STEP leave1"; try dsimp only) | fail "no step")
    dsimp only
    repeat' (first | (k_unfold; (try dsimp only)) | walk1)
    refine goodW_bool F9 hg (raisesW_false ?_) ?_
    · wrow_none_raised
    · wrow_post
end Mine

end

set_option maxRecDepth 100000 in
set_option maxHeartbeats 8000000 in
theorem PySem.Challenge.cw_nq0104_01_holds : PySem.Challenge.rw_nq0104_01.Holds := by
  exact Mine.law_walk
