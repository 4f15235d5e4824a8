import PyProof.Rows.All
import Wide.All
import OpenK.AllK
import Wide.FinOn
import Lean
import PySem.Challenge.RW_ty0008_01
open PySem PySem.W PyProof.Rows PySem.Calls
set_option Elab.async false
set_option maxRecDepth 100000
namespace Mine
set_option maxRecDepth 100000 in
set_option maxHeartbeats 8000000 in
open_top hd for PySem.Challenge.rw_ty0008_01
section
abbrev Pg : Program := PySem.Challenge.rw_ty0008_01.row.toRowW.prog
section
variable {prog : Program} {w : World} {A A₀ : Around} {E : Value → Shared → Prop} {s : Shared} {K : Frag} {L : Addr} {h₀ base : Heap} {m mg mb : PySem.Str → Option Value} {p : Program} {loose : List PySem.Str} {mean : ExcName → Option Value}
theorem codeY {env : Env} {outer : List Env} {R : Result → Shared → Prop} {name qual : PySem.Str} {params : Arguments} {body : List Stmt} {scope : Scope} {dV kV doc pm cdv ct oc : Value} {an od : Option Addr} {osl : Array (Option Value)} {f : Addr} {args : Args} {binds : List (PySem.Str × Value)}
    (B : Below A₀ base outer h₀) (F : Fr h₀ L s.heap m) (X₀ : K.In h₀) (T : Top p loose mean mg mb h₀) (hA : A.frames = some (env :: outer)) (hf : env.frame = some L) (hke : env.scope.kind = .function)
    (ho : K.lookup f = some ⟨oc, od, .func (fnOf name qual params body scope dV kV doc pm an cdv ct), osl⟩) (hcd : codeIn K cdv qual = true) (hroom : A.depth < recursionLimit)
    (hbind : BindsTo s (fnOf name qual params body scope dV kV doc pm an cdv ct) args binds) (hloc : ∀ y ∈ binds, scope.names.lookup y.1 = some .local)
    (h : ∀ L' h₁, L' = s.heap.objs.size → Fr s.heap L' h₁ (fun y => binds.reverse.lookup y) → News s.heap L' h₁ [] → Below A base (env :: outer) s.heap → K.In s.heap → Top p loose mean mg mb s.heap →
      wpAny (model prog w) (A.deeper (envOf qual scope L' f cdv)) (execs body (envOf qual scope L' f cdv))
        (fun fl s' => R (.ok (.ret (match fl with | .ret v => v | _ => .none))) s')
        (fun e s' => wpAny (model prog w) (A.deeper (envOf qual scope L' f cdv)) (leaving (envOf qual scope L' f cdv) e) (fun _ s'' => R (.error e) s'') (fun e' s'' => R (.error e') s'') s')
        { s with heap := h₁, toks := s.toks + binds.length })
    (hco : scope.isCoroutine = false) (hgen : scope.isGenerator = false) (hk : scope.kind = .function)
    (hcell : ∀ x ∈ scope.names, x.2 ≠ .cell) : codeAny (model prog w) A (.call (.ref f) args) R s := by
  have B₁ := pushX B F hf hke
  have BG : Below A base (env :: outer) s.heap := ⟨hA, B₁.stays, B₁.frames⟩
  refine codeAny_call_def (fd := fnOf name qual params body scope dV kV doc pm an cdv ct) (body := body) (binds := binds) hroom ((X₀.keeps F.keep) _ _ ho) rfl (T.nolimit.keeps F.keep) (codeRec_of (X₀.keeps F.keep) hcd) rfl hbind hcell hloc (fun h₁ hns hk₁ => ?_) hco hgen hk
  exact h _ h₁ rfl ⟨hns, hk₁, Nat.le_refl _⟩ News.nil BG (X₀.keeps F.keep) (T.keeps F.keep)
end

/-- a call that keeps all that stands: the contract of a def of the text -/
abbrev Cn (w : World) (mean : ExcName → Option Value) (mg mb : PySem.Str → Option Value) (f : Addr) (vs : List Value) (G : Shared → Prop) (R : Shared → Value → Heap → Prop) : Prop :=
  ∀ (dp un : Nat) (gd : Option (List Code)) (cn : PySem.Str) (cs : Scope) (a : Addr) (ccd : Value) (cl : List (PySem.Str × Addr)) (outer : List Env) (A₀ : Around) (base h₀ : Heap) (L : Addr) (m : PySem.Str → Option Value) (s : Shared) (Q E : Value → Shared → Prop),
    Below A₀ base outer h₀ → Fr h₀ L s.heap m → (Mine.hd.heap_39 w.params).In h₀ → Top Mine.hd.view_39 (looseW Mine.hd.view_39 []) mean mg mb h₀ → cs.kind = .function →
    G s → dp + 4 < recursionLimit → un + 40 < cLine →
    (∀ v h' tk', R s v h' → (∀ b o, s.heap.get? b = some o → h'.get? b = some o) → Q v { s with heap := h', toks := tk' }) →
      wpAny (model Pg w) (ktrTop dp un gd cn cs L a ccd cl outer) (call (.ref f) vs) Q E s
/-- a goal at which the walk is to stop -/
def Stop (P : Prop) : Prop := P
theorem Stop.out {P : Prop} (h : Stop P) : P := h
section
variable {prog : Program} {w : World} {A A₀ : Around} {E : Value → Shared → Prop} {s : Shared} {K : Frag} {L : Addr} {h₀ base : Heap} {m mg mb : PySem.Str → Option Value} {p : Program} {loose : List PySem.Str} {mean : ExcName → Option Value}
theorem codeYC {env : Env} {outer : List Env} {R : Result → Shared → Prop} {name qual : PySem.Str} {params : Arguments} {body : List Stmt} {scope : Scope} {dV kV doc pm cdv ct oc : Value} {an od : Option Addr} {osl : Array (Option Value)} {f : Addr} {args : Args} {binds : List (PySem.Str × Value)}
    (B : Below A₀ base outer h₀) (F : Fr h₀ L s.heap m) (X₀ : K.In h₀) (T : Top p loose mean mg mb h₀) (hA : A.frames = some (env :: outer)) (hf : env.frame = some L) (hke : env.scope.kind = .function)
    (ho : K.lookup f = some ⟨oc, od, .func (fnOf name qual params body scope dV kV doc pm an cdv ct), osl⟩) (hcd : codeIn K cdv qual = true) (hroom : A.depth < recursionLimit)
    (hbind : BindsTo s (fnOf name qual params body scope dV kV doc pm an cdv ct) args binds) (hkind : (binds.all fun y => scope.names.lookup y.1 == some .local || scope.names.lookup y.1 == some .cell) = true)
    (hnd : ((cellsFrom 0 scope.names []).map (·.1)).Nodup)
    (h : ∀ L' h₁ tk cells, L' = s.heap.objs.size → Fr s.heap L' h₁ (bindL (envOfC qual scope L' f cdv).kindOf binds fun _ => none) → News s.heap L' h₁ cells →
      CellsAre (bindC (envOfC qual scope L' f cdv).kindOf binds fun _ => none) (cellsFrom (L' + 1) scope.names []) cells → Below A base (env :: outer) s.heap → K.In s.heap → Top p loose mean mg mb s.heap →
      wpAny (model prog w) (A.deeper (envOfC qual scope L' f cdv)) (execs body (envOfC qual scope L' f cdv))
        (fun fl s' => R (.ok (.ret (match fl with | .ret v => v | _ => .none))) s')
        (fun e s' => wpAny (model prog w) (A.deeper (envOfC qual scope L' f cdv)) (leaving (envOfC qual scope L' f cdv) e) (fun _ s'' => R (.error e) s'') (fun e' s'' => R (.error e') s'') s')
        { s with heap := h₁, toks := tk })
    (hco : scope.isCoroutine = false) (hgen : scope.isGenerator = false) (hk : scope.kind = .function) : codeAny (model prog w) A (.call (.ref f) args) R s := by
  have B₁ := pushX B F hf hke
  have BG : Below A base (env :: outer) s.heap := ⟨hA, B₁.stays, B₁.frames⟩
  refine codeAny_call_function hroom ((X₀.keeps F.keep) _ _ ho) rfl hco hgen rfl (codeRec_of (X₀.keeps F.keep) hcd) (hbind _ _ _ _ ?_)
  refine wpAny_newFunctionEnv_cells hk (kindsX hkind _) fun env' he s' x => ?_
  subst he
  refine ⟨(T.nolimit.keeps F.keep).keeps x.toInCall.keep, codeAny_func ?_⟩
  obtain ⟨h₁, tk, rfl, _⟩ := x.done
  have hk₁ := x.toInCall.keep
  obtain ⟨cells, NC, Y⟩ := Cl.news (h₀ := s.heap) (Nat.le_refl _) fun n c hm => ⟨x.cell n c (lookup_of_mem_nodup (cellsFrom_names scope.names 0 (s.heap.objs.size + 1) [] [] rfl ▸ hnd) hm), x.above n c hm⟩
  refine wpAny_mono (h s.heap.objs.size h₁ tk cells rfl ⟨x.toInCall.ns, hk₁, Nat.le_refl _⟩ (fun p hp => ?_) Y BG (X₀.keeps F.keep) (T.keeps F.keep)) (fun fl s' hl => hl) fun _ _ y => y
  exact ⟨(NC p hp).1, (NC p hp).2.1, by
    cases q : s.heap.get? p.1 with
    | none => rfl
    | some o => have := (NC p hp).2.2; rw [q] at this; cases this⟩
end
end
section
open Builtin Builtin.Str

/-- the first place of y in x between lo and hi -/
theorem occ_from (x y : PySem.Str) (lo hi : Nat) :
    (occurrences x y lo hi 1 = [] ∧ ∀ i, lo ≤ i → ¬ StrLaws.At x y hi i) ∨ ∃ k r, occurrences x y lo hi 1 = k :: r ∧ lo ≤ k ∧ StrLaws.At x y hi k ∧ ∀ i, lo ≤ i → i < k → ¬ StrLaws.At x y hi i := by
  rw [StrLaws.occ_eq]
  rcases StrLaws.occ_first x y hi 1 (Nat.le_refl _) (List.range' lo (hi + 1 - lo)) lo (fun i hi' => (List.mem_range'_1.mp hi').1) with ⟨h0, hn⟩ | ⟨pre, a, post, e, h0, ha, hn⟩
  · refine .inl ⟨by rw [h0], fun i hlo hi' => ?_⟩
    exact hn i (List.mem_range'_1.mpr ⟨hlo, by have := hi'.1; omega⟩) hi'
  · have hmem : a ∈ List.range' lo (hi + 1 - lo) := by rw [e]; simp
    refine .inr ⟨a, ((forIn (List.range' lo (hi + 1 - lo)) ((#[] : Array Nat), lo) (StrLaws.occBody x y hi 1)).run.fst.toList).tail, ?_, (List.mem_range'_1.mp hmem).1, ha, fun i hlo hia => hn i ?_⟩
    · generalize (forIn (List.range' lo (hi + 1 - lo)) ((#[] : Array Nat), lo) (StrLaws.occBody x y hi 1)).run.fst = arr at h0
      have h1 : arr.toList[0]? = some a := by simpa using h0
      cases hL : arr.toList with
      | nil => rw [hL] at h1; cases h1
      | cons b t => rw [hL] at h1; simp at h1; rw [h1]; rfl
    · have hi2 : i ∈ pre ++ a :: post := by
        rw [← e]
        exact List.mem_range'_1.mpr ⟨hlo, by have := List.mem_range'_1.mp hmem; omega⟩
      rcases List.mem_append.mp hi2 with h | h
      · exact h
      · exfalso
        have hs : (pre ++ a :: post).Pairwise (· < ·) := by rw [← e]; exact List.pairwise_lt_range'
        have h3 := (List.pairwise_append.mp hs).2.1
        rcases List.mem_cons.mp h with rfl | h
        · omega
        · have := (List.pairwise_cons.mp h3).1 i h
          omega

section
variable {prog : Program} {w : World} {A : Around} {E : Value → Shared → Prop} {s : Shared} {h₀ : Heap} {L : Addr} {m : PySem.Str → Option Value} {news : List (Addr × Obj)} {x y : PySem.Str} {t u v v' : Tok} {Q : Value → Shared → Prop}

theorem split2 {a b : PySem.Str} (hF : Fr h₀ L s.heap m) (hN : News h₀ L s.heap news) (hy : (y.length == 0) = false) (hs : Txt.split x y = [a, b])
    (h : ∀ D h' k t1 t2, Fr h₀ L h' m → News h₀ L h' ((D, listOf #[.str a t1, .str b t2] 0) :: news) → (∀ p ∈ news, p.1 < D) → Q (.ref D) { s with heap := h', toks := k }) (hsz : x.length + 2 ≤ sizeLine) :
    wpAny (model prog w) A (call (.builtin "str.split") [.str x t, .str y u]) Q E s := by
  refine KSpl.split1 hF hN hy (fun D l h' k e a' F' N' l1 => ?_) hsz
  rw [hs] at e
  obtain ⟨t1, l1', rfl, e1⟩ := KSpl.cons_of e
  obtain ⟨t2, l2', rfl, e2⟩ := KSpl.cons_of e1
  have := KSpl.nil_of e2
  subst this
  exact h D h' k t1 t2 F' N' l1

theorem split3 {a b c : PySem.Str} (hF : Fr h₀ L s.heap m) (hN : News h₀ L s.heap news) (hy : (y.length == 0) = false) (hs : Txt.split x y = [a, b, c])
    (h : ∀ D h' k t1 t2 t3, Fr h₀ L h' m → News h₀ L h' ((D, listOf #[.str a t1, .str b t2, .str c t3] 0) :: news) → (∀ p ∈ news, p.1 < D) → Q (.ref D) { s with heap := h', toks := k }) (hsz : x.length + 2 ≤ sizeLine) :
    wpAny (model prog w) A (call (.builtin "str.split") [.str x t, .str y u]) Q E s := by
  refine KSpl.split1 hF hN hy (fun D l h' k e a' F' N' l1 => ?_) hsz
  rw [hs] at e
  obtain ⟨t1, l1', rfl, e1⟩ := KSpl.cons_of e
  obtain ⟨t2, l2', rfl, e2⟩ := KSpl.cons_of e1
  obtain ⟨t3, l3', rfl, e3⟩ := KSpl.cons_of e2
  have := KSpl.nil_of e3
  subst this
  exact h D h' k t1 t2 t3 F' N' l1

def find4 (x y : PySem.Str) (i j : Int) : Int := match occurrences x y (fromIndex x.length i) (min (fromIndex x.length j) x.length) 1 with | k :: _ => (k : Int) | [] => -1
theorem gives_find4 (x y : PySem.Str) (i j : Int) (t u v v' : Tok) : Gives («str.find» ⟨[.str x t, .str y u, .int i v, .int j v'], []⟩) (.int (find4 x y i j)) := by
  show Gives (match occurrences x y (fromIndex x.length i) (min (fromIndex x.length j) x.length) 1 with | k :: _ => retInt k | [] => (do rule "str.find.not-found"; retInt (-1))) _
  unfold find4
  cases occurrences x y (fromIndex x.length i) (min (fromIndex x.length j) x.length) 1 with
  | nil => exact .rule (.of_eq rfl)
  | cons k _ => exact .of_eq rfl
theorem call_find4 {i j : Int} (hq : Q (.int (find4 x y i j) s.toks) { s with toks := s.toks + 1 }) : wpAny (model prog w) A (call (.builtin "str.find") [.str x t, .str y u, .int i v, .int j v']) Q E s :=
  call_gives F.slot_str_find (typeIs_str _ _ _) F.entry_str_find (F.args_str_find_4 _ _ _ _) (gives_find4 x y i j t u v v') hq
theorem call_find4_of {i j r : Int} (hr : find4 x y i j = r) (hq : Q (.int r s.toks) { s with toks := s.toks + 1 }) : wpAny (model prog w) A (call (.builtin "str.find") [.str x t, .str y u, .int i v, .int j v']) Q E s :=
  call_find4 (hr ▸ hq)

theorem find4_nil {i j : Int} (hy : y.length = 0) (h0 : 0 ≤ i) (hij : i ≤ j) (hj : j ≤ x.length) : find4 x y i j = i := by
  have e1 : fromIndex x.length i = i.toNat := by unfold fromIndex; rw [if_neg (by omega)]; omega
  have e2 : fromIndex x.length j = j.toNat := by unfold fromIndex; rw [if_neg (by omega)]; omega
  unfold find4
  rw [e1, e2, Nat.min_eq_left (by omega)]
  have hat : StrLaws.At x y j.toNat i.toNat := by
    refine ⟨by omega, ?_⟩
    rw [StrLaws.subAt_eq, hy]
    have : y.cps.toList = [] := by
      have : y.cps.size = 0 := hy
      simp [Array.size_eq_zero_iff.mp this]
    rw [this]; simp
  rcases occ_from x y i.toNat j.toNat with ⟨_, h⟩ | ⟨k, r, e, hk, _, h⟩
  · exact absurd hat (h _ (Nat.le_refl _))
  · rw [e]
    show (k : Int) = i
    have : ¬ i.toNat < k := fun hlt => h _ (Nat.le_refl _) hlt hat
    omega
theorem call_find_nil {i j : Int} (hy : y.length = 0) (h0 : 0 ≤ i) (hij : i ≤ j) (hj : j ≤ x.length) (hq : Q (.int i s.toks) { s with toks := s.toks + 1 }) : wpAny (model prog w) A (call (.builtin "str.find") [.str x t, .str y u, .int i v, .int j v']) Q E s :=
  call_find4_of (find4_nil hy h0 hij hj) hq
theorem find4_all {i j : Int} (hi : i = 0) (hj : j = x.length) : (find4 x y i j = -1 ∨ (0 ≤ find4 x y i j ∧ find4 x y i j + y.length ≤ x.length)) ∧ Txt.contains x y = decide (0 ≤ find4 x y i j) := by
  subst hi hj
  have e1 : fromIndex x.length 0 = 0 := by unfold fromIndex; rw [if_neg (by omega)]; rfl
  have e2 : fromIndex x.length (x.length : Int) = x.length := by unfold fromIndex; rw [if_neg (by omega)]; omega
  unfold find4 Txt.contains
  rw [e1, e2, Nat.min_self]
  rcases occ_from x y 0 x.length with ⟨e, _⟩ | ⟨k, r, e, _, ha, _⟩
  · rw [e]; exact ⟨.inl rfl, rfl⟩
  · rw [e]
    have := ha.1
    refine ⟨.inr ⟨?_, ?_⟩, ?_⟩
    · show (0 : Int) ≤ (k : Int); omega
    · show (k : Int) + _ ≤ _; omega
    · show _ = decide ((0 : Int) ≤ (k : Int)); simp
theorem call_find_all {i j : Int} (hi : i = 0) (hj : j = x.length) (hq : ∀ r : Int, (r = -1 ∨ (0 ≤ r ∧ r + y.length ≤ x.length)) → Txt.contains x y = decide (0 ≤ r) → Q (.int r s.toks) { s with toks := s.toks + 1 }) : wpAny (model prog w) A (call (.builtin "str.find") [.str x t, .str y u, .int i v, .int j v']) Q E s :=
  call_find4 (hq _ (find4_all hi hj).1 (find4_all hi hj).2)
theorem empty_len : PySem.Str.empty.length = 0 := rfl
theorem empty_le : PySem.Str.empty.length ≤ 16777216 := by decide
theorem len_le (h1 : x.length ≤ 16777216) (h : Q (.int x.length (s.toks + 1)) { s with toks := s.toks + 1 + 1 }) : wpAny (model prog w) A (call (.builtin "len") [.str x t]) Q E s := SBL.len (by omega) h
theorem truthy_yes {Q : Bool → Shared → Prop} (h0 : 0 < x.length) (h1 : x.length ≤ 16777216) (h : Q true { s with toks := s.toks + 1 + 1 }) : wpAny (model prog w) A (PySem.truthy (.str x t)) Q E s := by
  refine SBL.truthy (by omega) ?_
  have e : ((x.length : Int) != 0) = true := by simp; omega
  rw [e]
  exact h
theorem truthy_no {Q : Bool → Shared → Prop} (h0 : x.length = 0) (h : Q false { s with toks := s.toks + 1 + 1 }) : wpAny (model prog w) A (PySem.truthy (.str x t)) Q E s := by
  refine SBL.truthy (by omega) ?_
  have e : ((x.length : Int) != 0) = false := by simp [h0]
  rw [e]
  exact h
theorem item_at {value slice : Expr} {i : Int} {c : Nat} (h0 : 0 ≤ i) (hc : x.cps.toList[i.toNat]? = some c) (hl : x.length ≤ 16777216)
    (h : Q (.str ⟨#[c]⟩ s.toks) { s with toks := s.toks + 1 })
    (hs : subscripted slice false (.str x t) (.int i u) = operate [.str x t, .int i u] (getItem (.str x t) (.int i u)) := by with_unfolding_all rfl)
    (ht : ∀ r, letTemporaryGo value (.str x t) r = pure () := by intro _; with_unfolding_all rfl) :
    wpAny (model prog w) A (subscriptTail value slice (.str x t) (.int i u)) Q E s := by
  have hlt : i.toNat < x.length := by
    obtain ⟨hlt, _⟩ := List.getElem?_eq_some_iff.mp hc
    simpa [PySem.Str.length] using hlt
  have e : Txt.charAt x i = some c := StrLaws.at_nonneg h0 (by simpa using hc)
  have e2 : Txt.item x i = ⟨#[c]⟩ := by unfold Txt.item; rw [e]; rfl
  refine item_str (fitsSsize_of (N := 9223372036854775808) (by omega) (by omega) (Int.le_refl _)) (by omega) (by omega) (fun _ => ?_) hs ht
  rw [e2]; exact h
theorem eq_known {b : Bool} (hb : (x == y) = b) (h : Q (.bool b) s) : wpAny (model prog w) A (compareOp .Eq (.str x t) (.str y u)) Q E s := by
  refine eq_str ?_
  rw [hb]; exact h
theorem ne_known {b : Bool} (hb : (x == y) = b) (h : Q (.bool (!b)) s) : wpAny (model prog w) A (compareOp .NotEq (.str x t) (.str y u)) Q E s := by
  refine ne_str ?_
  rw [bne, hb]; exact h
theorem toks_mono {α : Type} {M : Model} {t : Sem α} {Q : α → Shared → Prop} {E : Value → Shared → Prop} (h : wpAny M A t (fun a s' => s.toks ≤ s'.toks → Q a s') E s) : wpAny M A t Q E s :=
  wpAny_mono (wpAny_toks_of (Nat.le_refl _) h) (fun _ _ q => q.2 q.1) fun _ _ q => q.2
theorem add_tx {a b : List Nat} (hx : x = ⟨a.toArray⟩) (hy : y = ⟨b.toArray⟩) (hl : a.length + b.length ≤ 16777216) (hq : ∀ t' k, s.toks ≤ k → Q (.str ⟨(a ++ b).toArray⟩ t') { s with toks := k }) : wpAny (model prog w) A (binaryOp .Add (.str x t) (.str y u)) Q E s := by
  subst hx hy
  refine toks_mono (SB.add (fun t' k => ?_) (by rw [sizeLine_eq]; simp [PySem.Str.length]; omega))
  have e : (⟨a.toArray⟩ : PySem.Str) ++ ⟨b.toArray⟩ = ⟨(a ++ b).toArray⟩ := PySem.Str.ext' (by rw [PySem.Str.cps_append]; simp)
  rw [e]; exact hq t' k
theorem notin_of (h : Q (.bool false) s) (hc : (!(occurrences x y 0 x.length 1).isEmpty) = true) : wpAny (model prog w) A (compareOp .NotIn (.str y u) (.str x t)) Q E s := by
  refine notIn_str ?_
  have : (occurrences x y 0 x.length 1).isEmpty = false := by simpa using hc
  rw [this]; exact h
end
theorem slice_to {x : PySem.Str} {j : Int} (h0 : 0 ≤ j) (h1 : j ≤ x.length) : Txt.slice x none (some j) = ⟨(x.cps.toList.take j.toNat).toArray⟩ := by
  have := StrLaws.sliceText_to (x := x) (j := j) ⟨h0, by simpa [PySem.Str.length] using h1⟩
  rw [show Txt.slice x none (some j) = _ from this]
  simp
theorem slice_from {x : PySem.Str} {i : Int} (h0 : 0 ≤ i) (h1 : i ≤ x.length) : Txt.slice x (some i) none = ⟨(x.cps.toList.drop i.toNat).toArray⟩ := by
  have := StrLaws.sliceText_from (x := x) (i := i) ⟨h0, by simpa [PySem.Str.length] using h1⟩
  rw [show Txt.slice x (some i) none = _ from this]
  congr 2
  apply List.take_of_length_le
  simp [PySem.Str.length] at h1 ⊢; omega
theorem slice_mid {x : PySem.Str} {i j : Int} (h0 : 0 ≤ i) (h1 : i ≤ j) (h2 : j ≤ x.length) : Txt.slice x (some i) (some j) = ⟨((x.cps.toList.drop i.toNat).take (j - i).toNat).toArray⟩ :=
  StrLaws.sliceText_plain ⟨h0, h1, by simpa [PySem.Str.length] using h2⟩
theorem slice_last {x : PySem.Str} {k : Int} (h0 : 0 < k) (h1 : k ≤ x.length) : Txt.slice x (some (-k)) none = ⟨(x.cps.toList.drop (x.length - k.toNat)).toArray⟩ := by
  have := StrLaws.sliceText_from_neg (x := x) (i := -k) (by omega) (by omega)
  rw [show Txt.slice x (some (-k)) none = _ from this]
  have e : (-k + (x.length : Int)).toNat = x.length - k.toNat := by omega
  rw [e]
  congr 2
  apply List.take_of_length_le
  simp [PySem.Str.length] at h1 ⊢; omega
end
section
section
open Builtin Builtin.Str
abbrev dots : PySem.Str := PySem.Str.ofString "..."
theorem dots_is : dots = ⟨#[46, 46, 46]⟩ := by decide
theorem dots_len : dots.length = 3 := by decide
theorem sub_dots {w : List Nat} {i : Nat} : subAt ⟨w.toArray⟩ dots i = ((w.drop i).take 3 == [46, 46, 46]) := by
  rw [StrLaws.subAt_eq, dots_len, dots_is]
theorem sub_at {w : List Nat} {i : Nat} (h : subAt ⟨w.toArray⟩ dots i = true) : w[i]? = some 46 := by
  rw [sub_dots, beq_iff_eq] at h
  have e : w[i]? = (w.drop i)[0]? := by rw [List.getElem?_drop]; rfl
  rw [e]
  cases hd : w.drop i with
  | nil => rw [hd] at h; cases h
  | cons x r => rw [hd] at h; simp at h; rw [h.1]; rfl
theorem run_skip {w : PySem.Str} {hi limit : Nat} : ∀ (l : List Nat) (st : Array Nat × Nat), (∀ i ∈ l, st.snd ≤ i → subAt w dots i = false) → (forIn l st (StrLaws.occBody w dots hi limit)).run = st
  | [], _, _ => rfl
  | i :: l, st, h => by
    rw [List.forIn_cons]
    unfold StrLaws.occBody
    have hn : ¬ (((st.fst.size < limit ∧ st.snd ≤ i) ∧ i + dots.length ≤ hi) ∧ subAt w dots i = true) := fun q => by
      have := h i (.head _) q.1.1.2
      rw [q.2] at this; cases this
    rw [if_neg hn]
    exact run_skip l st fun j hj => h j (.tail _ hj)
theorem run_hit {w : PySem.Str} {hi limit k : Nat} {l : List Nat} {st : Array Nat × Nat} (h1 : st.fst.size < limit) (h2 : st.snd ≤ k) (h3 : k + 3 ≤ hi) (h4 : subAt w dots k = true) :
    (forIn (k :: l) st (StrLaws.occBody w dots hi limit)).run = (forIn l (st.fst.push k, k + 3) (StrLaws.occBody w dots hi limit)).run := by
  rw [List.forIn_cons]
  unfold StrLaws.occBody
  rw [if_pos ⟨⟨⟨h1, h2⟩, h3⟩, h4⟩]
  rfl
theorem run_append {w : PySem.Str} {hi limit : Nat} (l l' : List Nat) (st : Array Nat × Nat) :
    (forIn (l ++ l') st (StrLaws.occBody w dots hi limit)).run = (forIn l' (forIn l st (StrLaws.occBody w dots hi limit)).run (StrLaws.occBody w dots hi limit)).run := by
  induction l generalizing st with
  | nil => rfl
  | cons i l ih =>
    rw [List.cons_append, List.forIn_cons, List.forIn_cons]
    unfold StrLaws.occBody
    split
    · exact ih _
    · exact ih _
theorem sub_yes {a c : List Nat} : subAt ⟨(a ++ [46, 46, 46] ++ c).toArray⟩ dots a.length = true := by
  rw [sub_dots, List.append_assoc, List.drop_left]; rfl
theorem occ_one {a c : List Nat} (ha : 46 ∉ a) (hc : 46 ∉ c) : occurrences ⟨(a ++ [46, 46, 46] ++ c).toArray⟩ dots 0 (a ++ [46, 46, 46] ++ c).length ((a ++ [46, 46, 46] ++ c).length + 1) = [a.length] := by
  rw [StrLaws.occ_eq]
  have e : List.range' 0 ((a ++ [46, 46, 46] ++ c).length + 1 - 0) = List.range' 0 a.length ++ a.length :: List.range' (a.length + 1) (c.length + 3) := by
    rw [show (a ++ [46, 46, 46] ++ c : List Nat).length + 1 - 0 = a.length + (1 + (c.length + 3)) by simp; omega, ← List.range'_append_1, ← List.range'_append_1]
    simp [List.range'_succ]
  have s1 : ∀ i ∈ List.range' 0 a.length, (0 : Nat) ≤ i → subAt ⟨(a ++ [46, 46, 46] ++ c).toArray⟩ dots i = false := fun i hi _ => by
    cases hq : subAt ⟨(a ++ [46, 46, 46] ++ c).toArray⟩ dots i with
    | false => rfl
    | true =>
      have := sub_at hq
      have hlt : i < a.length := by have := (List.mem_range'_1.mp hi).2; omega
      rw [List.append_assoc, List.getElem?_append_left hlt] at this
      exact absurd (List.mem_of_getElem? this) ha
  have s2 : ∀ i ∈ List.range' (a.length + 1) (c.length + 3), a.length + 3 ≤ i → subAt ⟨(a ++ [46, 46, 46] ++ c).toArray⟩ dots i = false := fun i _ hi => by
    cases hq : subAt ⟨(a ++ [46, 46, 46] ++ c).toArray⟩ dots i with
    | false => rfl
    | true =>
      have := sub_at hq
      rw [List.getElem?_append_right (by simp; omega)] at this
      exact absurd (List.mem_of_getElem? this) hc
  rw [e, run_append, run_skip (List.range' 0 a.length) _ s1, run_hit (by simp) (by simp) (by simp) sub_yes, run_skip _ _ s2]
  rfl
theorem occ_two {a : List Nat} (ha : 46 ∉ a) : occurrences ⟨([46, 46, 46] ++ a ++ [46, 46, 46]).toArray⟩ dots 0 ([46, 46, 46] ++ a ++ [46, 46, 46]).length (([46, 46, 46] ++ a ++ [46, 46, 46]).length + 1) = [0, 3 + a.length] := by
  rw [StrLaws.occ_eq]
  have e : List.range' 0 (([46, 46, 46] ++ a ++ [46, 46, 46]).length + 1 - 0) = 0 :: (List.range' 1 (a.length + 2) ++ (3 + a.length) :: List.range' (4 + a.length) 3) := by
    rw [show ([46, 46, 46] ++ a ++ [46, 46, 46] : List Nat).length + 1 - 0 = 1 + ((a.length + 2) + 4) by simp; omega]
    have r1 : List.range' 0 (1 + ((a.length + 2) + 4)) = List.range' 0 1 ++ List.range' 1 ((a.length + 2) + 4) := (List.range'_append_1 (s := 0) (m := 1) (n := (a.length + 2) + 4)).symm
    have r2 : List.range' 1 ((a.length + 2) + 4) = List.range' 1 (a.length + 2) ++ List.range' (1 + (a.length + 2)) 4 := (List.range'_append_1 (s := 1) (m := a.length + 2) (n := 4)).symm
    have r3 : List.range' (3 + a.length) 4 = (3 + a.length) :: List.range' (4 + a.length) 3 := by
      have : 4 + a.length = 3 + a.length + 1 := by omega
      rw [this]; rfl
    rw [r1, r2, show 1 + (a.length + 2) = 3 + a.length by omega, r3]; rfl
  have h0 : subAt ⟨([46, 46, 46] ++ a ++ [46, 46, 46]).toArray⟩ dots 0 = true := by rw [sub_dots]; rfl
  have h3 : subAt ⟨([46, 46, 46] ++ a ++ [46, 46, 46]).toArray⟩ dots (3 + a.length) = true := by
    have := sub_yes (a := [46, 46, 46] ++ a) (c := [])
    rw [List.append_nil] at this
    rw [show 3 + a.length = ([46, 46, 46] ++ a).length by simp; omega]
    exact this
  have s1 : ∀ i ∈ List.range' 1 (a.length + 2), 0 + 3 ≤ i → subAt ⟨([46, 46, 46] ++ a ++ [46, 46, 46]).toArray⟩ dots i = false := fun i hm hi => by
    cases hq : subAt ⟨([46, 46, 46] ++ a ++ [46, 46, 46]).toArray⟩ dots i with
    | false => rfl
    | true =>
      have := sub_at hq
      have hlt := (List.mem_range'_1.mp hm).2
      rw [List.getElem?_append_left (by simp; omega), List.getElem?_append_right (by simp; omega)] at this
      exact absurd (List.mem_of_getElem? this) ha
  have s2 : ∀ i ∈ List.range' (4 + a.length) 3, 3 + a.length + 3 ≤ i → subAt ⟨([46, 46, 46] ++ a ++ [46, 46, 46]).toArray⟩ dots i = false := fun i hm hi => by
    cases hq : subAt ⟨([46, 46, 46] ++ a ++ [46, 46, 46]).toArray⟩ dots i with
    | false => rfl
    | true =>
      have := sub_at hq
      rw [List.getElem?_append_right (by simp; omega)] at this
      have h9 : ([46, 46, 46] : List Nat)[i - ([46, 46, 46] ++ a).length]? = none := List.getElem?_eq_none (by simp; omega)
      rw [h9] at this; cases this
  rw [e, run_hit (by simp) (by simp) (by simp) h0, run_append, run_skip (List.range' 1 (a.length + 2)) _ s1, run_hit (by simp) (by simp; try omega) (by simp; try omega) h3, run_skip _ _ s2]
  rfl
theorem kind_one (w : PySem.Str) : (decide (w.length < dots.length) || decide (Builtin.Str.strKind w < Builtin.Str.strKind dots)) = decide (w.length < 3) := by
  have h1 : Builtin.Str.strKind dots = 1 := by decide +kernel
  have h2 : 1 ≤ Builtin.Str.strKind w := by unfold Builtin.Str.strKind; split <;> (try split) <;> omega
  rw [h1, dots_len]
  have : decide (Builtin.Str.strKind w < 1) = false := by simp; omega
  rw [this, Bool.or_false]
theorem sub_str {w : List Nat} {i j : Nat} : strSub ⟨w.toArray⟩ i j = ⟨((w.drop i).take (j - i)).toArray⟩ := by
  apply PySem.Str.ext'
  apply Array.toList_inj.mp
  rw [StrLaws.strSub_toList]
theorem split_one {a c : List Nat} (ha : 46 ∉ a) (hc : 46 ∉ c) : Txt.split ⟨(a ++ [46, 46, 46] ++ c).toArray⟩ dots = [⟨a.toArray⟩, ⟨c.toArray⟩] := by
  have hl : (⟨(a ++ [46, 46, 46] ++ c).toArray⟩ : PySem.Str).length = (a ++ [46, 46, 46] ++ c).length := by simp [PySem.Str.length]
  unfold Txt.split
  rw [kind_one, hl, occ_one ha hc, if_neg (by simp; omega), if_neg (by simp), dots_len]
  unfold partsBetween
  simp only [List.map_cons, List.map_nil, List.cons_append, List.nil_append, List.zip_cons_cons, List.zip_nil_right]
  rw [hl, sub_str, sub_str]
  congr 2
  · rw [List.drop_zero, Nat.sub_zero, List.append_assoc, List.take_left]
  · congr 2
    rw [List.drop_append, List.drop_eq_nil_of_le (by simp), List.nil_append]
    simp
    apply List.take_of_length_le; omega
theorem split_two {a : List Nat} (ha : 46 ∉ a) : Txt.split ⟨([46, 46, 46] ++ a ++ [46, 46, 46]).toArray⟩ dots = [PySem.Str.empty, ⟨a.toArray⟩, PySem.Str.empty] := by
  have hl : (⟨([46, 46, 46] ++ a ++ [46, 46, 46]).toArray⟩ : PySem.Str).length = ([46, 46, 46] ++ a ++ [46, 46, 46]).length := by simp [PySem.Str.length]
  unfold Txt.split
  rw [kind_one, hl, occ_two ha, if_neg (by simp; try omega), if_neg (by simp), dots_len]
  show [strSub _ 0 0, strSub _ (0 + 3) (3 + a.length), strSub _ (3 + a.length + 3) (⟨([46, 46, 46] ++ a ++ [46, 46, 46]).toArray⟩ : PySem.Str).length] = _
  rw [hl, sub_str, sub_str, sub_str]
  have e1 : List.take (0 - 0) (List.drop 0 ([46, 46, 46] ++ a ++ [46, 46, 46])) = [] := rfl
  have e2 : List.take (3 + a.length - (0 + 3)) (List.drop (0 + 3) ([46, 46, 46] ++ a ++ [46, 46, 46])) = a := by
    show List.take (3 + a.length - (0 + 3)) (a ++ [46, 46, 46]) = a
    rw [show 3 + a.length - (0 + 3) = a.length by omega, List.take_left]
  have e3 : List.take (([46, 46, 46] ++ a ++ [46, 46, 46]).length - (3 + a.length + 3)) (List.drop (3 + a.length + 3) ([46, 46, 46] ++ a ++ [46, 46, 46])) = [] := by
    rw [List.drop_eq_nil_of_le (by simp; omega), List.take_nil]
  rw [e1, e2, e3]; rfl
theorem in_dots {a c : List Nat} : (!(occurrences ⟨(a ++ [46, 46, 46] ++ c).toArray⟩ dots 0 (⟨(a ++ [46, 46, 46] ++ c).toArray⟩ : PySem.Str).length 1).isEmpty) = true :=
  (StrLaws.found_iff _ _).mpr ⟨a.length, by rw [dots_len]; simp [PySem.Str.length], sub_yes⟩
end
end
section
section
open PyProof.Rows.LCg
variable {prog : Program} {w : World} {A : Around} {E : Value → Shared → Prop} {s : Shared} {h₀ : Heap} {L : Addr} {m : PySem.Str → Option Value} {env : Env}
/-- a comprehension's turns, as many as there are, by what each item is worth -/
theorem crest {elt : Expr} {x : PySem.Str} {scope : Scope} {cl : List (PySem.Str × Addr)} {S : List (Addr × Obj) → Prop} {P R : Nat → Value → Prop} {Fin : List Value → List (Addr × Obj) → Prop} {n : Nat} {news : List (Addr × Obj)} (hS : S news)
    (elem : ∀ (i : Nat) (ys : List Value) v I oI C oC D m₂ h tk (E' : Value → Shared → Prop), i < n → P i v → NsObj oC m₂ → m₂ x = some v → Fr h₀ L h m → News h₀ L h ((I, oI) :: (C, oC) :: (D, lst ys) :: news) → Off3 I C D news → ((@Ne Nat I C) ∧ (@Ne Nat I D) ∧ (@Ne Nat C D)) →
      wpAny (model prog w) A (eval elt (compEnvC scope cl C env)) (fun y s₂ => Stop (R i y ∧ ∃ h' tk', s₂ = { s with heap := h', toks := tk' } ∧ Fr h₀ L h' m ∧ News h₀ L h' ((I, oI) :: (C, oC) :: (D, lst ys) :: news))) E' { s with heap := h, toks := tk })
    (fin : ∀ ys : List Value, ys.length = n → (∀ (i : Nat) y, ys[i]? = some y → R i y) → Fin ys news) :
    CompRest prog w A h₀ L m env elt x scope cl s S P Fin n 0 [] news := by
  have key : ∀ (k i : Nat) (ys : List Value), i + k = n → ys.length = i → (∀ (j : Nat) y, ys[j]? = some y → R j y) → CompRest prog w A h₀ L m env elt x scope cl s S P Fin k i ys news := by
    intro k
    induction k with
    | zero =>
      intro i ys hi hy hr
      exact CompRest.zero (fin ys (by omega) hr)
    | succ k ih =>
      intro i ys hi hy hr
      refine CompRest.succ fun v I oI C oC D m₂ h tk E' hP hC hx F N off ne => ?_
      refine wpAny_mono (elem i ys v I oI C oC D m₂ h tk E' (by omega) hP hC hx F N off ne) (fun y s₂ q => ?_) fun _ _ e => e
      obtain ⟨hry, h', tk', rfl, F', N'⟩ := q
      refine CompEnd.intro (s₁ := { s with heap := h, toks := tk }) F' N' news (fun p hp => hp) off hS (ih (i + 1) (ys ++ [y]) (by omega) (by simp [hy]) ?_)
      intro j z hz
      by_cases hj : j < ys.length
      · rw [List.getElem?_append_left hj] at hz
        exact hr j z hz
      · rw [List.getElem?_append_right (by omega)] at hz
        have : j - ys.length = 0 := by
          cases hq : j - ys.length with
          | zero => rfl
          | succ q => rw [hq] at hz; simp at hz
        rw [this] at hz
        have hz' : y = z := by simpa using hz
        have hji : j = i := by omega
        rw [hji, ← hz']; exact hry
  exact key n 0 [] (by omega) rfl (fun j y h => by simp at h)

theorem str_src {xt : PySem.Str} {tt : Tok} {Q : Value → Shared → Prop}
    (hQ : ∀ (o : Obj) (St : Nat → Heap → Prop), Walks prog w A s.heap.objs.size [s.heap.objs.size] [s.heap.objs.size] xt.cps.size (SignAt xt) St → (∀ i h, St i h → ∃ o, h.get? s.heap.objs.size = some o) → St 0 (s.heap.push o) →
      Q (.ref s.heap.objs.size) { s with heap := s.heap.push o }) (hh : A.handled = none) : wpAny (model prog w) A (pyIter (.str xt tt)) Q E s := by
  cases ha : xt.cps.all (· < 128)
  · exact wpAny_pyIter_wide ha (hQ _ _ (Walks.strWide hh _ xt tt) (fun i h st => let ⟨o, e, _⟩ := st; ⟨o, e⟩) ⟨_, Heap.get?_push_size _ rfl, rfl, rfl⟩)
  · exact wpAny_pyIter_ascii ha (hQ _ _ (Walks.strAscii hh _ xt tt) (fun i h st => let ⟨o, e, _⟩ := st; ⟨o, e⟩) ⟨_, Heap.get?_push_size _ rfl, rfl, rfl⟩)

/-- «y = [elt for x in TEXT]» -/
theorem assign_comp_str {elt iter : Expr} {x y : PySem.Str} {px py : Pos} {scope : Scope} {cl : List (PySem.Str × Addr)} {pos spos : Pos} {Q : Flow → Shared → Prop} (_F₀ : Fr h₀ L s.heap m) (hLe : env.locals = L)
    (hsw : swapsWith (.ListComp elt [⟨.Name x px, iter, [], 0⟩] scope pos) (some (.Name y py)) spos.line env = pure true)
    (hclos : closureFor scope env = pure cl) (hcell : ∀ z ∈ scope.names, z.2 ≠ .cell) (hkind : scope.kind = .function)
    (hnames : ∀ z ∈ scope.names, z.2 = .local → scope.names.lookup z.1 = some .local) (hx : scope.names.lookup x = some .local)
    (hy : env.kindOf y = some .local) (hp : (env.scope.kind == .class || (env.scope.kind == .module && env.locals != env.globals)) = false) (hh : A.handled = none)
    (h : wpAny (model prog w) A (eval iter env) (fun xv s₁ => Stop (∃ (xt : PySem.Str) (tt : Tok) (news : List (Addr × Obj)), xv = .str xt tt ∧ Fr h₀ L s₁.heap m ∧ News h₀ L s₁.heap news ∧ xt.cps.size ≤ sizeLine ∧
      ∀ s₂ : Shared, (∃ h, s₂ = { s₁ with heap := h }) → CompRest prog w A h₀ L m env elt x scope cl s₂ (fun _ => True) (SignAt xt) (FinA h₀ L m s₂ y Q) xt.cps.size 0 [] news)) E s)
    (hs : ∀ x, foldedSetIterable iter env x = pure x := by intro _; rfl) :
    wpAny (model prog w) A (exec (.Assign [.Name y py] (.ListComp elt [⟨.Name x px, iter, [], 0⟩] scope pos) spos) env) Q E s := by
  subst hLe
  rw [exec_Assign_Name_used _ _ _ _ hsw]
  refine wpAny_bind (wpAny_standAt (wpAny_bind ?_))
  show wpAny _ A (do let _ ← comprehension (.ListComp elt [⟨.Name x px, iter, [], 0⟩] scope pos) scope env _ (newList []) false (eval iter env) (some (assign (.Name y py) env))) _ _ s
  refine wpAny_bind (wpAny_mono (wpAny_comprehension_free (use := some (assign (.Name y py) env)) (Q := fun _ s' => Q .next s') rfl hs hclos hkind hnames
    (wpAny_mono h (fun xv s₁ h₁ => ?_) fun _ _ e => e)) (fun _ s' hq => wpAny_pure (wpAny_pure hq)) fun _ _ e => e)
  obtain ⟨xt, tt, news, rfl, F, N, hsz, R⟩ := h₁
  refine str_src (fun o St W hIo hst => ?_) hh
  have up : ∀ b ob, s₁.heap.get? b = some ob → (s₁.heap.push o).get? b = some ob := fun b ob e => Heap.get?_push_of_some _ e
  refine block_U W hsz hIo (fun i g g' ob nw st e e' _ _ _ => W.frame i g g' st fun b hb o' q => ?_) hcell hkind hx hst (fun b hb => ?_) (F.keeps up) (N.grown up) (Nat.ne_of_lt F.ns.lt) (next_is_new F)
    (fun p hp => Nat.ne_of_lt (Heap.lt_size (N p hp).1)) trivial (R _ ⟨_, rfl⟩) ?_
  · rw [List.mem_singleton.mp hb] at q ⊢
    rw [e] at q; rw [e', q]
  · rw [List.mem_singleton.mp hb]
    show s₁.heap.objs.size < (s₁.heap.push _).objs.size
    rw [Heap.size_push]; exact Nat.lt_succ_self _
  · intro D C g tk m' ys news' F' N' o1 hn hC₀ hD₀ hCL hDL hCD offC fin
    show wpAny _ A (assign (.Name y py) env (.ref D)) _ _ _
    refine wpAny_assign_Name (wpAny_storeName_local hy F'.ns (fun h₂ hn₂ hs₂ => ?_) hp)
    have hL₀ : h₀.get? env.locals = none := Heap.get?_none_of_le F'.above
    have F₂ : Fr h₀ env.locals h₂ (fun z => if z = y then some (.ref D) else m z) := ⟨hn₂, fun b o e => hs₂.extBut b o (fun q => by rw [q, hL₀] at e; cases e) (F'.keep b o e), F'.above⟩
    refine ⟨m', hn.sameBut hs₂ hCL, fun h'' hs'' => fin D h'' _ (F₂.change hs'' hCL hC₀) (fun p hp => ?_) o1⟩
    refine ⟨hs''.extBut _ _ ?_ (hs₂.extBut _ _ (N' p hp).2.1 (N' p hp).1), (N' p hp).2⟩
    rcases List.mem_cons.mp hp with rfl | hp
    · exact Ne.symm hCD
    · exact offC p hp
end
end
section
abbrev sgn (t0 t1 t2 : Tok) (c3 : Nat) : Obj := W.listOf #[.str (PySem.Str.ofString "\"") t0, .str (PySem.Str.ofString "a") t1, .str ⟨#[c3]⟩ t2] 0
def dig (c : Nat) : Nat := if c = 34 then 0 else if c = 97 then 1 else 2
def oct (c : Nat) : Int := 64 + (dig c : Int)
theorem ints_of {f : Nat → Int} : ∀ {ys : List Value} {u : List Nat}, ys.length = u.length → (∀ (i : Nat) y, ys[i]? = some y → ∃ c t, u[i]? = some c ∧ y = .int (f c) t) → IntsAre ys (u.map f)
  | [], [], _, _ => .nil
  | y :: ys, c :: u, hl, h => by
    obtain ⟨c', t, hc, rfl⟩ := h 0 y rfl
    have : c = c' := by simpa using hc
    subst this
    exact .cons _ _ (ints_of (by simpa using hl) fun i y hy => h (i + 1) y (by simpa using hy))
section
variable {prog : Program} {w : World} {A : Around} {E : Value → Shared → Prop} {s : Shared}
theorem sgn_method {l : Addr} {t0 t1 t2 : Tok} {c3 : Nat} {pl : Sem Bool} {Q : Value × List Value → Shared → Prop} (hl : s.heap.get? l = some (sgn t0 t1 t2 c3)) (h : Q (.builtin "list.index", [.ref l]) s) :
    wpAny (model prog w) A (getMethod (.ref l) (PySem.Str.ofString "index") pl) Q E s :=
  getMethod_builtin ⟨_, hl, rfl⟩ PySem.F.plainAttrs_list PySem.F.slot_list_index PySem.F.type_list_index (fun a e => by cases e; exact ⟨_, hl, rfl⟩) h
theorem sgn_index {l : Addr} {t0 t1 t2 t : Tok} {c3 c : Nat} {Q : Value → Shared → Prop} (hl : s.heap.get? l = some (sgn t0 t1 t2 c3)) (hc3 : 46 < c3) (hc : c = 34 ∨ c = 97 ∨ c = c3)
    (h : Q (.int (dig c : Nat) s.toks) { s with toks := s.toks + 1 }) : wpAny (model prog w) A (call (.builtin "list.index") [.ref l, .str ⟨#[c]⟩ t]) Q E s := by
  have e34 : ∀ a b : Nat, ((⟨#[a]⟩ : PySem.Str) == ⟨#[b]⟩) = decide (a = b) := fun a b => by
    show decide ((⟨#[a]⟩ : PySem.Str) = ⟨#[b]⟩) = _
    simp
  have hm := MeetsSeq.list_index l #[.str (PySem.Str.ofString "\"") t0, .str (PySem.Str.ofString "a") t1, .str ⟨#[c3]⟩ t2] 0 (.str ⟨#[c]⟩ t)
    (fun y => match y with | .str z _ => z == ⟨#[c]⟩ | _ => false) (fun y hy => by
      simp only [List.mem_toArray, List.mem_cons, List.not_mem_nil, or_false] at hy
      rcases hy with rfl | rfl | rfl <;> exact eqGives_str _ _ _ _) (dig c) (by unfold dig; simp; split <;> (try split) <;> omega) (by unfold dig; split <;> (try split) <;> omega)
      (by
        unfold dig
        by_cases h1 : c = 34
        · subst h1; rfl
        · simp only [if_neg h1]
          by_cases h2 : c = 97
          · subst h2; rfl
          · simp only [if_neg h2]
            obtain rfl : c = c3 := by omega
            show ((⟨#[c]⟩ : PySem.Str) == ⟨#[c]⟩) = true
            rw [e34]; simp)
      (by
        intro m hm hlt
        unfold dig at hlt
        by_cases h1 : c = 34
        · rw [if_pos h1] at hlt; omega
        · rw [if_neg h1] at hlt
          by_cases h2 : c = 97
          · rw [if_pos h2] at hlt
            obtain rfl : m = 0 := by omega
            show ((⟨#[34]⟩ : PySem.Str) == ⟨#[c]⟩) = false
            rw [e34]; simp; omega
          · rw [if_neg h2] at hlt
            have : m = 0 ∨ m = 1 := by omega
            rcases this with rfl | rfl
            · show ((⟨#[34]⟩ : PySem.Str) == ⟨#[c]⟩) = false
              rw [e34]; simp; omega
            · show ((⟨#[97]⟩ : PySem.Str) == ⟨#[c]⟩) = false
              rw [e34]; simp; omega)
  exact call_meets PySem.F.slot_list_index ⟨_, hl, rfl⟩ PySem.F.entry_list_index (PySem.F.args_list_index_2 _ _) hm ⟨hl, h⟩
end
/-- the octets of the text as the law makes them -/
def octB (u : List Nat) : List Int := List.take ((List.map oct u).length - 1) (List.map oct u) ++ [(List.map oct u).getD (-1 + ((List.map oct u).length : Int)).toNat 0 - 64]
def octL (u : List Nat) : List Int := [(octB u).getD (Int.toNat 0) 0 + 128] ++ List.drop 1 (octB u)
def octV (u : List Nat) (j : Nat) (d : Nat) : Int := d + (if j + 1 < u.length then 64 else 0) + (if j = 0 then 128 else 0)
theorem octB_at {u : List Nat} {j c : Nat} (hj : u[j]? = some c) : (octB u)[j]? = some ((dig c : Int) + (if j + 1 < u.length then 64 else 0)) := by
  obtain ⟨hlt, hc⟩ := List.getElem?_eq_some_iff.mp hj
  unfold octB
  rw [List.length_map]
  by_cases h : j + 1 < u.length
  · rw [List.getElem?_append_left (by simp; omega), List.getElem?_take, if_pos (by omega), List.getElem?_map, hj, if_pos h]
    simp [oct]; omega
  · have e : j = u.length - 1 := by omega
    rw [List.getElem?_append_right (by simp; omega), if_neg h]
    have e2 : (-1 + ((u.length : Nat) : Int)).toNat = j := by omega
    have e3 : j - (List.take (u.length - 1) (List.map oct u)).length = 0 := by simp; omega
    rw [e3, e2]
    simp [List.getD_eq_getElem?_getD, List.getElem?_map, hj, oct]; omega
theorem octL_at {u : List Nat} {j c : Nat} (hj : u[j]? = some c) : (octL u)[j]? = some (octV u j (dig c)) := by
  unfold octL octV
  cases j with
  | zero =>
    have := octB_at hj
    simp [List.getD_eq_getElem?_getD, this]
  | succ j =>
    have := octB_at hj
    rw [List.getElem?_append_right (by simp)]
    simp only [List.length_cons, List.length_nil, List.getElem?_drop]
    rw [show 1 + (j + 1 - (0 + 1)) = j + 1 by omega, this]
    simp
theorem dig_le (c : Nat) : dig c = 0 ∨ dig c = 1 ∨ dig c = 2 := by unfold dig; split <;> (try split) <;> simp
theorem octV_63 (u : List Nat) (j c : Nat) : Builtin.bitAnd (octV u j (dig c)) 63 = (dig c : Nat) := by
  unfold octV
  rcases dig_le c with h | h | h <;> rw [h] <;> split <;> split <;> decide
theorem octV_64 (u : List Nat) (j c : Nat) : Builtin.bitAnd (octV u j (dig c)) 64 = if j + 1 < u.length then 64 else 0 := by
  unfold octV
  rcases dig_le c with h | h | h <;> rw [h] <;> split <;> split <;> decide
def numN (l : List Nat) : Nat := l.foldl (fun a c => a * 64 + dig c) 0
theorem numN_snoc (l : List Nat) (c : Nat) : numN (l ++ [c]) = numN l * 64 + dig c := by simp [numN]
theorem numN_from_lt (l : List Nat) : ∀ a k, a < 64 ^ k → l.foldl (fun a c => a * 64 + dig c) a < 64 ^ (k + l.length) := by
  induction l with
  | nil => intro a k h; simpa using h
  | cons c r ih =>
    intro a k h
    have hd : dig c < 64 := by rcases dig_le c with h | h | h <;> omega
    have := ih (a * 64 + dig c) (k + 1) (by rw [Nat.pow_succ]; omega)
    rw [List.foldl_cons, List.length_cons, show k + (r.length + 1) = k + 1 + r.length by omega]
    exact this
theorem numN_lt (l : List Nat) : numN l < 64 ^ l.length := by
  have := numN_from_lt l 0 0 (by decide)
  simpa [numN] using this
theorem or_low (N d : Nat) (hd : d < 64) : Builtin.bitOr ((N * 64 : Nat) : Int) (d : Nat) = ((N * 64 + d : Nat) : Int) := by
  have e : N * 64 ||| d = N * 64 + d := by
    have := Nat.shiftLeft_add_eq_or_of_lt (i := 6) (b := d) (by omega) N
    rw [Nat.shiftLeft_eq] at this
    exact this.symm
  have hb : Builtin.bitOr ((N * 64 : Nat) : Int) (d : Nat) = ((N * 64 ||| d : Nat) : Int) := by
    generalize N * 64 = M
    have n1 : decide (0 ≤ Builtin.bitNot (M : Int)) = false := by unfold Builtin.bitNot; simp; omega
    have n2 : decide (0 ≤ Builtin.bitNot (d : Int)) = false := by unfold Builtin.bitNot; simp; omega
    unfold Builtin.bitOr Builtin.bitAnd
    rw [n1, n2]
    simp only []
    have r : ∀ z : Int, Builtin.bitNot (Builtin.bitNot z) = z := fun z => by unfold Builtin.bitNot; omega
    rw [r, r, r]
    simp
  rw [hb, e]
end
section
abbrev itL (d : Addr) (i : Nat) : Obj := { cls := .type "list_iterator", data := .fields #[.ref d, .int (i : Int) 0] }
section
variable {prog : Program} {w : World} {A : Around} {E : Value → Shared → Prop} {s : Shared} {h₀ : Heap} {L d it : Addr} {m : PySem.Str → Option Value} {news news' : List (Addr × Obj)} {its : Array Value} {n : Nat}
theorem iter_list {Q : Value → Shared → Prop} (F : Fr h₀ L s.heap m) (N : News h₀ L s.heap news) (hm : (d, W.listOf its n) ∈ news)
    (h : ∀ I h', Fr h₀ L h' m → News h₀ L h' ((I, itL d 0) :: news) → (∀ p ∈ news, p.1 < I) → Q (.ref I) { s with heap := h' }) : wpAny (model prog w) A (call (.builtin "iter") [.ref d]) Q E s := by
  have hl : s.heap.IsList d its := ⟨_, (N _ hm).1, rfl, n, rfl⟩
  refine call_function_entry (by decide +kernel) (by decide +kernel) kdk_entry_iter (kdk_args_iter _) ?_
  unfold Builtin.«iter»
  refine wpAny_bind (m := someArgs "iter" 1 2 _) (wpAny_of_eq (a := [Value.ref d]) (by first | rfl | kernel_rfl!) ?_)
  show wpAny _ _ (pyIter (.ref d) >>= _) _ _ _
  refine wpAny_bind (wpAny_pyIter_list hl ?_)
  exact wpAny_pure ⟨_, rfl, h _ _ (F.push _) (News.push F N _ rfl) (fun q hq => Heap.lt_size (N q hq).1)⟩
theorem special_list {i : Nat} {x : Value} {Q : Option Value → Shared → Prop} (ho : s.heap.get? it = some (itL d i)) (hl : s.heap.IsList d its) (hx : its[i]? = some x)
    (hQ : ∀ h', h'.get? it = some (itL d (i + 1)) → Heap.SameBut it s.heap h' → Q (some x) { s with heap := h' }) :
    wpAny (model prog w) A (callSpecial? (.ref it) (PySem.Str.ofString "__next__")) Q E s := by
  obtain ⟨ol, hol, _, nl, hdl⟩ := hl
  have hit : s.heap.IsListIter it d i := ⟨_, ho, rfl, rfl⟩
  refine wpAny_callSpecial?_slot (name := PySem.Str.ofString "__next__") hit.typeIs slot_listiter_next (wpAny_call_entry slot_listiter_next hit.typeIs entry_listiter_next ?_ (args_listiter_next _))
  show wpAny _ _ (field (.ref it) 0 >>= _) _ _ s
  refine wpAny_bind (wpAny_field ho rfl (x := .ref d) rfl ?_)
  show wpAny _ _ (if (Value.ref d == Value.none) = true then _ else _) _ _ s
  rw [if_neg (show ¬ ((Value.ref d == Value.none) = true) from Bool.false_ne_true)]
  show wpAny _ _ (field (.ref it) 1 >>= _) _ _ s
  refine wpAny_bind (wpAny_field ho rfl (x := .int i 0) rfl ?_)
  show wpAny _ _ (seqItems? (.ref d) >>= _) _ _ s
  refine wpAny_bind (wpAny_seqItems hol hdl ?_)
  simp only [Int.toNat_natCast, hx]
  refine wpAny_bind (wpAny_setField ho rfl (by simp) (wpAny_pure ⟨x, rfl, hQ _ ?_ (Heap.SameBut.update ..)⟩))
  have := Heap.get?_update_self (Obj.mapFields (·.setIfInBounds 1 (rawInt ((i : Int) + 1)))) ho rfl
  rw [this]
  rfl
theorem next_int {i : Nat} {ns : List Int} {x : Int} {Q : Value → Shared → Prop} (F : Fr h₀ L s.heap m) (N : News h₀ L s.heap news) (U : Upd it (itL d i) (itL d (i + 1)) news news') (hm : (d, W.listOf its n) ∈ news) (hi : IntsAre its.toList ns) (hx : ns[i]? = some x)
    (h : ∀ t h', Fr h₀ L h' m → News h₀ L h' news' → Q (.int x t) { s with heap := h' }) : wpAny (model prog w) A (call (.builtin "next") [.ref it]) Q E s := by
  obtain ⟨pre, post, rfl, rfl, a, b⟩ := U.split
  have hp := N (it, itL d i) (List.mem_append_right _ (.head _))
  have hl : s.heap.IsList d its := ⟨_, (N _ hm).1, rfl, n, rfl⟩
  obtain ⟨t, hx'⟩ := hi.get i x hx
  have hx' : its[i]? = some (.int x t) := by simpa using hx'
  have hit : s.heap.IsListIter it d i := ⟨_, hp.1, rfl, rfl⟩
  refine call_function_entry (by decide +kernel) (by decide +kernel) kdk_entry_next (kdk_args_next _) ?_
  unfold Builtin.«next»
  refine wpAny_bind (m := someArgs "next" 1 2 _) (wpAny_of_eq (a := [Value.ref it]) (by first | rfl | kernel_rfl!) ?_)
  dsimp only
  refine wpAny_bind (wpAny_specialOf (name := PySem.Str.ofString "__next__") hit.typeIs slot_listiter_next.lookup ?_)
  refine wpAny_ite_split (fun hab => absurd hab (by decide)) (fun _ => ?_)
  refine wpAny_bind (special_list hp.1 hl hx' fun h' ho' hs => ?_)
  exact wpAny_pure ⟨_, rfl, h t h' (F.change hs hp.2.1 hp.2.2) (N.setIn a b hs ho')⟩
theorem and_known {a b r : Int} {t u : Tok} {Q : Value → Shared → Prop} (hr : Builtin.bitAnd a b = r) (h : Q (.int r s.toks) { s with toks := s.toks + 1 }) : wpAny (model prog w) A (binaryOp .BitAnd (.int a t) (.int b u)) Q E s :=
  and_int (by rw [hr]; exact h)
theorem ior_known {a b r : Int} {t u : Tok} {Q : Value → Shared → Prop} (hr : Builtin.bitOr a b = r) (h : Q (.int r s.toks) { s with toks := s.toks + 1 }) : wpAny (model prog w) A (inplaceOp .BitOr (.int a t) (.int b u)) Q E s :=
  ior_int (by rw [hr]; exact h)
theorem shl_six {N : Nat} {t u : Tok} {Q : Value → Shared → Prop} (hN : N < 64 ^ 16) (h : Q (.int ((N * 64 : Nat) : Int) s.toks) { s with toks := s.toks + 1 }) : wpAny (model prog w) A (inplaceOp .LShift (.int (N : Int) t) (.int 6 u)) Q E s := by
  refine ilshift_int (by decide) ?_ ?_
  · have hb : Builtin.Int.intBits (N : Int) ≤ 97 := by
      unfold Builtin.Int.intBits
      split
      · omega
      · have h1 : ((N : Int).natAbs).log2 < 96 := by
          rw [Int.natAbs_natCast]
          rename_i hne
          have h0 : N ≠ 0 := by intro e; subst e; exact hne rfl
          exact (Nat.log2_lt h0).mpr (by have : (64 : Nat) ^ 16 = 2 ^ 96 := by decide
                                         omega)
        omega
    have : (2 : Int) ^ 27 = 134217728 := by decide
    omega
  · have e : (N : Int) * 2 ^ (6 : Int).toNat = ((N * 64 : Nat) : Int) := by
      have : (2 : Int) ^ (6 : Int).toNat = 64 := by decide
      rw [this]; omega
    rw [e]; exact h
end
end
section
def dbl (u : List Nat) : List Nat := u.flatMap fun c => if c = 34 then [34, 34] else [c]
theorem dbl_nil : dbl [] = [] := rfl
theorem dbl_cons (c : Nat) (r : List Nat) : dbl (c :: r) = (if c = 34 then [34, 34] else [c]) ++ dbl r := rfl
theorem dbl_append (a b : List Nat) : dbl (a ++ b) = dbl a ++ dbl b := by simp [dbl]
theorem dbl_le (a : List Nat) : a.length ≤ (dbl a).length := by
  induction a with
  | nil => exact Nat.le_refl _
  | cons c r ih => rw [dbl_cons, List.length_append, List.length_cons]; split <;> simp <;> omega
theorem dbl_eq (l : List Nat) : StrLaws.dbl 34 l = dbl l := by
  induction l with
  | nil => rfl
  | cons k r ih =>
    rw [dbl_cons]
    show (if k = 34 then k :: k :: StrLaws.dbl 34 r else k :: StrLaws.dbl 34 r) = _
    rw [ih]
    by_cases h : k = 34
    · rw [if_pos h, if_pos h, h]; rfl
    · rw [if_neg h, if_neg h]; rfl
theorem dbl_le2 (a : List Nat) : (dbl a).length ≤ 2 * a.length := by
  induction a with
  | nil => exact Nat.le_refl _
  | cons c r ih => rw [dbl_cons, List.length_append, List.length_cons]; split <;> simp <;> omega
theorem lit_dots : PySem.Str.ofString "..." = ⟨[46, 46, 46].toArray⟩ := by decide
theorem lit_257 : PySem.Str.ofString "257 \"" = ⟨[50, 53, 55, 32, 34].toArray⟩ := by decide
theorem lit_told : PySem.Str.ofString "\" told" = ⟨[34, 32, 116, 111, 108, 100].toArray⟩ := by decide
theorem lit_q : PySem.Str.ofString "\"" = ⟨#[34]⟩ := by decide
theorem lit_qq : PySem.Str.ofString "\"\"" = ⟨#[34, 34]⟩ := by decide
def rep (u : List Nat) (n : Nat) : List Nat := (List.replicate n u).flatten
theorem rep_zero (u : List Nat) : rep u 0 = [] := rfl
theorem rep_succ (u : List Nat) (n : Nat) : rep u (n + 1) = u ++ rep u n := by simp [rep, List.replicate_succ]
theorem rep_length (u : List Nat) (n : Nat) : (rep u n).length = n * u.length := by
  induction n with
  | zero => simp [rep_zero]
  | succ n ih => rw [rep_succ, List.length_append, ih, Nat.succ_mul]; omega
theorem rep_nil (n : Nat) : rep [] n = [] := List.length_eq_zero_iff.mp (by rw [rep_length]; simp)
theorem fold_rep (u acc : Array Nat) (n : Nat) : ((List.replicate n u).foldl (· ++ ·) acc).toList = acc.toList ++ rep u.toList n := by
  induction n generalizing acc with
  | zero => simp [rep_zero]
  | succ n ih => rw [List.replicate_succ, List.foldl_cons, ih, rep_succ]; simp
theorem mul_is (u : List Nat) (n : Int) : Txt.mul ⟨u.toArray⟩ n = ⟨(rep u n.toNat).toArray⟩ := by
  unfold Txt.mul
  split
  · rename_i h
    have : n.toNat = 0 := by omega
    rw [this]; rfl
  · split
    · rename_i h
      simp only [Bool.or_eq_true, beq_iff_eq] at h
      rcases h with h | h
      · rw [h]; show _ = (⟨(rep u 1).toArray⟩ : PySem.Str); rw [rep_succ, rep_zero, List.append_nil]
      · have : u = [] := by simpa [PySem.Str.length] using h
        subst this; rw [rep_nil]
    · apply PySem.Str.ext'
      apply Array.toList_inj.mp
      rw [fold_rep]; simp
section
variable {prog : Program} {w : World} {A : Around} {E : Value → Shared → Prop} {s : Shared} {h₀ : Heap} {L : Addr} {m : PySem.Str → Option Value} {news : List (Addr × Obj)} {t u v : Tok} {Q : Value → Shared → Prop}
theorem len_tx {a : List Nat} (hl : a.length ≤ 16777216) (h : Q (.int (a.length : Nat) (s.toks + 1)) { s with toks := s.toks + 1 + 1 }) : wpAny (model prog w) A (call (.builtin "len") [.str ⟨a.toArray⟩ t]) Q E s := by
  have e : (⟨a.toArray⟩ : PySem.Str).length = a.length := by simp [PySem.Str.length]
  refine len_le (by rw [e]; exact hl) ?_
  rw [e]; exact h
theorem mul_tx {a : List Nat} {n : Int} (hl : a.length ≤ 16) (h0 : 0 ≤ n) (hn : n ≤ 16) (h : ∀ t' k, Q (.str ⟨(rep a n.toNat).toArray⟩ t') { s with toks := k }) : wpAny (model prog w) A (binaryOp .Mult (.str ⟨a.toArray⟩ t) (.int n u)) Q E s := by
  refine SB.mul (mulOk_of 16 16 (by simpa [PySem.Str.length] using hl) (by omega) (by omega) (by decide) (by decide)) fun t' k => ?_
  rw [mul_is]; exact h t' k
theorem replace_tx {a : List Nat} (hl : a.length ≤ 1000) (hu : u ≠ 0) (hv : v ≠ 0) (huv : u ≠ v) (h : ∀ t' k, Q (.str ⟨(dbl a).toArray⟩ t') { s with toks := k }) :
    wpAny (model prog w) A (call (.builtin "str.replace") [.str ⟨a.toArray⟩ t, .str (PySem.Str.ofString "\"") u, .str (PySem.Str.ofString "\"\"") v]) Q E s := by
  refine SC.replaceW hu hv huv (by decide) (by simp [PySem.Str.length]; omega) (by decide) fun t' k => ?_
  have e : Txt.replace ⟨a.toArray⟩ (PySem.Str.ofString "\"") (PySem.Str.ofString "\"\"") = ⟨(dbl a).toArray⟩ := by
    rw [lit_q, lit_qq]
    apply PySem.Str.ext'
    apply Array.toList_inj.mp
    rw [StrLaws.replace_double, dbl_eq]
  rw [e]; exact h t' k
theorem pow64 {n : Nat} (hn : n ≤ 16) (h : Q (.int ((64 ^ n : Nat) : Int) s.toks) { s with toks := s.toks + 1 }) : wpAny (model prog w) A (binaryOp .Pow (.int 64 t) (.int (n : Int) u)) Q E s := by
  refine pow_int_small (by omega) (by omega) (by decide) ?_
  have e : (64 : Int) ^ (n : Int).toNat = ((64 ^ n : Nat) : Int) := by simp
  rw [e]; exact h
theorem bits_lt {a : Int} (h : a.natAbs < 2 ^ 100) : Builtin.Int.intBits a ≤ 100 := by
  unfold Builtin.Int.intBits
  split
  · omega
  · rename_i hne
    have h0 : a.natAbs ≠ 0 := by
      intro e
      have : a = 0 := by omega
      exact hne (by simp [this])
    have := (Nat.log2_lt h0).mpr h
    omega
theorem mul_ok {a b : Int} (ha : a.natAbs < 2 ^ 100) (hb : b.natAbs < 2 ^ 100) (h : Q (.int (a * b) s.toks) { s with toks := s.toks + 1 }) : wpAny (model prog w) A (binaryOp .Mult (.int a t) (.int b u)) Q E s := by
  refine mul_int h ?_
  unfold IntMulOk
  have h1 := bits_lt ha
  have h2 := bits_lt hb
  have h3 : Builtin.Int.intTooBig (Builtin.Int.intBits a + Builtin.Int.intBits b) = false := by
    unfold Builtin.Int.intTooBig bitsLine
    have : (2 : Int) ^ 27 = 134217728 := by decide
    simp; omega
  rw [h3]; simp
theorem mul_nat {a b : Nat} (ha : a < 2 ^ 100) (hb : b < 2 ^ 100) (h : Q (.int ((a : Int) * ((b : Int) - 1)) s.toks) { s with toks := s.toks + 1 }) : wpAny (model prog w) A (binaryOp .Mult (.int (a : Int) t) (.int ((b : Int) - 1) u)) Q E s :=
  mul_ok (by omega) (by omega) h
end
section
variable {prog : Program} {w : World} {A : Around} {E : Value → Shared → Prop} {s : Shared} {h₀ : Heap} {L : Addr} {m : PySem.Str → Option Value} {news : List (Addr × Obj)} {t : Tok} {value slice : Expr} {Q : Value → Shared → Prop}
theorem cut_to {a : List Nat} {j : Int} {uj : Tok} (hF : Fr h₀ L s.heap m) (hN : News h₀ L s.heap news) (h0 : 0 ≤ j) (h1 : j ≤ a.length) (h2 : a.length ≤ 1000)
    (h : ∀ h' t' k, Fr h₀ L h' m → News h₀ L h' news → Q (.str ⟨(a.take j.toNat).toArray⟩ t') { s with heap := h', toks := k })
    (hs : subscripted slice false (.str ⟨a.toArray⟩ t) (.ref s.heap.objs.size) = operate [.ref s.heap.objs.size, .str ⟨a.toArray⟩ t] (getItem (.str ⟨a.toArray⟩ t) (.ref s.heap.objs.size)) := by with_unfolding_all rfl)
    (ht : ∀ r, letTemporaryGo value (.str ⟨a.toArray⟩ t) r = pure () := by intro _; with_unfolding_all rfl) :
    wpAny (model prog w) A (subscriptTail value slice (.str ⟨a.toArray⟩ t) (.ref s.heap.objs.size)) Q E { s with heap := s.heap.push { cls := .type "slice", data := .fields #[.none, .int j uj, .none] } } := by
  refine slice_strN_ns hF hN (fun h' t' k F N => ?_) hs ht (by rw [sizeLine_eq]; simp [PySem.Str.length]; omega)
  rw [slice_to h0 (by simpa [PySem.Str.length] using h1)]
  exact h h' t' k F N
theorem cut_from {a : List Nat} {i : Int} {ui : Tok} (hF : Fr h₀ L s.heap m) (hN : News h₀ L s.heap news) (h0 : 0 ≤ i) (h1 : i ≤ a.length) (h2 : a.length ≤ 1000)
    (h : ∀ h' t' k, Fr h₀ L h' m → News h₀ L h' news → Q (.str ⟨(a.drop i.toNat).toArray⟩ t') { s with heap := h', toks := k })
    (hs : subscripted slice false (.str ⟨a.toArray⟩ t) (.ref s.heap.objs.size) = operate [.ref s.heap.objs.size, .str ⟨a.toArray⟩ t] (getItem (.str ⟨a.toArray⟩ t) (.ref s.heap.objs.size)) := by with_unfolding_all rfl)
    (ht : ∀ r, letTemporaryGo value (.str ⟨a.toArray⟩ t) r = pure () := by intro _; with_unfolding_all rfl) :
    wpAny (model prog w) A (subscriptTail value slice (.str ⟨a.toArray⟩ t) (.ref s.heap.objs.size)) Q E { s with heap := s.heap.push { cls := .type "slice", data := .fields #[.int i ui, .none, .none] } } := by
  refine slice_strN_sn hF hN (fun h' t' k F N => ?_) hs ht (by rw [sizeLine_eq]; simp [PySem.Str.length]; omega)
  rw [slice_from h0 (by simpa [PySem.Str.length] using h1)]
  exact h h' t' k F N
theorem cut_last {a : List Nat} {i : Int} {ui : Tok} (hF : Fr h₀ L s.heap m) (hN : News h₀ L s.heap news) (h0 : 0 < i) (h1 : i ≤ a.length) (h2 : a.length ≤ 1000)
    (h : ∀ h' t' k, Fr h₀ L h' m → News h₀ L h' news → Q (.str ⟨(a.drop (a.length - i.toNat)).toArray⟩ t') { s with heap := h', toks := k })
    (hs : subscripted slice false (.str ⟨a.toArray⟩ t) (.ref s.heap.objs.size) = operate [.ref s.heap.objs.size, .str ⟨a.toArray⟩ t] (getItem (.str ⟨a.toArray⟩ t) (.ref s.heap.objs.size)) := by with_unfolding_all rfl)
    (ht : ∀ r, letTemporaryGo value (.str ⟨a.toArray⟩ t) r = pure () := by intro _; with_unfolding_all rfl) :
    wpAny (model prog w) A (subscriptTail value slice (.str ⟨a.toArray⟩ t) (.ref s.heap.objs.size)) Q E { s with heap := s.heap.push { cls := .type "slice", data := .fields #[.int (-i) ui, .none, .none] } } := by
  refine slice_strN_sn hF hN (fun h' t' k F N => ?_) hs ht (by rw [sizeLine_eq]; simp [PySem.Str.length]; omega)
  rw [slice_last h0 (by simpa [PySem.Str.length] using h1)]
  have e : (⟨a.toArray⟩ : PySem.Str).length = a.length := by simp [PySem.Str.length]
  rw [e]
  exact h h' t' k F N
theorem cut_mid {a : List Nat} {i j : Int} {ui uj : Tok} (hF : Fr h₀ L s.heap m) (hN : News h₀ L s.heap news) (h0 : 0 ≤ i) (hij : i ≤ j) (h1 : j ≤ a.length) (h2 : a.length ≤ 1000)
    (h : ∀ h' t' k, Fr h₀ L h' m → News h₀ L h' news → Q (.str ⟨((a.drop i.toNat).take (j - i).toNat).toArray⟩ t') { s with heap := h', toks := k })
    (hs : subscripted slice false (.str ⟨a.toArray⟩ t) (.ref s.heap.objs.size) = operate [.ref s.heap.objs.size, .str ⟨a.toArray⟩ t] (getItem (.str ⟨a.toArray⟩ t) (.ref s.heap.objs.size)) := by with_unfolding_all rfl)
    (ht : ∀ r, letTemporaryGo value (.str ⟨a.toArray⟩ t) r = pure () := by intro _; with_unfolding_all rfl) :
    wpAny (model prog w) A (subscriptTail value slice (.str ⟨a.toArray⟩ t) (.ref s.heap.objs.size)) Q E { s with heap := s.heap.push { cls := .type "slice", data := .fields #[.int i ui, .int j uj, .none] } } := by
  refine slice_strN_ss hF hN (fun h' t' k F N => ?_) hs ht (by rw [sizeLine_eq]; simp [PySem.Str.length]; omega)
  rw [slice_mid h0 hij (by simpa [PySem.Str.length] using h1)]
  exact h h' t' k F N
end
end
local macro_rules | `(tactic| walk_at "my enter") => `(tactic| (refine' codeY ?k1 ?k2 ?k3 ?k5 ?kA ?kF ?kK ?k6 ?k7 ?k8 ?k9 ?kB ?_ ?c2 ?c3 ?c4 ?c5; (case kA => exact rfl); (case kF => exact rfl); (case kK => assumption); (case k1 => k_asm); (case k2 => k_asm); (case k3 => k_asm); (case k5 => k_asm); (case k6 => k_is); (case k7 => k_is); (case k8 => ktr_room); (case k9 => exact BindsTo.of_eq rfl); (case c5 => decide); (case kB => exact locs rfl); (case c2 => exact rfl); (case c3 => exact rfl); (case c4 => exact rfl); k_whole; intro L' h' hL' F' N' B' X' T'; (try dsimp only); (try k_fold)))
local macro_rules | `(tactic| walk_at "call builtin:str.split") => `(tactic| (k_here; (with_reducible show wpAny _ _ (call (Value.builtin "str.split") [Value.str _ _, Value.str _ _]) _ _ _); first
  | (refine split2 (by k_asm) (by k_asm) (by decide) (by assumption) ?_ (by assumption))
  | (refine split3 (by k_asm) (by k_asm) (by decide) (by assumption) ?_ (by assumption))))
local macro_rules | `(tactic| walk_at "compareOp NotIn str str") => `(tactic| (k_here; (refine notin_of ?_ (by assumption))))
local macro_rules | `(tactic| walk_at "exec For Name Name cons nil") => `(tactic| (k_here; (rename Fr _ _ _ _ => lF'); (with_unfolding_all refine' For_turns lF' ?_; k_whole)))
local macro_rules | `(tactic| walk_at "truthy str") => `(tactic| (k_here; (with_reducible show wpAny _ _ (PySem.truthy (PySem.Value.str _ _)) _ _ _); first | refine truthy_yes (by omega) (by omega) ?_ | refine truthy_no (by exact empty_len) ?_))
local macro_rules | `(tactic| walk_at "call builtin:str.find") => `(tactic| (k_here; (with_reducible show wpAny _ _ (call (Value.builtin "str.find") [Value.str _ _, Value.str _ _, Value.int _ _, Value.int _ _]) _ _ _); first | refine call_find_nil (by exact empty_len) (by have hE := empty_len; omega) (by have hE := empty_len; omega) (by omega) ?_ | (refine call_find_all (by have hE := empty_len; omega) (by omega) ?_; intro r' hr' hc') | refine call_find4 ?_))
local macro_rules | `(tactic| walk_at "call builtin:len") => `(tactic| (k_here; (with_reducible show wpAny _ _ (call (Value.builtin "len") [Value.str _ _]) _ _ _); first | refine len_le (by exact empty_le) ?_ | refine len_le (by omega) ?_))
local macro_rules | `(tactic| walk_at "exec While Compare cons nil") => `(tactic| refine Mine.Stop.out ?_)
local macro_rules | `(tactic| walk_at "compareOp Eq str str") => `(tactic| (k_here; (refine eq_known (by assumption) ?_)))
local macro_rules | `(tactic| walk_at "compareOp NotEq str str") => `(tactic| (k_here; (refine ne_known (by assumption) ?_)))
local macro_rules | `(tactic| walk_at "subscriptTail Name Name str int") => `(tactic| (k_here; (with_reducible show wpAny _ _ (subscriptTail _ _ (Value.str _ _) (Value.int _ _)) _ _ _); (refine item_at (by omega) (by assumption) (by omega) ?_)))
local macro_rules | `(tactic| walk_at "binaryOp Add str str") => `(tactic| (k_here; (refine add_tx (by first | exact lit_dots | exact lit_257 | exact lit_told | exact rfl) (by first | exact lit_dots | exact lit_257 | exact lit_told | exact rfl) (by ((try simp only [List.length_cons, List.length_nil, List.length_append, List.length_take, List.length_drop]); omega)) ?_); intro t' k' hk'; (try dsimp only at hk')))
local macro_rules | `(tactic| walk_at "my enterC") => `(tactic| (refine' codeYC ?k1 ?k2 ?k3 ?k5 ?kA ?kF ?kK ?k6 ?k7 ?k8 ?k9 ?kB ?kD ?_ ?c2 ?c3 ?c4; (case kA => exact rfl); (case kF => exact rfl); (case kK => assumption); (case k1 => k_asm); (case k2 => k_asm); (case k3 => k_asm); (case k5 => k_asm); (case k6 => k_is); (case k7 => k_is); (case k8 => ktr_room); (case k9 => exact BindsTo.of_eq rfl); (case kB => exact rfl); (case kD => decide +kernel); (case c2 => exact rfl); (case c3 => exact rfl); (case c4 => exact rfl); k_whole; intro L' h' tk' cells' hL' F' N' Y' B' X' T'; k_cells Y'; (try simp only [List.cons_append, List.nil_append] at N'); (try dsimp only); (try k_fold)))
local macro_rules | `(tactic| walk_at "getMethod ref") => `(tactic| (k_here; (with_reducible show wpAny _ _ (getMethod (Value.ref _) (PySem.Str.ofString "index") _) _ _ _); refine sgn_method (by first | assumption | exact Fr.keep (by assumption) _ _ (by assumption)) ?_))
local macro_rules | `(tactic| walk_at "call builtin:list.index") => `(tactic| (k_here; refine sgn_index (by first | assumption | exact Fr.keep (by assumption) _ _ (by assumption)) (by assumption) (by assumption) ?_))
local macro_rules | `(tactic| walk_at "call builtin:iter") => `(tactic| (k_here; (with_reducible show wpAny _ _ (call (Value.builtin "iter") [Value.ref _]) _ _ _); refine Mine.Stop.out ?_))
local macro_rules | `(tactic| walk_at "call builtin:next") => `(tactic| (k_here; (with_reducible show wpAny _ _ (call (Value.builtin "next") [Value.ref _]) _ _ _); k_dflt (refine' next_int ?F ?N ?U ?m ?i ?x ?_; (case F => k_asm); (case N => k_asm); (case U => k_upd); (case m => k_mem); (case i => assumption); (case x => assumption)); intro t' h' F' N'))
local macro_rules | `(tactic| walk_at "binaryOp BitAnd int int") => `(tactic| (k_here; refine and_known (by assumption) ?_))
local macro_rules | `(tactic| walk_at "inplaceOp BitOr int int") => `(tactic| (k_here; refine ior_known (by assumption) ?_))
local macro_rules | `(tactic| walk_at "inplaceOp LShift int int") => `(tactic| (k_here; refine shl_six (by assumption) ?_))
local macro_rules | `(tactic| walk_at "exec While BinOp cons nil") => `(tactic| refine Mine.Stop.out ?_)
local macro_rules | `(tactic| walk_at "call ref") => `(tactic| (k_here; (with_reducible show wpAny _ _ (call (Value.ref 28) _) _ _ _); refine wpAny_call ?_; k_dflt (refine' code_def ?k1 ?k2 ?k3 ?k4 ?k5 ?kA ?kF ?kK ?k6 ?k7 ?k8 ?k9 ?kB ?_ ?c2 ?c3 ?c4 ?c5; (case kA => exact rfl); (case kF => exact rfl); (case kK => exact rfl); (case k1 => k_asm); (case k2 => k_asm); (case k3 => k_asm); (case k4 => k_asm); (case k5 => k_asm); (case k6 => k_is); (case k7 => k_is); (case k8 => ktr_room); (case k9 => exact BindsTo.of_eq rfl); (case c5 => decide); (case kB => exact locs rfl); (case c2 => exact rfl); (case c3 => exact rfl); (case c4 => exact rfl); k_whole; intro g' L' h' FG' F' N' B' X' T'; (try dsimp only); (try k_lift B'); (try k_fold))))
section
set_option maxHeartbeats 8000000 in
theorem ell_front (w : World) (mean mg mb) (want x y : Str) (tx ty : Tok) (hsp : Txt.split want "..." = [x, Str.empty]) (hin : (!(Builtin.Str.occurrences want "..." 0 want.length 1).isEmpty) = true) (hsz : want.length + 2 ≤ sizeLine) (hx : 0 < x.length) (hxy : x.length ≤ y.length) (hy : y.length ≤ 1000) :
    Cn w mean mg mb 21 [.str want tx, .str y ty] (fun _ => True) (fun _ v _ => v = .bool (Txt.startswith y x)) := by
  have hfill : PySem.Challenge.rw_ty0008_01 = PySem.Challenge.rw_ty0008_01 ∧ Mine.hd.heap_39 = Mine.hd.heap_39 := by k_fill; exact ⟨rfl, rfl⟩
  clear hfill
  w_top off
  unfold Cn
  intros; rename_i hret
  refine wpAny_call ?_
  k_dflt (walk_at "my enter")
  k_steps
  all_goals (try dsimp only)
  all_goals refine hret _ _ _ ?_ (Fr.keep (by assumption))
  all_goals (refine congrArg Value.bool ?_; first | (simp_all; done) | (simp_all; omega))
set_option maxHeartbeats 8000000 in
theorem ell_end (w : World) (mean mg mb) (want x y : Str) (tx ty : Tok) (hsp : Txt.split want "..." = [Str.empty, x]) (hin : (!(Builtin.Str.occurrences want "..." 0 want.length 1).isEmpty) = true) (hsz : want.length + 2 ≤ sizeLine) (hx : 0 < x.length) (hxy : x.length ≤ y.length) (hy : y.length ≤ 1000) :
    Cn w mean mg mb 21 [.str want tx, .str y ty] (fun _ => True) (fun _ v _ => v = .bool (Txt.endswith y x)) := by
  have hfill : PySem.Challenge.rw_ty0008_01 = PySem.Challenge.rw_ty0008_01 ∧ Mine.hd.heap_39 = Mine.hd.heap_39 := by k_fill; exact ⟨rfl, rfl⟩
  clear hfill
  w_top off
  unfold Cn
  intros; rename_i hret
  refine wpAny_call ?_
  k_dflt (walk_at "my enter")
  k_steps
  all_goals (try dsimp only)
  all_goals refine hret _ _ _ ?_ (Fr.keep (by assumption))
  all_goals (refine congrArg Value.bool ?_; first | (simp_all; done) | (simp_all; omega))
set_option maxHeartbeats 8000000 in
theorem ell_twice (w : World) (mean mg mb) (want x z y : Str) (tx ty : Tok) (hsp : Txt.split want "..." = [x, z]) (hin : (!(Builtin.Str.occurrences want "..." 0 want.length 1).isEmpty) = true) (hsz : want.length + 2 ≤ sizeLine) (hx : 0 < x.length) (hz : 0 < z.length) (hy : y.length ≤ 1000) (hx1 : x.length ≤ 1000) (hz1 : z.length ≤ 1000) :
    Cn w mean mg mb 21 [.str want tx, .str y ty] (fun _ => True) (fun _ v _ => v = .bool (Txt.startswith y x && Txt.endswith y z && decide (x.length + z.length ≤ y.length))) := by
  have hfill : PySem.Challenge.rw_ty0008_01 = PySem.Challenge.rw_ty0008_01 ∧ Mine.hd.heap_39 = Mine.hd.heap_39 := by k_fill; exact ⟨rfl, rfl⟩
  clear hfill
  w_top off
  unfold Cn
  intros; rename_i hret
  refine wpAny_call ?_
  k_dflt (walk_at "my enter")
  k_steps
  all_goals (try dsimp only)
  all_goals refine hret _ _ _ ?_ (Fr.keep (by assumption))
  all_goals (refine congrArg Value.bool ?_; first | (simp_all; done) | (simp_all; omega))
set_option maxHeartbeats 8000000 in
theorem ell_within (w : World) (mean mg mb) (want x y : Str) (tx ty : Tok) (hsp : Txt.split want "..." = [Str.empty, x, Str.empty]) (hin : (!(Builtin.Str.occurrences want "..." 0 want.length 1).isEmpty) = true) (hsz : want.length + 2 ≤ sizeLine) (hx : 0 < x.length) (hxy : x.length ≤ y.length) (hy : y.length ≤ 1000) :
    Cn w mean mg mb 21 [.str want tx, .str y ty] (fun _ => True) (fun _ v _ => v = .bool (Txt.contains y x)) := by
  have hfill : PySem.Challenge.rw_ty0008_01 = PySem.Challenge.rw_ty0008_01 ∧ Mine.hd.heap_39 = Mine.hd.heap_39 := by k_fill; exact ⟨rfl, rfl⟩
  clear hfill
  w_top off
  unfold Cn
  intros; rename_i hret
  refine wpAny_call ?_
  k_dflt (walk_at "my enter")
  k_steps
  all_goals (try dsimp only)
  all_goals refine hret _ _ _ ?_ (Fr.keep (by assumption))
  all_goals (refine congrArg Value.bool ?_; first | (simp_all; done) | (simp_all; omega))
end
section
def pre? (a b : List Nat) : Bool := b.take a.length == a
def suf? (a b : List Nat) : Bool := b.drop (b.length - a.length) == a
theorem starts_is {a b : List Nat} (h : a.length ≤ b.length) : Txt.startswith ⟨b.toArray⟩ ⟨a.toArray⟩ = pre? a b := by
  unfold Txt.startswith pre?
  rw [StrLaws.subAt_eq]
  have e : decide (0 + (⟨a.toArray⟩ : PySem.Str).length ≤ (⟨b.toArray⟩ : PySem.Str).length) = true := by simp [PySem.Str.length]; exact h
  rw [e, Bool.true_and]
  simp [PySem.Str.length]
theorem ends_is {a b : List Nat} (h : a.length ≤ b.length) : Txt.endswith ⟨b.toArray⟩ ⟨a.toArray⟩ = suf? a b := by
  unfold Txt.endswith suf?
  rw [StrLaws.subAt_eq]
  have e : decide (0 + (⟨a.toArray⟩ : PySem.Str).length ≤ (⟨b.toArray⟩ : PySem.Str).length) = true := by simp [PySem.Str.length]; exact h
  rw [e, Bool.true_and]
  have e2 : List.take (⟨a.toArray⟩ : PySem.Str).length (List.drop ((⟨b.toArray⟩ : PySem.Str).length - (⟨a.toArray⟩ : PySem.Str).length) b) = b.drop (b.length - a.length) := by
    simp only [PySem.Str.length, List.size_toArray]
    exact List.take_of_length_le (by simp; omega)
  simpa using congrArg (fun l => l == a) e2
theorem em_front (w : World) (mean mg mb) (a b : List Nat) (tx ty : Tok) (ha : 46 ∉ a) (h0 : 0 < a.length) (hab : a.length ≤ b.length) (hb : b.length ≤ 1000) :
    Cn w mean mg mb 21 [.str ⟨(a ++ [46, 46, 46]).toArray⟩ tx, .str ⟨b.toArray⟩ ty] (fun _ => True) (fun _ v _ => v = .bool (pre? a b)) := by
  have hl : ∀ c : List Nat, (⟨c.toArray⟩ : PySem.Str).length = c.length := fun c => by simp [PySem.Str.length]
  have hs := split_one ha (c := []) (by simp)
  have hi := in_dots (a := a) (c := [])
  rw [List.append_nil] at hs hi
  rw [← starts_is hab]
  exact ell_front w mean mg mb _ ⟨a.toArray⟩ _ tx ty hs hi (by rw [hl, sizeLine_eq]; simp; omega) (by rw [hl]; omega) (by rw [hl, hl]; omega) (by rw [hl]; omega)
theorem em_end (w : World) (mean mg mb) (a b : List Nat) (tx ty : Tok) (ha : 46 ∉ a) (h0 : 0 < a.length) (hab : a.length ≤ b.length) (hb : b.length ≤ 1000) :
    Cn w mean mg mb 21 [.str ⟨([46, 46, 46] ++ a).toArray⟩ tx, .str ⟨b.toArray⟩ ty] (fun _ => True) (fun _ v _ => v = .bool (suf? a b)) := by
  have hl : ∀ c : List Nat, (⟨c.toArray⟩ : PySem.Str).length = c.length := fun c => by simp [PySem.Str.length]
  have hs := split_one (a := []) (by simp) ha
  have hi := in_dots (a := []) (c := a)
  rw [List.nil_append] at hs hi
  rw [← ends_is hab]
  exact ell_end w mean mg mb _ ⟨a.toArray⟩ _ tx ty hs hi (by rw [hl, sizeLine_eq]; simp; omega) (by rw [hl]; omega) (by rw [hl, hl]; omega) (by rw [hl]; omega)
def two? (a c b : List Nat) : Bool := Txt.startswith ⟨b.toArray⟩ ⟨a.toArray⟩ && Txt.endswith ⟨b.toArray⟩ ⟨c.toArray⟩ && decide (a.length + c.length ≤ b.length)
theorem em_twice (w : World) (mean mg mb) (a c b : List Nat) (tx ty : Tok) (ha : 46 ∉ a) (hc : 46 ∉ c) (h0 : 0 < a.length) (h1 : 0 < c.length) (h2 : a.length ≤ 1000) (h3 : c.length ≤ 1000) (hb : b.length ≤ 1000) :
    Cn w mean mg mb 21 [.str ⟨(a ++ [46, 46, 46] ++ c).toArray⟩ tx, .str ⟨b.toArray⟩ ty] (fun _ => True) (fun _ v _ => v = .bool (two? a c b)) := by
  have hl : ∀ c : List Nat, (⟨c.toArray⟩ : PySem.Str).length = c.length := fun c => by simp [PySem.Str.length]
  have := ell_twice w mean mg mb _ ⟨a.toArray⟩ ⟨c.toArray⟩ ⟨b.toArray⟩ tx ty (split_one ha hc) in_dots (by rw [hl, sizeLine_eq]; simp; omega) (by rw [hl]; omega) (by rw [hl]; omega) (by rw [hl]; omega) (by rw [hl]; omega) (by rw [hl]; omega)
  rw [hl, hl, hl] at this
  exact this
theorem em_within (w : World) (mean mg mb) (a b : List Nat) (tx ty : Tok) (ha : 46 ∉ a) (h0 : 0 < a.length) (hab : a.length ≤ b.length) (hb : b.length ≤ 1000) :
    Cn w mean mg mb 21 [.str ⟨([46, 46, 46] ++ a ++ [46, 46, 46]).toArray⟩ tx, .str ⟨b.toArray⟩ ty] (fun _ => True) (fun _ v _ => v = .bool (Txt.contains ⟨b.toArray⟩ ⟨a.toArray⟩)) := by
  have hl : ∀ c : List Nat, (⟨c.toArray⟩ : PySem.Str).length = c.length := fun c => by simp [PySem.Str.length]
  have hi := in_dots (a := []) (c := a ++ [46, 46, 46])
  rw [List.nil_append, ← List.append_assoc] at hi
  exact ell_within w mean mg mb _ ⟨a.toArray⟩ _ tx ty (split_two ha) hi (by rw [hl, sizeLine_eq]; simp; omega) (by rw [hl]; omega) (by rw [hl, hl]; omega) (by rw [hl]; omega)
theorem use_cn {w : World} {mean mg mb} {f : Addr} {vs : List Value} {G : Shared → Prop} {R : Shared → Value → Heap → Prop} (C : Cn w mean mg mb f vs G R)
    {dp un : Nat} {gd : Option (List Code)} {cn : PySem.Str} {cs : Scope} {a : Addr} {ccd : Value} {cl : List (PySem.Str × Addr)} {outer : List Env} {A₀ : Around} {base h₀ : Heap} {L : Addr} {m : PySem.Str → Option Value} {s : Shared} {Q E : Value → Shared → Prop} {news : List (Addr × Obj)}
    (B : Below A₀ base outer h₀) (F : Fr h₀ L s.heap m) (X : (Mine.hd.heap_39 w.params).In h₀) (T : Top Mine.hd.view_39 (looseW Mine.hd.view_39 []) mean mg mb h₀) (N : News h₀ L s.heap news) (hk : cs.kind = .function) (hG : G s) (hd : dp + 4 < recursionLimit) (hu : un + 40 < cLine)
    (h : ∀ v h' tk', R s v h' → (∀ b o, s.heap.get? b = some o → h'.get? b = some o) → Fr h₀ L h' m → News h₀ L h' news → Q v { s with heap := h', toks := tk' }) :
    wpAny (model Pg w) (ktrTop dp un gd cn cs L a ccd cl outer) (call (.ref f) vs) Q E s :=
  C _ _ _ _ _ _ _ _ _ _ _ _ _ _ _ _ _ B F X T hk hG hd hu fun v h' tk' hR hk' => h v h' tk' hR hk' (F.keeps hk') (N.grown hk')
end
section
theorem lk_cons {β : Type} (z k : PySem.Str) (v : β) (r : List (PySem.Str × β)) : List.lookup z ((k, v) :: r) = if z = k then some v else List.lookup z r := by
  rw [List.lookup_cons]
  by_cases h : z = k
  · subst h; simp
  · have : (z == k) = false := by simpa using h
    rw [this, if_neg h]
theorem lk_nil {β : Type} (z : PySem.Str) : List.lookup z ([] : List (PySem.Str × β)) = none := rfl
theorem fr_congr {h₀ h : Heap} {L : Addr} {m m' : PySem.Str → Option Value} (e : ∀ z, m z = m' z) (F : Fr h₀ L h m) : Fr h₀ L h m' := by
  have : m = m' := funext e
  rw [← this]; exact F
def DivM (a : Int) (ta : Tok) (b : Int) (tb : Tok) : PySem.Str → Option Value := fun z => if z = PySem.Str.ofString "size" then some (.int a ta) else if z = PySem.Str.ofString "rest" then some (.int b tb) else none
set_option maxHeartbeats 8000000 in
theorem divisor (w : World) (mean mg mb) (x y : Nat) (tx ty : Tok) :
    Cn w mean mg mb 72 [.int x tx, .int y ty] (fun _ => True) (fun _ v _ => ∃ t, v = .int (Nat.gcd x y : Nat) t) := by
  have hfill : PySem.Challenge.rw_ty0008_01 = PySem.Challenge.rw_ty0008_01 ∧ Mine.hd.heap_39 = Mine.hd.heap_39 := by k_fill; exact ⟨rfl, rfl⟩
  clear hfill
  w_top off
  unfold Cn
  intros; rename_i hret
  refine wpAny_call ?_
  k_dflt (walk_at "my enter")
  k_steps
  unfold Stop
  refine While_inv2 (fun n m nx => ∃ a b : Nat, ∃ ta tb, n = b ∧ Nat.gcd a b = Nat.gcd x y ∧ m = DivM a ta b tb ∧ nx = []) (n₀ := y) (m := DivM x tx y ty) (news := []) (fr_congr ?_ (by assumption)) (by assumption) ⟨x, y, tx, ty, rfl, rfl, rfl, rfl⟩ ?_
  · intro z
    show List.lookup z [(PySem.Str.ofString "rest", _), (PySem.Str.ofString "size", _)] = _
    rw [lk_cons, lk_cons, lk_nil]
    unfold DivM
    by_cases h1 : z = PySem.Str.ofString "size"
    · subst h1; with_unfolding_all rfl
    · simp only [if_neg h1]
  · rintro n m₁ news₁ h₁ tk₁ F₁ N₁ ⟨a, b, ta, tb, rfl, hg, rfl, rfl⟩
    k_steps
    · have ef : (a : Int).fmod (n : Int) = ((a % n : Nat) : Int) := by rw [Int.fmod_eq_emod_of_nonneg _ (by omega)]; rfl
      rename_i hpos9 tk9 D9 h39 l19 h29 h19 h09 F9 N9
      rw [ef] at F9
      refine ⟨_, _, DivM n tb (a % n : Nat) tk9, [], a % n, rfl, fr_congr (fun z => ?_) F9, News.nil, ?_, n, a % n, _, _, rfl, ?_, rfl, rfl⟩
      · unfold DivM
        by_cases h1 : z = PySem.Str.ofString "size"
        · subst h1; with_unfolding_all rfl
        · by_cases h2 : z = PySem.Str.ofString "rest"
          · subst h2; with_unfolding_all rfl
          · simp only [if_neg h1, if_neg h2]
      · exact Nat.mod_lt _ (by omega)
      · rw [← hg, Nat.gcd_comm n, ← Nat.gcd_rec, Nat.gcd_comm]
    · refine hret _ _ _ ⟨ta, ?_⟩ (Fr.keep (by assumption))
      have hn : n = 0 := by omega
      subst hn
      rw [Nat.gcd_zero_right] at hg
      rw [hg]
end
section
abbrev nC := PySem.Str.ofString "c"
abbrev nN := PySem.Str.ofString "n"
abbrev nI := PySem.Str.ofString "i"
abbrev nD := PySem.Str.ofString "dirname"
abbrev nR := PySem.Str.ofString "resp"
def ParJ (x : PySem.Str) (tx : Tok) (u : List Nat) (n : Nat) (m : PySem.Str → Option Value) (nx : List (Addr × Obj)) : Prop :=
  ∃ a b : List Nat, n = b.length ∧ u = a ++ b ∧ nx = [] ∧ (∃ t, m nI = some (.int (5 + (dbl a).length : Nat) t)) ∧ (∃ t, m nD = some (.str ⟨a.toArray⟩ t)) ∧ (∃ t, m nN = some (.int x.length t)) ∧ m nR = some (.str x tx)
set_option maxHeartbeats 8000000 in
theorem parse257 (w : World) (mean mg mb) (x : PySem.Str) (u : List Nat) (tx : Tok) (hl : x.length ≤ 1000) (hx : x.cps.toList = [50, 53, 55, 32, 34] ++ (dbl u ++ [34, 32, 116, 111, 108, 100])) :
    Cn w mean mg mb 60 [.str x tx] (fun _ => True) (fun _ v _ => ∃ t, v = .str ⟨u.toArray⟩ t) := by
  have hfill : PySem.Challenge.rw_ty0008_01 = PySem.Challenge.rw_ty0008_01 ∧ Mine.hd.heap_39 = Mine.hd.heap_39 := by k_fill; exact ⟨rfl, rfl⟩
  clear hfill
  w_top off
  have hlen : x.length = 11 + (dbl u).length := by
    have := congrArg List.length hx
    simp at this
    simp [PySem.Str.length]; omega
  have hs1 : (Txt.slice x none (some 3) == PySem.Str.ofString "257") = true := by
    rw [slice_to (by omega) (by omega), hx]; rfl
  have hs2 : (Txt.slice x (some 3) (some 5) == PySem.Str.ofString " \"") = true := by
    rw [slice_mid (by omega) (by omega) (by omega), hx]; rfl
  unfold Cn
  intros; rename_i hret
  refine wpAny_call ?_
  k_dflt (walk_at "my enter")
  k_steps
  unfold Stop
  rename Fr _ _ _ _ => FF
  rename News _ _ _ _ => NN
  refine While_inv2 (ParJ x tx u) (n₀ := u.length) FF NN ⟨[], u, rfl, rfl, rfl, ⟨_, by with_unfolding_all rfl⟩, ⟨_, by with_unfolding_all rfl⟩, ⟨_, by with_unfolding_all rfl⟩, by with_unfolding_all rfl⟩ ?_
  clear FF NN
  rintro n m₁ news₁ h₁ tk₁ F₁ N₁ ⟨a, b, rfl, rfl, rfl, ⟨ti, hi⟩, ⟨td, hd⟩, ⟨tn, hn⟩, hr⟩
  have F₂ := fr_congr (m' := fun z => if z = nI then some (.int (5 + (dbl a).length : Nat) ti) else if z = nD then some (.str ⟨a.toArray⟩ td) else if z = nN then some (.int x.length tn) else if z = nR then some (.str x tx) else m₁ z) (fun z => by
    by_cases h1 : z = nI
    · rw [if_pos h1, h1, hi]
    rw [if_neg h1]
    by_cases h2 : z = nD
    · rw [if_pos h2, h2, hd]
    rw [if_neg h2]
    by_cases h3 : z = nN
    · rw [if_pos h3, h3, hn]
    rw [if_neg h3]
    by_cases h4 : z = nR
    · rw [if_pos h4, h4, hr]
    rw [if_neg h4]) F₁
  clear F₁ hi hd hn hr
  have hx2 : ∀ k, x.cps.toList[5 + (dbl a).length + k]? = (dbl b ++ [34, 32, 116, 111, 108, 100])[k]? := by
    intro k
    rw [hx, dbl_append, List.append_assoc, ← List.append_assoc, List.getElem?_append_right (by simp; omega)]
    congr 1
    simp; omega
  rw [dbl_append, List.length_append] at hlen
  have hal := dbl_le a
  obtain ⟨i, hie⟩ : ∃ i : Int, i = ((5 + (dbl a).length : Nat) : Int) := ⟨_, rfl⟩
  rw [← hie] at F₂
  rcases b with _ | ⟨c, b'⟩
  · have g0 : x.cps.toList[i.toNat]? = some 34 := by
      have := hx2 0
      have e : i.toNat = 5 + (dbl a).length + 0 := by omega
      rw [e, this]; rfl
    have g1 : x.cps.toList[(i + 1).toNat]? = some 32 := by
      have := hx2 1
      have e : (i + 1).toNat = 5 + (dbl a).length + 1 := by omega
      rw [e, this]; rfl
    have q0 : ((⟨#[34]⟩ : PySem.Str) == PySem.Str.ofString "\"") = true := by decide
    have q1 : ((⟨#[32]⟩ : PySem.Str) == PySem.Str.ofString "\"") = false := by decide
    k_steps
    dsimp only [WhileStep2]
    k_steps
    exact hret _ _ _ ⟨_, by rw [List.append_nil]⟩ (Fr.keep (by assumption))
  · have q9 : ((⟨#[c]⟩ : PySem.Str) == PySem.Str.ofString "\"") = decide (c = 34) := by
      show decide ((⟨#[c]⟩ : PySem.Str) = ⟨#[34]⟩) = _
      simp
    rw [dbl_cons] at hx2 hlen
    by_cases hc : c = 34
    · rw [if_pos hc] at hx2 hlen
      rw [decide_eq_true hc] at q9
      have g0 : x.cps.toList[i.toNat]? = some c := by
        have := hx2 0
        have e : i.toNat = 5 + (dbl a).length + 0 := by omega
        rw [e, this, hc]; rfl
      have g1 : x.cps.toList[(i + 1).toNat]? = some c := by
        have := hx2 1
        have e : (i + 1).toNat = 5 + (dbl a).length + 1 := by omega
        rw [e, this, hc]; rfl
      simp only [List.length_append, List.length_cons, List.length_nil] at hlen
      k_steps
      have ei : (5 + (dbl (a ++ [c])).length : Nat) = i + 1 + 1 := by
        rw [dbl_append, dbl_cons, if_pos hc, dbl_nil]; simp only [List.length_append, List.length_cons, List.length_nil]; omega
      refine ⟨_, _, _, [], b'.length, rfl, by assumption, News.nil, by simp, a ++ [c], b', rfl, by simp, rfl, ⟨_, by rw [ei]; with_unfolding_all rfl⟩, ⟨_, by with_unfolding_all rfl⟩, ⟨_, by with_unfolding_all rfl⟩, by with_unfolding_all rfl⟩
    · rw [if_neg hc] at hx2 hlen
      rw [decide_eq_false hc] at q9
      have g0 : x.cps.toList[i.toNat]? = some c := by
        have := hx2 0
        have e : i.toNat = 5 + (dbl a).length + 0 := by omega
        rw [e, this]; rfl
      simp only [List.length_append, List.length_cons, List.length_nil] at hlen
      k_steps
      have ei : (5 + (dbl (a ++ [c])).length : Nat) = i + 1 := by
        rw [dbl_append, dbl_cons, if_neg hc, dbl_nil]; simp only [List.length_append, List.length_cons, List.length_nil]; omega
      refine ⟨_, _, _, [], b'.length, rfl, by assumption, News.nil, by simp, a ++ [c], b', rfl, by simp, rfl, ⟨_, by rw [ei]; with_unfolding_all rfl⟩, ⟨_, by with_unfolding_all rfl⟩, ⟨_, by with_unfolding_all rfl⟩, by with_unfolding_all rfl⟩
end
section
local macro_rules | `(tactic| walk_at "exec Assign cons ListComp") => `(tactic| (k_here; k_dflt (refine assign_comp_str (by k_asm) (by rfl) (by with_unfolding_all rfl) (by with_unfolding_all rfl) (by decide) (by rfl) (by decide) (by rfl) (by rfl) (by rfl) (by rfl) ?_)))
abbrev nIt := PySem.Str.ofString "iterator"
abbrev nB := PySem.Str.ofString "b"
abbrev nV := PySem.Str.ofString "val"
def VarJ (u : List Nat) (I : Addr) (n : Nat) (m : PySem.Str → Option Value) (nx : List (Addr × Obj)) : Prop :=
  ∃ (j c : Nat) (D : Addr) (ws : List Value), n = u.length - j ∧ u[j]? = some c ∧ IntsAre ws (octL u) ∧ @Ne Nat I D ∧ nx = [(I, itL D (j + 1)), (D, W.listOf ws.toArray 0)] ∧ m nIt = some (.ref I) ∧
    (∃ t, m nB = some (.int (octV u j (dig c)) t)) ∧ (∃ t, m nV = some (.int (numN (u.take (j + 1)) : Nat) t))
set_option maxHeartbeats 8000000 in
theorem number (w : World) (mean mg mb) (u : List Nat) (c3 : Nat) (l : Addr) (tx t0 t1 t2 : Tok) (hl : u.length ≤ 16) (h1 : 0 < u.length) (hc3 : 46 < c3) (hu : ∀ c ∈ u, c = 34 ∨ c = 97 ∨ c = c3) :
    Cn w mean mg mb 65 [.str ⟨u.toArray⟩ tx, .ref l] (fun s => s.heap.get? l = some (sgn t0 t1 t2 c3)) (fun _ v _ => ∃ t, v = .int (numN u : Nat) t) := by
  have hfill : PySem.Challenge.rw_ty0008_01 = PySem.Challenge.rw_ty0008_01 ∧ Mine.hd.heap_39 = Mine.hd.heap_39 := by k_fill; exact ⟨rfl, rfl⟩
  clear hfill
  w_top off
  unfold Cn
  intros; rename_i hG _ _ hret
  refine wpAny_call ?_
  k_dflt (walk_at "my enterC")
  k_steps
  unfold Stop
  rename Fr _ _ _ _ => FF
  rename News _ _ _ _ => NN
  refine ⟨_, _, _, rfl, FF, NN, by rw [sizeLine_eq]; simp; omega, fun s₂ hs₂ => ?_⟩
  obtain ⟨h9, rfl⟩ := hs₂
  refine crest trivial (R := fun i y => ∃ c t, u[i]? = some c ∧ y = .int (oct c) t) ?_ ?_
  · clear FF NN
    intro i ys v I oI C oC D m₂ h tk E' hi hP hC hx F N off ne
    obtain ⟨c, tc, hc, rfl⟩ := hP
    have hcu : c = 34 ∨ c = 97 ∨ c = c3 := hu c (List.mem_of_getElem? (by simpa using hc))
    k_steps
    exact ⟨⟨c, _, by simpa using hc, rfl⟩, h, _, rfl, F, N⟩
  · intro ys hlen hys
    have hI := ints_of (f := oct) (u := u) (by simpa using hlen) hys
    clear hlen hys FF NN
    have hlm : (u.map oct).length = u.length := List.length_map ..
    k_steps
    unfold Stop
    rename IntsAre _ _ => hO
    have hO : IntsAre _ (octL u) := hO
    obtain ⟨c0, hc0⟩ : ∃ c, u[0]? = some c := ⟨u[0], by simp⟩
    have hx0 := octL_at hc0
    have hb0 := octV_63 u 0 c0
    k_dflt (refine' iter_list ?F ?N ?m ?_; (case F => k_asm); (case N => k_asm); (case m => k_mem))
    intro I h' F' N' l1
    k_lt l1
    k_steps
    unfold Stop
    rename Fr _ _ _ _ => FF
    rename News _ _ _ _ => NN
    obtain ⟨l11, _⟩ := l1
    have e1 : numN (u.take (0 + 1)) = dig c0 := by
      have : u.take 1 = [c0] := by
        rw [List.take_one, List.head?_eq_getElem?, hc0]; rfl
      rw [Nat.zero_add, this]; simp [numN]
    refine While_inv2 (VarJ u I) (n₀ := u.length - 0) FF (cb_drop NN (List.forall_mem_cons.mpr ⟨.head _, List.forall_mem_cons.mpr ⟨.tail _ (.head _), List.forall_mem_nil _⟩⟩)) ⟨0, c0, _, _, rfl, hc0, hO, Nat.ne_of_gt l11, rfl, by with_unfolding_all rfl, ⟨_, by with_unfolding_all rfl⟩, ⟨_, by rw [e1]; with_unfolding_all rfl⟩⟩ ?_
    clear FF NN
    rintro n m₁ news₁ h₁ tk₁ F₁ N₁ ⟨j, c, D, ws, rfl, hc, hO, hID, rfl, hi, ⟨tb, hb⟩, ⟨tv, hv⟩⟩
    have F₂ := fr_congr (m' := fun z => if z = nIt then some (.ref I) else if z = nB then some (.int (octV u j (dig c)) tb) else if z = nV then some (.int (numN (u.take (j + 1)) : Nat) tv) else m₁ z) (fun z => by
      by_cases h1 : z = nIt
      · rw [if_pos h1, h1, hi]
      rw [if_neg h1]
      by_cases h2 : z = nB
      · rw [if_pos h2, h2, hb]
      rw [if_neg h2]
      by_cases h3 : z = nV
      · rw [if_pos h3, h3, hv]
      rw [if_neg h3]) F₁
    clear F₁ hi hb hv
    have h64 := octV_64 u j c
    obtain ⟨hjl, _⟩ := List.getElem?_eq_some_iff.mp hc
    by_cases hj : j + 1 < u.length
    · rw [if_pos hj] at h64
      obtain ⟨c', hc'⟩ : ∃ c', u[j + 1]? = some c' := ⟨u[j + 1], by simp [hj]⟩
      have hx' := octL_at hc'
      have hb' := octV_63 u (j + 1) c'
      have hd' : dig c' < 64 := by rcases dig_le c' with h | h | h <;> omega
      have hor := or_low (numN (u.take (j + 1))) (dig c') hd'
      have hN : numN (u.take (j + 1)) < 64 ^ 16 := Nat.lt_of_lt_of_le (numN_lt _) (Nat.pow_le_pow_right (by decide) (by simp; omega))
      have hst : numN (u.take (j + 1)) * 64 + dig c' = numN (u.take (j + 1 + 1)) := by
        rw [← numN_snoc, List.take_add_one (i := j + 1), hc']; rfl
      rw [hst] at hor
      k_steps
      rename News _ _ _ _ => NN
      refine ⟨_, _, _, _, u.length - (j + 1), rfl, by assumption, NN, by omega, j + 1, c', D, ws, rfl, hc', hO, hID, rfl, by with_unfolding_all rfl, ⟨_, by with_unfolding_all rfl⟩, ⟨_, by with_unfolding_all rfl⟩⟩
    · rw [if_neg hj] at h64
      k_steps
      refine hret _ _ _ ⟨tv, ?_⟩ (Fr.keep (by assumption))
      rw [List.take_of_length_le (by omega)]
end
section
theorem nd_take {l : List Nat} {n : Nat} (h : 46 ∉ l) : 46 ∉ l.take n := fun q => h (List.mem_of_mem_take q)
theorem nd_drop {l : List Nat} {n : Nat} (h : 46 ∉ l) : 46 ∉ l.drop n := fun q => h (List.mem_of_mem_drop q)
theorem nd_rep {l : List Nat} {n : Nat} (h : 46 ∉ l) : 46 ∉ rep l n := fun q => by
  unfold rep at q
  obtain ⟨l', h1, h2⟩ := List.mem_flatten.mp q
  rw [(List.mem_replicate.mp h1).2] at h2
  exact h h2
theorem parse_tx (w : World) (mean mg mb) (u : List Nat) (tx : Tok) (hl : (dbl u).length ≤ 900) :
    Cn w mean mg mb 60 [.str ⟨([50, 53, 55, 32, 34] ++ dbl u ++ [34, 32, 116, 111, 108, 100]).toArray⟩ tx] (fun _ => True) (fun _ v _ => ∃ t, v = .str ⟨u.toArray⟩ t) :=
  parse257 w mean mg mb _ u tx (by simp [PySem.Str.length]; omega) (by simp)
abbrev CnT (w : World) (mean : ExcName → Option Value) (mg mb : PySem.Str → Option Value) (f : Addr) (vs : List Value) (G : Shared → Prop) (R : Shared → Value → Heap → Prop) : Prop :=
  ∀ (dp un : Nat) (gd : Option (List Code)) (cn : PySem.Str) (cs : Scope) (a : Addr) (ccd : Value) (cl : List (PySem.Str × Addr)) (outer : List Env) (A₀ : Around) (base h₀ : Heap) (L : Addr) (m : PySem.Str → Option Value) (s : Shared) (Q E : Value → Shared → Prop),
    Below A₀ base outer h₀ → Fr h₀ L s.heap m → (Mine.hd.heap_39 w.params).In h₀ → Top Mine.hd.view_39 (looseW Mine.hd.view_39 []) mean mg mb h₀ → cs.kind = .function →
    G s → dp + 12 < recursionLimit → un + 100 < cLine →
    (∀ v h' tk', R s v h' → (∀ b o, s.heap.get? b = some o → h'.get? b = some o) → Q v { s with heap := h', toks := tk' }) →
      wpAny (model Pg w) (ktrTop dp un gd cn cs L a ccd cl outer) (call (.ref f) vs) Q E s
theorem use_cnT {w : World} {mean mg mb} {f : Addr} {vs : List Value} {G : Shared → Prop} {R : Shared → Value → Heap → Prop} (C : CnT w mean mg mb f vs G R)
    {dp un : Nat} {gd : Option (List Code)} {cn : PySem.Str} {cs : Scope} {a : Addr} {ccd : Value} {cl : List (PySem.Str × Addr)} {outer : List Env} {A₀ : Around} {base h₀ : Heap} {L : Addr} {m : PySem.Str → Option Value} {s : Shared} {Q E : Value → Shared → Prop} {news : List (Addr × Obj)}
    (B : Below A₀ base outer h₀) (F : Fr h₀ L s.heap m) (X : (Mine.hd.heap_39 w.params).In h₀) (T : Top Mine.hd.view_39 (looseW Mine.hd.view_39 []) mean mg mb h₀) (N : News h₀ L s.heap news) (hk : cs.kind = .function) (hG : G s) (hd : dp + 12 < recursionLimit) (hu : un + 100 < cLine)
    (h : ∀ v h' tk', R s v h' → (∀ b o, s.heap.get? b = some o → h'.get? b = some o) → Fr h₀ L h' m → News h₀ L h' news → Q v { s with heap := h', toks := tk' }) :
    wpAny (model Pg w) (ktrTop dp un gd cn cs L a ccd cl outer) (call (.ref f) vs) Q E s :=
  C _ _ _ _ _ _ _ _ _ _ _ _ _ _ _ _ _ B F X T hk hG hd hu fun v h' tk' hR hk' => h v h' tk' hR hk' (F.keeps hk') (N.grown hk')
section
variable {M : Model} {A : Around} {E : Value → Shared → Prop} {s : Shared} {env : Env}
theorem execs_toks {st : Stmt} {rest : List Stmt} {Q : Flow → Shared → Prop} (h1 : 1 ≤ s.toks)
    (h : wpAny M A (exec st env) (fun f s' => Stop (1 ≤ s'.toks → (match f with | .next => wpAny M A (execs rest env) Q E s' | f => Q f s'))) E s) : wpAny M A (execs (st :: rest) env) Q E s := by
  refine wpAny_execs_cons ?_
  refine wpAny_mono (wpAny_toks_of h1 h) (fun f s' q => ?_) fun _ _ q => q.2
  exact q.2 q.1
end
end
local macro_rules | `(tactic| walk_at "my nd") => `(tactic| (repeat (first | assumption | refine nd_take ?_ | refine nd_drop ?_ | refine nd_rep ?_)))
local macro_rules | `(tactic| walk_at "my len") => `(tactic| ((try simp only [List.length_take, List.length_drop, List.length_append, List.length_cons, List.length_nil]); omega))
local macro_rules | `(tactic| walk_at "my use") => `(tactic| ((case B => k_asm); (case F => k_asm); (case X => k_asm); (case T => k_asm); (case N => k_asm); (case hk => first | exact rfl | assumption); (case hG => first | trivial | assumption | exact Fr.keep (by assumption) _ _ (by assumption)); (case hd => ktr_room); (case hu => ktr_units)))
local macro_rules | `(tactic| walk_at "call ref") => `(tactic| (k_here; (with_reducible show wpAny _ _ (call (Value.ref 60) _) _ _ _); k_dflt (refine' use_cn (parse_tx _ _ _ _ _ _ ?hl) ?B ?F ?X ?T ?N ?hk ?hG ?hd ?hu ?_; walk_at "my use"; (case hl => walk_at "my len")); intro v' h' tk' hR' hK' F' N'; obtain ⟨t', eR'⟩ := hR'; subst eR'; clear hK'))
local macro_rules | `(tactic| walk_at "call ref") => `(tactic| (k_here; (with_reducible show wpAny _ _ (call (Value.ref 65) _) _ _ _); k_dflt (refine' use_cn (number _ _ _ _ _ _ _ _ _ _ _ ?h1 ?h2 ?h3 ?h4) ?B ?F ?X ?T ?N ?hk ?hG ?hd ?hu ?_; walk_at "my use"; (case h1 => omega); (case h2 => omega); (case h3 => assumption); (case h4 => assumption)); intro v' h' tk' hR' hK' F' N'; obtain ⟨t', eR'⟩ := hR'; subst eR'; clear hK'))
local macro_rules | `(tactic| walk_at "call ref") => `(tactic| (k_here; (with_reducible show wpAny _ _ (call (Value.ref 72) _) _ _ _); k_dflt (refine' use_cn (divisor _ _ _ _ _ _ _ _) ?B ?F ?X ?T ?N ?hk ?hG ?hd ?hu ?_; walk_at "my use"); intro v' h' tk' hR' hK' F' N'; obtain ⟨t', eR'⟩ := hR'; subst eR'; clear hK'))
local macro_rules | `(tactic| walk_at "call ref") => `(tactic| (k_here; (with_reducible show wpAny _ _ (call (Value.ref 21) _) _ _ _); k_dflt (first
  | (refine' use_cn (em_within _ _ _ _ _ _ _ _ ?ha ?h0 ?hab ?hb) ?B ?F ?X ?T ?N ?hk ?hG ?hd ?hu ?_; (case ha => walk_at "my nd"); (case h0 => walk_at "my len"); (case hab => walk_at "my len"); (case hb => walk_at "my len"); walk_at "my use")
  | (refine' use_cn (em_twice _ _ _ _ _ _ _ _ _ ?ha ?hc ?h0 ?h1 ?h2 ?h3 ?hb) ?B ?F ?X ?T ?N ?hk ?hG ?hd ?hu ?_; (case ha => walk_at "my nd"); (case hc => walk_at "my nd"); (case h0 => walk_at "my len"); (case h1 => walk_at "my len"); (case h2 => walk_at "my len"); (case h3 => walk_at "my len"); (case hb => walk_at "my len"); walk_at "my use")
  | (refine' use_cn (em_front _ _ _ _ _ _ _ _ ?ha ?h0 ?hab ?hb) ?B ?F ?X ?T ?N ?hk ?hG ?hd ?hu ?_; (case ha => walk_at "my nd"); (case h0 => walk_at "my len"); (case hab => walk_at "my len"); (case hb => walk_at "my len"); walk_at "my use")
  | (refine' use_cn (em_end _ _ _ _ _ _ _ _ ?ha ?h0 ?hab ?hb) ?B ?F ?X ?T ?N ?hk ?hG ?hd ?hu ?_; (case ha => walk_at "my nd"); (case h0 => walk_at "my len"); (case hab => walk_at "my len"); (case hb => walk_at "my len"); walk_at "my use")); intro v' h' tk' hR' hK' F' N'; subst hR'; clear hK'))
local macro_rules | `(tactic| walk_at "call builtin:len") => `(tactic| (k_here; (with_reducible show wpAny _ _ (call (Value.builtin "len") [Value.str _ _]) _ _ _); refine len_tx (by walk_at "my len") ?_))
local macro_rules | `(tactic| walk_at "binaryOp Mult str int") => `(tactic| (k_here; refine mul_tx (by walk_at "my len") (by omega) (by omega) ?_; intro t' k'))
local macro_rules | `(tactic| walk_at "call builtin:str.replace") => `(tactic| (k_here; refine replace_tx (by walk_at "my len") (by (show @Ne Nat _ _); omega) (by (show @Ne Nat _ _); omega) (by (show @Ne Nat _ _); omega) ?_; intro t' k'))
local macro_rules | `(tactic| walk_at "binaryOp Pow int int") => `(tactic| (k_here; refine pow64 (by omega) ?_))
local macro_rules | `(tactic| walk_at "binaryOp Mult int int") => `(tactic| (k_here; refine mul_nat (by assumption) (by assumption) ?_))
local macro_rules | `(tactic| walk_at "subscriptTail Name Slice str ref") => `(tactic| (k_here; (with_reducible show wpAny _ _ (subscriptTail _ (Expr.Slice _ _ none _) (Value.str _ _) (Value.ref _)) _ _ _); k_dflt (first
  | refine cut_to (s := ⟨_, _, _, _, _⟩) (by k_asm) (by k_asm) (by omega) (by omega) (by omega) ?_
  | refine cut_last (s := ⟨_, _, _, _, _⟩) (by k_asm) (by k_asm) (by omega) (by omega) (by omega) ?_
  | refine cut_from (s := ⟨_, _, _, _, _⟩) (by k_asm) (by k_asm) (by omega) (by omega) (by omega) ?_
  | refine cut_mid (s := ⟨_, _, _, _, _⟩) (by k_asm) (by k_asm) (by omega) (by omega) (by omega) (by omega) ?_); intro h' t' k' F' N'))
section
set_option maxHeartbeats 8000000 in
theorem tellers_raw (w : World) (mean mg mb) (u v : List Nat) (c3 cut : Nat) (l : Addr) (tu tv t0 t1 t2 tc : Tok) (C : Bool) (hC : ((⟨(u ++ v).toArray⟩ : PySem.Str) == ⟨(v ++ u).toArray⟩) = C)
    (h1 : 0 < u.length) (h2 : 0 < v.length) (hsum : u.length + v.length ≤ 16) (hc3 : 46 < c3) (hu : ∀ c ∈ u, c = 34 ∨ c = 97 ∨ c = c3) (hv : ∀ c ∈ v, c = 34 ∨ c = 97 ∨ c = c3) (hc0 : 0 < cut) (hc1 : cut < u.length + v.length) :
    CnT w mean mg mb 79 [.str ⟨u.toArray⟩ tu, .str ⟨v.toArray⟩ tv, .ref l, .int (cut : Nat) tc] (fun s => s.heap.get? l = some (sgn t0 t1 t2 c3)) (fun s val h' => ∃ r, val = .ref r ∧ s.heap.get? r = none ∧ h'.get? r = some (W.listOf #[.bool C, .bool (pre? (List.take ((cut : Int).toNat) (rep u ((u.length : Int) + (v.length : Int)).toNat)) (rep v ((u.length : Int) + (v.length : Int)).toNat)),
      .bool (suf? (List.drop ((rep u ((u.length : Int) + (v.length : Int)).toNat).length - (cut : Int).toNat) (rep u ((u.length : Int) + (v.length : Int)).toNat)) (rep v ((u.length : Int) + (v.length : Int)).toNat)),
      .bool (((numN u : Int) * (((64 ^ v.length : Nat) : Int) - 1)) == ((numN v : Int) * (((64 ^ u.length : Nat) : Int) - 1)))] 0)) := by
  have hfill : PySem.Challenge.rw_ty0008_01 = PySem.Challenge.rw_ty0008_01 ∧ Mine.hd.heap_39 = Mine.hd.heap_39 := by k_fill; exact ⟨rfl, rfl⟩
  clear hfill
  w_top off
  have hndu : 46 ∉ u := fun q => by rcases hu _ q with h | h | h <;> omega
  have hndv : 46 ∉ v := fun q => by rcases hv _ q with h | h | h <;> omega
  unfold CnT
  intros; rename_i hG _ _ hret
  refine wpAny_call ?_
  k_dflt (walk_at "my enter")
  have hN16 : ((u.length : Int) + (v.length : Int)).toNat = u.length + v.length := by omega
  have hp1 : u.length + v.length ≤ (u.length + v.length) * u.length := Nat.le_mul_of_pos_right _ h1
  have hp2 : u.length + v.length ≤ (u.length + v.length) * v.length := Nat.le_mul_of_pos_right _ h2
  have hp3 : (u.length + v.length) * u.length ≤ 16 * 16 := Nat.mul_le_mul hsum (by omega)
  have hp4 : (u.length + v.length) * v.length ≤ 16 * 16 := Nat.mul_le_mul hsum (by omega)
  have hr1 : (rep u ((u.length : Int) + (v.length : Int)).toNat).length = (u.length + v.length) * u.length := by rw [rep_length, hN16]
  have hr2 : (rep v ((u.length : Int) + (v.length : Int)).toNat).length = (u.length + v.length) * v.length := by rw [rep_length, hN16]
  generalize hPu : (u.length + v.length) * u.length = Pu at hp1 hp3 hr1
  generalize hPv : (u.length + v.length) * v.length = Pv at hp2 hp4 hr2
  have hd2 := dbl_le2 (u ++ v)
  rw [List.length_append] at hd2
  have hnu : numN u < 2 ^ 100 := Nat.lt_of_lt_of_le (numN_lt u) (Nat.le_trans (Nat.pow_le_pow_right (by decide) (show u.length ≤ 16 by omega)) (by decide))
  have hnv : numN v < 2 ^ 100 := Nat.lt_of_lt_of_le (numN_lt v) (Nat.le_trans (Nat.pow_le_pow_right (by decide) (show v.length ≤ 16 by omega)) (by decide))
  have hwu : 64 ^ u.length < 2 ^ 100 := Nat.lt_of_le_of_lt (Nat.pow_le_pow_right (by decide) (show u.length ≤ 16 by omega)) (by decide)
  have hwv : 64 ^ v.length < 2 ^ 100 := Nat.lt_of_le_of_lt (Nat.pow_le_pow_right (by decide) (show v.length ≤ 16 by omega)) (by decide)
  refine execs_toks (Nat.le_trans (show 1 ≤ 4 by decide) (Nat.le_add_left 4 _)) ?_
  k_steps
  unfold Stop
  intro hk1
  dsimp only at hk1 ⊢
  generalize (_ : Nat) + 1 = tk at hk1 ⊢
  refine execs_toks hk1 ?_
  k_steps
  unfold Stop
  intro hk2
  dsimp only at hk2 ⊢
  generalize (_ : Nat) + 1 = tk2 at hk2 ⊢
  refine wpAny_execs_cons ?_
  k_steps
  rename News _ _ _ _ => NN
  have hz := NN _ (.head _)
  exact hret _ _ _ ⟨_, rfl, hz.2.2, hz.1⟩ (Fr.keep (by assumption))
end
section
set_option maxHeartbeats 8000000 in
theorem takers_raw (w : World) (mean mg mb) (u v : List Nat) (cut : Nat) (tu tv tc : Tok)
    (h1 : 0 < u.length) (h2 : 0 < v.length) (hsum : u.length + v.length ≤ 16) (hndu : 46 ∉ u) (hndv : 46 ∉ v) (hc0 : 0 < cut) (hc1 : cut < u.length + v.length) :
    CnT w mean mg mb 86 [.str ⟨u.toArray⟩ tu, .str ⟨v.toArray⟩ tv, .int (cut : Nat) tc] (fun _ => True) (fun s val h' => ∃ r, val = .ref r ∧ s.heap.get? r = none ∧ h'.get? r = some (W.listOf #[
      .bool (two? (List.take ((cut : Int).toNat) (rep u ((u.length : Int) + (v.length : Int)).toNat)) (List.drop ((rep u ((u.length : Int) + (v.length : Int)).toNat).length - (cut : Int).toNat) (rep u ((u.length : Int) + (v.length : Int)).toNat)) (v ++ v)),
      .bool (Txt.contains ⟨(rep v ((u.length : Int) + (v.length : Int)).toNat).toArray⟩ ⟨(List.take ((cut : Int) + 1 - 1).toNat (List.drop (1 : Int).toNat (rep u ((u.length : Int) + (v.length : Int)).toNat))).toArray⟩)] 0)) := by
  have hfill : PySem.Challenge.rw_ty0008_01 = PySem.Challenge.rw_ty0008_01 ∧ Mine.hd.heap_39 = Mine.hd.heap_39 := by k_fill; exact ⟨rfl, rfl⟩
  clear hfill
  w_top off
  unfold CnT
  intros; rename_i hret
  refine wpAny_call ?_
  k_dflt (walk_at "my enter")
  have hN16 : ((u.length : Int) + (v.length : Int)).toNat = u.length + v.length := by omega
  have hp1 : u.length + v.length ≤ (u.length + v.length) * u.length := Nat.le_mul_of_pos_right _ h1
  have hp2 : u.length + v.length ≤ (u.length + v.length) * v.length := Nat.le_mul_of_pos_right _ h2
  have hp3 : (u.length + v.length) * u.length ≤ 16 * 16 := Nat.mul_le_mul hsum (by omega)
  have hp4 : (u.length + v.length) * v.length ≤ 16 * 16 := Nat.mul_le_mul hsum (by omega)
  have hr1 : (rep u ((u.length : Int) + (v.length : Int)).toNat).length = (u.length + v.length) * u.length := by rw [rep_length, hN16]
  have hr2 : (rep v ((u.length : Int) + (v.length : Int)).toNat).length = (u.length + v.length) * v.length := by rw [rep_length, hN16]
  generalize hPu : (u.length + v.length) * u.length = Pu at hp1 hp3 hr1
  generalize hPv : (u.length + v.length) * v.length = Pv at hp2 hp4 hr2
  k_steps
  rename News _ _ _ _ => NN
  have hz := NN _ (.head _)
  exact hret _ _ _ ⟨_, rfl, hz.2.2, hz.1⟩ (Fr.keep (by assumption))
end
section
section
variable {prog : Program} {w : World} {A : Around} {E : Value → Shared → Prop} {s : Shared}
theorem sgn_item {value slice : Expr} {l : Addr} {t0 t1 t2 ku : Tok} {c3 : Nat} {k : Int} {Q : Value → Shared → Prop} (hl : s.heap.get? l = some (sgn t0 t1 t2 c3)) (h0 : 0 ≤ k) (h3 : k < 3)
    (h : ∀ c t, (c = 34 ∨ c = 97 ∨ c = c3) → Q (.str ⟨#[c]⟩ t) s)
    (hs : subscripted slice false (.ref l) (.int k ku) = operate [.ref l, .int k ku] (getItem (.ref l) (.int k ku)) := by with_unfolding_all rfl) :
    wpAny (model prog w) A (subscriptTail value slice (.ref l) (.int k ku)) Q E s := by
  have hL : s.heap.IsList l #[.str (PySem.Str.ofString "\"") t0, .str (PySem.Str.ofString "a") t1, .str ⟨#[c3]⟩ t2] := ⟨_, hl, rfl, 0, rfl⟩
  have hk : k = 0 ∨ k = 1 ∨ k = 2 := by omega
  rcases hk with rfl | rfl | rfl
  · exact tail_any hL.typeIs slot_list_getitem.lookup (wpAny_getItem_list hL (by decide) (by decide) rfl (h 34 t0 (.inl rfl))) hs
  · exact tail_any hL.typeIs slot_list_getitem.lookup (wpAny_getItem_list hL (by decide) (by decide) rfl (h 97 t1 (.inr (.inl rfl)))) hs
  · exact tail_any hL.typeIs slot_list_getitem.lookup (wpAny_getItem_list hL (by decide) (by decide) rfl (h c3 t2 (.inr (.inr rfl)))) hs
end
section
variable {prog : Program} {w : World} {A : Around} {E : Value → Shared → Prop} {s : Shared} {env : Env} {h₀ : Heap} {target : Expr} {body : List Stmt} {Q : Flow → Shared → Prop}
/-- a loop over a list of the call's own, by what holds between the turns -/
theorem items_inv {I : Addr} {keep : List (Addr × Obj)} (J : (PySem.Str → Option Value) → List (Addr × Obj) → Prop) (hkeep : ∀ m news, J m news → SubL keep news)
    (done : ∀ m news h tk, J m news → Fr h₀ env.locals h m → News h₀ env.locals h news → Q .next { s with heap := h, toks := tk }) :
    ∀ (vs : List Value) (m : PySem.Str → Option Value) (news : List (Addr × Obj)),
    (∀ v ∈ vs, ∀ m news h tk o, J m news → o.cls = .type "list_iterator" → Fr h₀ env.locals h m → News h₀ env.locals h ((I, o) :: news) →
      wpAny (model prog w) A (assign target env v) (fun _ s₂ => wpAny (model prog w) A (execs body env) (fun f s₃ => Stop (f = .next ∧ ∃ h' tk' m' news', s₃ = { s with heap := h', toks := tk' } ∧ Fr h₀ env.locals h' m' ∧ News h₀ env.locals h' ((I, o) :: news') ∧ (∀ p ∈ news', p.1 ≠ I) ∧ J m' news')) E s₂) E { s with heap := h, toks := tk }) →
    J m news → ItemsRest prog w A E h₀ env target body Q s [(I, "list_iterator")] keep (vs.map .val) m news
  | [], m, news, _, hJ => ItemsRest.zero fun h tk F N => done m news h tk hJ F N
  | v :: vs, m, news, turn, hJ => by
    rw [List.map_cons]
    refine ItemsRest.val fun h tk F => AllObj.cons fun o ho => AllObj.nil fun N => ?_
    refine wpAny_mono (turn v (.head _) m news h tk o hJ ho F N) (fun _ s₂ h₂ => wpAny_mono h₂ (fun f s₃ q => ?_) fun _ _ e => e) fun _ _ e => e
    obtain ⟨rfl, h', tk', m', news', rfl, F', N', off, hJ'⟩ := q
    refine ⟨h', tk', m', news', rfl, F', N', fun p hp q hq => ?_, hkeep _ _ hJ', items_inv J hkeep done vs m' news' (fun v hv => turn v (.tail _ hv)) hJ'⟩
    rw [List.mem_singleton.mp hq]
    exact off p hp
end
theorem int_item {prog : Program} {w : World} {A : Around} {E : Value → Shared → Prop} {s : Shared} {value slice : Expr} {l : Addr} {ku : Tok} {n : Nat} {ws : List Value} {ns : List Int} {Q : Value → Shared → Prop} (hl : s.heap.get? l = some (W.listOf ws.toArray n)) (hi : IntsAre ws ns) (h0 : 0 < ns.length)
    (h : ∀ t, Q (.int (ns.getD 0 0) t) s)
    (hs : subscripted slice false (.ref l) (.int 0 ku) = operate [.ref l, .int 0 ku] (getItem (.ref l) (.int 0 ku)) := by with_unfolding_all rfl) :
    wpAny (model prog w) A (subscriptTail value slice (.ref l) (.int 0 ku)) Q E s := by
  have hL : s.heap.IsList l ws.toArray := ⟨_, hl, rfl, n, rfl⟩
  obtain ⟨t, ht⟩ := hi.get 0 (ns.getD 0 0) (by rw [List.getD_eq_getElem?_getD, List.getElem?_eq_getElem h0]; rfl)
  exact tail_any hL.typeIs slot_list_getitem.lookup (wpAny_getItem_list hL (by decide) (by decide) (by simpa using ht) (h t)) hs
end
section
section
variable {prog : Program} {w : World} {A : Around} {E : Value → Shared → Prop} {s : Shared} {h₀ : Heap} {L : Addr} {m : PySem.Str → Option Value} {env : Env} {st : Stmt} {news : List (Addr × Obj)} {Q : Flow → Shared → Prop}
/-- a text in a cell, made of the signs -/
abbrev InCell (o : Obj) (u : List Nat) (t : Tok) : Prop := o.data = .cell (some (.str ⟨u.toArray⟩ t))
theorem join_one (F : Fr h₀ L s.heap m) (N : News h₀ L s.heap news) {a : Addr} {p q r : Addr × Obj} (P : List Nat → Prop) (hp : p ∈ news) (hq : q ∈ news) (hr : r ∈ news) {oa : Obj} (_ha : (a, oa) ∈ news)
    (h1 : wpAny (model prog w) A (exec st env) (fun f s' => Stop (f = .next ∧ ∃ h' tk' o1 u t, s' = { s with heap := h', toks := tk' } ∧ Fr h₀ L h' m ∧ News h₀ L h' [(a, o1), p, q, r] ∧ InCell o1 u t ∧ P u)) E s)
    (h2 : ∀ h' tk' o1 u t, Fr h₀ L h' m → News h₀ L h' [(a, o1), p, q, r] → InCell o1 u t → P u → Q .next { s with heap := h', toks := tk' }) : wpAny (model prog w) A (exec st env) Q E s := by
  refine wpAny_mono h1 (fun f s' z => ?_) fun _ _ e => e
  obtain ⟨rfl, h', tk', o1, u, t, rfl, F', N', hi, hP⟩ := z
  exact h2 _ _ _ _ _ F' N' hi hP
end
theorem sub_four {α : Type} {a b c d : α} {l : List α} (h1 : a ∈ l) (h2 : b ∈ l) (h3 : c ∈ l) (h4 : d ∈ l) : ∀ p ∈ [a, b, c, d], p ∈ l := by
  intro p hp
  simp only [List.mem_cons, List.not_mem_nil, or_false] at hp
  rcases hp with rfl | rfl | rfl | rfl <;> assumption
theorem gt46 (x : Int) : 46 < (47 + (x.fdiv 18).fmod 50000).toNat := by
  have h1 : 0 ≤ (x.fdiv 18).fmod 50000 := Int.fmod_nonneg_of_pos _ (by decide)
  omega
/-- a word of the signs -/
def Wd (c3 : Nat) (u : List Nat) : Prop := (∀ c ∈ u, c = 34 ∨ c = 97 ∨ c = c3) ∧ 0 < u.length
theorem Wd.one {c3 c : Nat} (h : c = 34 ∨ c = 97 ∨ c = c3) : Wd c3 [c] := ⟨fun d hd => by rw [List.mem_singleton.mp hd]; exact h, by simp⟩
theorem Wd.app {c3 : Nat} {u v : List Nat} (h : Wd c3 u) (h' : Wd c3 v) : Wd c3 (u ++ v) := ⟨fun d hd => by
  rcases List.mem_append.mp hd with x | x
  · exact h.1 d x
  · exact h'.1 d x, by have := h.2; simp; omega⟩
theorem ints_mem {ws : List Value} {ns : List Int} (h : IntsAre ws ns) : ∀ v ∈ ws, ∃ k t, v = .int k t := by
  induction h with
  | nil => intro v hv; cases hv
  | cons k t _ ih =>
    intro v hv
    rcases List.mem_cons.mp hv with rfl | hv
    · exact ⟨_, _, rfl⟩
    · exact ih v hv
abbrev nSigns := PySem.Str.ofString "signs"
def LawJ (a1 a2 l D1 D2 : Addr) (sg d1 d2 : Obj) (c3 : Nat) (m : PySem.Str → Option Value) (news : List (Addr × Obj)) : Prop :=
  ∃ (o1 o2 : Obj) (u v : List Nat) (t1 t2 : Tok), news = [(D2, d2), (a1, o1), (a2, o2), (l, sg), (D1, d1)] ∧ InCell o1 u t1 ∧ InCell o2 v t2 ∧ Wd c3 u ∧ Wd c3 v ∧ u.length + v.length ≤ 16 ∧ m nSigns = some (.ref l)
theorem sub_last {p : Addr × Obj} {l : List (Addr × Obj)} (h : p ∈ l) : SubL [p] l := ⟨h, trivial⟩
abbrev nPair := PySem.Str.ofString "pair"
abbrev tup2 (x : List Nat) (tx : Tok) (y : List Nat) (ty : Tok) : Obj := { cls := .type "tuple", data := .seq #[.str ⟨x.toArray⟩ tx, .str ⟨y.toArray⟩ ty] }
section
variable {prog : Program} {w : World} {A : Around} {E : Value → Shared → Prop} {s : Shared} {h₀ : Heap} {L : Addr} {m : PySem.Str → Option Value} {env : Env} {st : Stmt} {news : List (Addr × Obj)} {Q : Flow → Shared → Prop}
theorem join_pair (_F : Fr h₀ L s.heap m) (_N : News h₀ L s.heap news) (P : List Nat → List Nat → Prop)
    (h1 : wpAny (model prog w) A (exec st env) (fun f s' => Stop (f = .next ∧ ∃ h' tk' T x y tx ty, s' = { s with heap := h', toks := tk' } ∧ Fr h₀ L h' (fun z => if z = nPair then some (.ref T) else m z) ∧ News h₀ L h' ((T, tup2 x tx y ty) :: news) ∧ P x y)) E s)
    (h2 : ∀ h' tk' T x y tx ty, 1 ≤ tk' → Fr h₀ L h' (fun z => if z = nPair then some (.ref T) else m z) → News h₀ L h' ((T, tup2 x tx y ty) :: news) → P x y → Q .next { s with heap := h', toks := tk' }) (htk : 1 ≤ s.toks) : wpAny (model prog w) A (exec st env) Q E s := by
  refine wpAny_mono (wpAny_toks_of htk h1) (fun f s' z => ?_) fun _ _ e => e.2
  obtain ⟨hk, rfl, h', tk', T, x, y, tx, ty, rfl, F', N', hP⟩ := z
  exact h2 _ _ _ _ _ _ _ hk F' N' hP
theorem join_two (_F : Fr h₀ L s.heap m) {p : Addr × Obj} {a1 a2 : Addr} {o1 o2 : Obj} {rest : List (Addr × Obj)} (_N : News h₀ L s.heap (p :: (a1, o1) :: (a2, o2) :: rest)) (P : List Nat → List Nat → Prop)
    (h1 : wpAny (model prog w) A (exec st env) (fun f s' => Stop (f = .next ∧ ∃ h' tk' o1 o2 u v tu tv, s' = { s with heap := h', toks := tk' } ∧ Fr h₀ L h' m ∧ News h₀ L h' (p :: (a1, o1) :: (a2, o2) :: rest) ∧ InCell o1 u tu ∧ InCell o2 v tv ∧ P u v)) E s)
    (h2 : ∀ h' tk' o1 o2 u v tu tv, 1 ≤ tk' → Fr h₀ L h' m → News h₀ L h' (p :: (a1, o1) :: (a2, o2) :: rest) → InCell o1 u tu → InCell o2 v tv → P u v → Q .next { s with heap := h', toks := tk' }) (htk : 1 ≤ s.toks) : wpAny (model prog w) A (exec st env) Q E s := by
  refine wpAny_mono (wpAny_toks_of htk h1) (fun f s' z => ?_) fun _ _ e => e.2
  obtain ⟨hk, rfl, h', tk', o1, o2, u, v, tu, tv, rfl, F', N', i1, i2, hP⟩ := z
  exact h2 _ _ _ _ _ _ _ _ hk F' N' i1 i2 hP
end
theorem Stop.mk {P : Prop} (h : P) : Stop P := h
theorem reorder {h₀ h : Heap} {L : Addr} {p t a b c d e : Addr × Obj} (N : News h₀ L h [t, p, c, a, b, d, e]) : News h₀ L h [p, a, b, c, d, e] := cb_drop N fun q hq => by
  simp only [List.mem_cons, List.not_mem_nil, or_false] at hq ⊢
  rcases hq with h | h | h | h | h | h <;> simp [h]
section
variable {prog : Program} {w : World} {A : Around} {E : Value → Shared → Prop} {s : Shared}
theorem tup_item0 {value slice : Expr} {l : Addr} {x y : List Nat} {tx ty ku : Tok} {Q : Value → Shared → Prop} (hl : s.heap.get? l = some (tup2 x tx y ty)) (h : Q (.str ⟨x.toArray⟩ tx) s)
    (hs : subscripted slice false (.ref l) (.int 0 ku) = operate [.ref l, .int 0 ku] (getItem (.ref l) (.int 0 ku)) := by with_unfolding_all rfl) :
    wpAny (model prog w) A (subscriptTail value slice (.ref l) (.int 0 ku)) Q E s := by
  have ht : s.heap.IsTuple l #[.str ⟨x.toArray⟩ tx, .str ⟨y.toArray⟩ ty] := ⟨_, hl, rfl, 0, rfl⟩
  exact tail_any ht.typeIs slot_tuple_getitem.lookup (getItem_tuple ht (by decide) (by decide) rfl rfl h) hs
theorem tup_item1 {value slice : Expr} {l : Addr} {x y : List Nat} {tx ty ku : Tok} {Q : Value → Shared → Prop} (hl : s.heap.get? l = some (tup2 x tx y ty)) (h : Q (.str ⟨y.toArray⟩ ty) s)
    (hs : subscripted slice false (.ref l) (.int 1 ku) = operate [.ref l, .int 1 ku] (getItem (.ref l) (.int 1 ku)) := by with_unfolding_all rfl) :
    wpAny (model prog w) A (subscriptTail value slice (.ref l) (.int 1 ku)) Q E s := by
  have ht : s.heap.IsTuple l #[.str ⟨x.toArray⟩ tx, .str ⟨y.toArray⟩ ty] := ⟨_, hl, rfl, 0, rfl⟩
  exact tail_any ht.typeIs slot_tuple_getitem.lookup (getItem_tuple ht (by decide) (by decide) rfl rfl h) hs
end
theorem tup_ne_cell {h₀ h : Heap} {L : Addr} {news : List (Addr × Obj)} {T a : Addr} {o : Obj} {x y u : List Nat} {tx ty t : Tok} (N : News h₀ L h news) (hT : (T, tup2 x tx y ty) ∈ news) (ha : (a, o) ∈ news) (hd : InCell o u t) : @Ne Nat T a := fun e => by
  have h1 := (N _ hT).1
  have h2 := (N _ ha).1
  dsimp only at h1 h2
  rw [show T = a from e, h2] at h1
  have h3 := Option.some.inj h1
  rw [h3] at hd
  cases hd
theorem fdiv_le16 {a b : Int} (h0 : 0 ≤ a) (h1 : a ≤ 16) (hb : 0 < b) : a.fdiv b ≤ 16 := by
  rw [Int.fdiv_eq_ediv_of_nonneg _ (by omega)]
  exact Int.le_trans (Int.ediv_le_self _ h0) h1
end
section
section
/-- the letters of the word said without end -/
def Ev (u : List Nat) (i : Nat) : Nat := u.getD (i % u.length) 0
theorem Ev_add (u : List Nat) (i : Nat) : Ev u (i + u.length) = Ev u i := by unfold Ev; rw [Nat.add_mod_right]
theorem Ev_mod (u : List Nat) (i : Nat) : Ev u (i % u.length) = Ev u i := by unfold Ev; rw [Nat.mod_mod]
theorem Ev_of_mod (u : List Nat) {i j : Nat} (h : i % u.length = j % u.length) : Ev u i = Ev u j := by unfold Ev; rw [h]
theorem getE {u : List Nat} {i : Nat} (h : i < u.length) : u[i]? = some (Ev u i) := by
  unfold Ev
  rw [Nat.mod_eq_of_lt h, List.getD_eq_getElem?_getD, List.getElem?_eq_getElem h]; rfl
theorem fw_step {p r g L : Nat} {f : Nat → Nat} (hg : 0 < g) (hgp : g ∣ p) (hgr : g ∣ r) (hp : 0 < p) (hr : 0 < r) (hL : p + (r + p) ≤ L + g)
    (h1 : ∀ i, i + p < L → f (i + p) = f i) (h2 : ∀ i, i + g < L - p → f (i + g + p) = f (i + p)) : ∀ i, i + g < L → f (i + g) = f i := by
  have hgr' := Nat.le_of_dvd hr hgr
  have chain : ∀ k x, p ≤ x → x + k * g < L → f (x + k * g) = f x := by
    intro k
    induction k with
    | zero => intro x _ _; simp
    | succ k ih =>
      intro x hx hl
      rw [Nat.succ_mul] at hl ⊢
      have e1 := ih x hx (by omega)
      have e2 := h2 (x + k * g - p) (by omega)
      rw [show x + k * g - p + g + p = x + (k * g + g) by omega, show x + k * g - p + p = x + k * g by omega] at e2
      rw [e2, e1]
  intro i hi
  by_cases h : p ≤ i
  · have := h2 (i - p) (by omega)
    rw [show i - p + g + p = i + g by omega, show i - p + p = i by omega] at this
    exact this
  · have e0 := h1 i (by omega)
    by_cases h' : i + g < p
    · have e1 := h1 (i + g) (by omega)
      have e2 := h2 i (by omega)
      rw [← e1, e2, e0]
    · obtain ⟨a, rfl⟩ := hgp
      cases a with
      | zero => simp at hp
      | succ a =>
        have hh : i + g + a * g = i + g * (a + 1) := by rw [Nat.mul_succ, Nat.mul_comm]; omega
        have e1 := chain a (i + g) (by omega) (by rw [hh]; omega)
        rw [hh, e0] at e1
        exact e1.symm
theorem fw : ∀ (n p q L : Nat) (f : Nat → Nat), p + q ≤ n → 0 < p → 0 < q → p + q ≤ L + Nat.gcd p q → (∀ i, i + p < L → f (i + p) = f i) → (∀ i, i + q < L → f (i + q) = f i) →
    ∀ i, i + Nat.gcd p q < L → f (i + Nat.gcd p q) = f i := by
  intro n
  induction n with
  | zero => intro p q L f hn hp hq; omega
  | succ n ih =>
    intro p q L f hn hp hq hL h1 h2
    by_cases e : p = q
    · subst e
      rw [Nat.gcd_self]
      exact h1
    · by_cases hlt : p < q
      · obtain ⟨r, rfl⟩ : ∃ r, q = r + p := ⟨q - p, by omega⟩
        have hr : 0 < r := by omega
        have hg : Nat.gcd p (r + p) = Nat.gcd p r := Nat.gcd_add_self_right ..
        rw [hg] at hL ⊢
        refine fw_step (Nat.gcd_pos_of_pos_left _ hp) (Nat.gcd_dvd_left ..) (Nat.gcd_dvd_right ..) hp hr hL h1 ?_
        intro i hi
        exact ih p r (L - p) (fun i => f (i + p)) (by omega) hp hr (by omega) (fun i hi => h1 (i + p) (by omega)) (fun i hi => by
          have e1 := h2 i (by omega)
          have e2 := h1 i (by omega)
          show f (i + r + p) = f (i + p)
          rw [show i + r + p = i + (r + p) by omega, e1, e2]) i hi
      · obtain ⟨r, rfl⟩ : ∃ r, p = r + q := ⟨p - q, by omega⟩
        have hr : 0 < r := by omega
        have hg : Nat.gcd (r + q) q = Nat.gcd q r := by rw [Nat.gcd_comm]; exact Nat.gcd_add_self_right ..
        rw [hg] at hL ⊢
        refine fw_step (Nat.gcd_pos_of_pos_left _ hq) (Nat.gcd_dvd_left ..) (Nat.gcd_dvd_right ..) hq hr (by omega) h2 ?_
        intro i hi
        exact ih q r (L - q) (fun i => f (i + q)) (by omega) hq hr (by omega) (fun i hi => h2 (i + q) (by omega)) (fun i hi => by
          have e1 := h1 i (by omega)
          have e2 := h2 i (by omega)
          show f (i + r + q) = f (i + q)
          rw [show i + r + q = i + (r + q) by omega, e1, e2]) i hi
theorem per_mod {g L : Nat} {f : Nat → Nat} (hg : 0 < g) (h : ∀ i, i + g < L → f (i + g) = f i) : ∀ i, i < L → f i = f (i % g) := by
  have chain : ∀ k x, x + k * g < L → f (x + k * g) = f x := by
    intro k
    induction k with
    | zero => intro x _; simp
    | succ k ih =>
      intro x hl
      rw [Nat.succ_mul] at hl ⊢
      have e1 := ih x (by omega)
      have e2 := h (x + k * g) (by omega)
      rw [← Nat.add_assoc, e2, e1]
  intro i hi
  have e : i % g + i / g * g = i := by rw [Nat.mul_comm]; exact Nat.mod_add_div i g
  have := chain (i / g) (i % g) (by omega)
  rw [e] at this
  exact this
theorem fw_all {u v : List Nat} (hu : 0 < u.length) (hv : 0 < v.length) {V : Nat → Nat} (hV : ∀ i, V (i + v.length) = V i) (h : ∀ i, i < u.length + v.length - Nat.gcd u.length v.length → Ev u i = V i) : ∀ i, Ev u i = V i := by
  have hg := Nat.gcd_pos_of_pos_left v.length hu
  have hgu := Nat.le_of_dvd hu (Nat.gcd_dvd_left u.length v.length)
  have hgv := Nat.le_of_dvd hv (Nat.gcd_dvd_right u.length v.length)
  have hper := fw (u.length + v.length) u.length v.length (u.length + v.length - Nat.gcd u.length v.length) (Ev u) (Nat.le_refl _) hu hv (by omega) (fun i _ => Ev_add u i) (fun i hi => by
    rw [h _ hi, hV, h i (by omega)])
  have hm := per_mod hg hper
  have hVm : ∀ i, V i = V (i % v.length) := fun i => by
    have : ∀ k x, V (x + k * v.length) = V x := fun k => by
      induction k with
      | zero => intro x; simp
      | succ k ih => intro x; rw [Nat.succ_mul, ← Nat.add_assoc, hV, ih]
    have e : i % v.length + i / v.length * v.length = i := by rw [Nat.mul_comm]; exact Nat.mod_add_div i v.length
    rw [← this (i / v.length) (i % v.length), e]
  intro i
  have h1 := Nat.mod_lt i hu
  have h2 := Nat.mod_lt i hv
  rw [← Ev_mod, hm (i % u.length) (by omega), Nat.mod_mod_of_dvd _ (Nat.gcd_dvd_left ..), hVm, ← h (i % v.length) (by omega), hm (i % v.length) (by omega), Nat.mod_mod_of_dvd _ (Nat.gcd_dvd_right ..)]
theorem rep_get (u : List Nat) : ∀ (n i : Nat), (rep u n)[i]? = if i < n * u.length then some (Ev u i) else none
  | 0, i => by simp [rep_zero]
  | n + 1, i => by
    rw [rep_succ, Nat.succ_mul]
    by_cases h : i < u.length
    · rw [List.getElem?_append_left h, getE h, if_pos (by omega)]
    · rw [List.getElem?_append_right (by omega), rep_get u n]
      have e := Ev_add u (i - u.length)
      rw [show i - u.length + u.length = i by omega] at e
      by_cases h' : i < n * u.length + u.length
      · rw [if_pos (by omega), if_pos h', e]
      · rw [if_neg (by omega), if_neg h']
theorem comm_rep1 {u v : List Nat} (h : u ++ v = v ++ u) : ∀ m, rep u m ++ v = v ++ rep u m
  | 0 => by simp [rep_zero]
  | m + 1 => by rw [rep_succ, List.append_assoc, comm_rep1 h m, ← List.append_assoc, h, List.append_assoc]
theorem app_get {u v : List Nat} {W : Nat → Nat} (hu : ∀ i, i < u.length → Ev u i = W i) (hv : ∀ i, i < v.length → Ev v i = W (i + u.length)) (i : Nat) : (u ++ v)[i]? = if i < u.length + v.length then some (W i) else none := by
  by_cases h : i < u.length
  · rw [List.getElem?_append_left h, getE h, if_pos (by omega), hu i h]
  · rw [List.getElem?_append_right (by omega)]
    by_cases h' : i < u.length + v.length
    · rw [getE (by omega), if_pos h', hv _ (by omega), show i - u.length + u.length = i by omega]
    · rw [if_neg h', List.getElem?_eq_none (by omega)]
theorem comm_iff {u v : List Nat} (hu : 0 < u.length) (hv : 0 < v.length) : u ++ v = v ++ u ↔ ∀ i, Ev u i = Ev v i := by
  constructor
  · intro h i
    have h1 := comm_rep1 h v.length
    have h2 := comm_rep1 (u := v) (v := rep u v.length) h1.symm u.length
    have hl : (rep v u.length).length = (rep u v.length).length := by rw [rep_length, rep_length, Nat.mul_comm]
    have e := List.append_inj_left h2 hl
    have hp : 0 < u.length * v.length := Nat.mul_pos hu hv
    have hj := Nat.mod_lt i hp
    have e1 := rep_get u v.length (i % (u.length * v.length))
    have e2 := rep_get v u.length (i % (u.length * v.length))
    rw [if_pos (by rw [Nat.mul_comm v.length u.length]; exact hj)] at e1
    rw [if_pos hj, e, e1] at e2
    have e3 := Option.some.inj e2
    rw [Ev_of_mod u (Nat.mod_mod_of_dvd i (Nat.dvd_mul_right ..)), Ev_of_mod v (Nat.mod_mod_of_dvd i (Nat.dvd_mul_left ..))] at e3
    exact e3
  · intro h
    apply List.ext_getElem?
    intro i
    rw [app_get (W := Ev u) (fun _ _ => rfl) (fun i _ => by rw [Ev_add, h]), app_get (W := Ev u) (fun i _ => (h i).symm) (fun i _ => by rw [h (i + v.length), Ev_add, h]), Nat.add_comm]
end
end
section
section
def Cm (u v : List Nat) : Bool := decide (u ++ v = v ++ u)
def turnL (v : List Nat) (k : Nat) : List Nat := v.drop k ++ v.take k
def Cp (u v : List Nat) : Bool := decide (v = rep u (v.length / u.length))
def Tn (u v : List Nat) : Bool := (List.range v.length).any fun k => Cm u (turnL v k)
theorem tx_beq (a b : List Nat) : ((⟨a.toArray⟩ : PySem.Str) == ⟨b.toArray⟩) = decide (a = b) := by
  show decide ((⟨a.toArray⟩ : PySem.Str) = ⟨b.toArray⟩) = _
  simp
theorem join_is (u v : List Nat) : ((⟨(u ++ v).toArray⟩ : PySem.Str) == ⟨(v ++ u).toArray⟩) = Cm u v := tx_beq _ _
theorem take_iff {u v : List Nat} {N c : Nat} (h1 : c ≤ N * u.length) (h2 : c ≤ N * v.length) : (rep v N).take c = (rep u N).take c ↔ ∀ i, i < c → Ev u i = Ev v i := by
  constructor
  · intro h i hi
    have : ((rep v N).take c)[i]? = ((rep u N).take c)[i]? := by rw [h]
    rw [List.getElem?_take, List.getElem?_take, if_pos hi, if_pos hi, rep_get, rep_get, if_pos (by omega), if_pos (by omega)] at this
    exact (Option.some.inj this).symm
  · intro h
    apply List.ext_getElem?
    intro i
    rw [List.getElem?_take, List.getElem?_take]
    by_cases hi : i < c
    · rw [if_pos hi, if_pos hi, rep_get, rep_get, if_pos (by omega), if_pos (by omega), h i hi]
    · rw [if_neg hi, if_neg hi]
theorem cut_iff {u v : List Nat} (hu : 0 < u.length) (hv : 0 < v.length) : (∀ i, i < u.length + v.length - Nat.gcd u.length v.length → Ev u i = Ev v i) ↔ u ++ v = v ++ u :=
  ⟨fun h => (comm_iff hu hv).mpr (fw_all hu hv (Ev_add v) h), fun h i _ => (comm_iff hu hv).mp h i⟩
theorem bound {u v : List Nat} (hu : 0 < u.length) (hv : 0 < v.length) : u.length + v.length - Nat.gcd u.length v.length ≤ (u.length + v.length) * u.length ∧ u.length + v.length - Nat.gcd u.length v.length ≤ (u.length + v.length) * v.length :=
  ⟨Nat.le_trans (Nat.sub_le _ _) (Nat.le_mul_of_pos_right _ hu), Nat.le_trans (Nat.sub_le _ _) (Nat.le_mul_of_pos_right _ hv)⟩
theorem pre_is {u v : List Nat} (hu : 0 < u.length) (hv : 0 < v.length) : pre? (((rep u (u.length + v.length))).take (u.length + v.length - Nat.gcd u.length v.length)) (rep v (u.length + v.length)) = Cm u v := by
  obtain ⟨b1, b2⟩ := bound hu hv
  unfold pre? Cm
  rw [Bool.eq_iff_iff, beq_iff_eq, decide_eq_true_iff, List.length_take, rep_length, Nat.min_eq_left b1, take_iff b1 b2, cut_iff hu hv]
theorem rep_rev (u : List Nat) : ∀ n, (rep u n).reverse = rep u.reverse n
  | 0 => rfl
  | n + 1 => by rw [rep_succ, List.reverse_append, rep_rev u n, rep_succ, ← comm_rep1 (u := u.reverse) (v := u.reverse) rfl n]
theorem last_is (l : List Nat) (c : Nat) : (l.drop (l.length - c)).reverse = l.reverse.take c := by rw [List.take_reverse]
theorem suf_is {u v : List Nat} (hu : 0 < u.length) (hv : 0 < v.length) : suf? ((rep u (u.length + v.length)).drop ((rep u (u.length + v.length)).length - (u.length + v.length - Nat.gcd u.length v.length))) (rep v (u.length + v.length)) = Cm u v := by
  obtain ⟨b1, b2⟩ := bound hu hv
  have hl : ((rep u (u.length + v.length)).drop ((rep u (u.length + v.length)).length - (u.length + v.length - Nat.gcd u.length v.length))).length = u.length + v.length - Nat.gcd u.length v.length := by
    rw [List.length_drop, rep_length]; omega
  unfold suf? Cm
  rw [Bool.eq_iff_iff, beq_iff_eq, decide_eq_true_iff, hl, ← List.reverse_inj, last_is, last_is, rep_rev, rep_rev]
  have hu' : 0 < u.reverse.length := by simpa using hu
  have hv' : 0 < v.reverse.length := by simpa using hv
  have e := take_iff (u := u.reverse) (v := v.reverse) (N := u.length + v.length) (c := u.length + v.length - Nat.gcd u.length v.length) (by rw [List.length_reverse]; exact b1) (by rw [List.length_reverse]; exact b2)
  have e2 := cut_iff hu' hv'
  rw [List.length_reverse, List.length_reverse] at e2
  rw [e, e2, ← List.reverse_append, ← List.reverse_append, List.reverse_inj]
  exact eq_comm
theorem numN_from (l : List Nat) : ∀ a, l.foldl (fun a c => a * 64 + dig c) a = a * 64 ^ l.length + numN l := by
  induction l with
  | nil => intro a; simp [numN]
  | cons c r ih =>
    intro a
    unfold numN
    rw [List.foldl_cons, ih, List.foldl_cons, ih, List.length_cons, Nat.pow_succ, Nat.add_mul, Nat.zero_mul, Nat.zero_add, Nat.mul_assoc, Nat.mul_comm 64, Nat.add_assoc]
theorem numN_app (a b : List Nat) : numN (a ++ b) = numN a * 64 ^ b.length + numN b := by
  show (a ++ b).foldl _ 0 = _
  rw [List.foldl_append, numN_from b]; rfl
theorem numN_cons (c : Nat) (r : List Nat) : numN (c :: r) = dig c * 64 ^ r.length + numN r := by
  have := numN_app [c] r
  rw [List.singleton_append] at this
  rw [this]; simp [numN]
theorem dig_inj {c3 c d : Nat} (hc : c = 34 ∨ c = 97 ∨ c = c3) (hd : d = 34 ∨ d = 97 ∨ d = c3) (h : dig c = dig d) : c = d := by
  unfold dig at h
  split at h <;> split at h <;> (try split at h) <;> (try split at h) <;> omega
theorem numN_inj {c3 : Nat} : ∀ {a b : List Nat}, a.length = b.length → (∀ c ∈ a, c = 34 ∨ c = 97 ∨ c = c3) → (∀ c ∈ b, c = 34 ∨ c = 97 ∨ c = c3) → numN a = numN b → a = b
  | [], [], _, _, _, _ => rfl
  | c :: r, d :: t, hl, ha, hb, h => by
    have hl' : r.length = t.length := by simpa using hl
    rw [numN_cons, numN_cons, ← hl'] at h
    have b1 := numN_lt r
    have b2 := numN_lt t
    rw [← hl'] at b2
    have hm : 0 < 64 ^ r.length := Nat.pow_pos (by decide)
    have e1 : (dig c * 64 ^ r.length + numN r) / 64 ^ r.length = (dig d * 64 ^ r.length + numN t) / 64 ^ r.length := by rw [h]
    have e2 : (dig c * 64 ^ r.length + numN r) % 64 ^ r.length = (dig d * 64 ^ r.length + numN t) % 64 ^ r.length := by rw [h]
    rw [Nat.mul_comm, Nat.mul_add_div hm, Nat.div_eq_of_lt b1, Nat.mul_comm, Nat.mul_add_div hm, Nat.div_eq_of_lt b2] at e1
    rw [Nat.mul_comm, Nat.mul_add_mod, Nat.mod_eq_of_lt b1, Nat.mul_comm, Nat.mul_add_mod, Nat.mod_eq_of_lt b2] at e2
    rw [dig_inj (ha c (.head _)) (hb d (.head _)) (by omega), numN_inj hl' (fun x hx => ha x (.tail _ hx)) (fun x hx => hb x (.tail _ hx)) e2]
theorem num_is {c3 : Nat} {u v : List Nat} (hu : ∀ c ∈ u, c = 34 ∨ c = 97 ∨ c = c3) (hv : ∀ c ∈ v, c = 34 ∨ c = 97 ∨ c = c3) :
    (((numN u : Int) * (((64 ^ v.length : Nat) : Int) - 1)) == ((numN v : Int) * (((64 ^ u.length : Nat) : Int) - 1))) = Cm u v := by
  unfold Cm
  rw [Bool.eq_iff_iff, beq_iff_eq, decide_eq_true_iff]
  have h1 := numN_app u v
  have h2 := numN_app v u
  have e : ((numN u : Int) * (((64 ^ v.length : Nat) : Int) - 1) = (numN v : Int) * (((64 ^ u.length : Nat) : Int) - 1)) ↔ numN (u ++ v) = numN (v ++ u) := by
    rw [h1, h2, Int.mul_sub, Int.mul_sub, Int.mul_one, Int.mul_one, ← Int.natCast_mul, ← Int.natCast_mul]
    generalize numN u * 64 ^ v.length = x
    generalize numN v * 64 ^ u.length = y
    omega
  rw [e]
  constructor
  · intro h
    refine numN_inj (c3 := c3) (by simp; omega) (fun c hc => ?_) (fun c hc => ?_) h
    · rcases List.mem_append.mp hc with x | x
      · exact hu c x
      · exact hv c x
    · rcases List.mem_append.mp hc with x | x
      · exact hv c x
      · exact hu c x
  · intro h; rw [h]
end
end
section
section
theorem rep_add (u : List Nat) (m n : Nat) : rep u (m + n) = rep u m ++ rep u n := by
  induction m with
  | zero => simp [rep_zero]
  | succ m ih => rw [show m + 1 + n = (m + n) + 1 by omega, rep_succ, rep_succ, ih, List.append_assoc]
theorem Ev_take {u : List Nat} {g i : Nat} (hg : 0 < g) (hgu : g ≤ u.length) : Ev (u.take g) i = Ev u (i % g) := by
  have hl : (u.take g).length = g := by rw [List.length_take]; omega
  have hm := Nat.mod_lt i hg
  have e : (u.take g)[i % g]? = some (Ev (u.take g) (i % g)) := getE (by rw [hl]; exact hm)
  rw [List.getElem?_take, if_pos hm, getE (by omega)] at e
  have e2 := Ev_mod (u.take g) i
  rw [hl] at e2
  rw [← e2]; exact (Option.some.inj e).symm
theorem per_gcd {u v : List Nat} (hu : 0 < u.length) (hv : 0 < v.length) (h : ∀ i, Ev u i = Ev v i) (i : Nat) : Ev u i = Ev u (i % Nat.gcd u.length v.length) := by
  have hg := Nat.gcd_pos_of_pos_left v.length hu
  have hp := fw (u.length + v.length) u.length v.length (i + u.length + v.length + 1) (Ev u) (Nat.le_refl _) hu hv (by omega) (fun i _ => Ev_add u i) (fun i _ => by rw [h, Ev_add, h])
  exact per_mod hg hp i (by omega)
theorem same_nat {u v : List Nat} (hu : 0 < u.length) (hv : 0 < v.length) : (u ++ v = rep (u.take (Nat.gcd u.length v.length)) ((u.length + v.length) / Nat.gcd u.length v.length)) ↔ u ++ v = v ++ u := by
  have hg := Nat.gcd_pos_of_pos_left v.length hu
  have hgu := Nat.le_of_dvd hu (Nat.gcd_dvd_left u.length v.length)
  have d1 := Nat.gcd_dvd_left u.length v.length
  have d2 := Nat.gcd_dvd_right u.length v.length
  have hl : (u.take (Nat.gcd u.length v.length)).length = Nat.gcd u.length v.length := by rw [List.length_take]; omega
  have hn : (u.length + v.length) / Nat.gcd u.length v.length * Nat.gcd u.length v.length = u.length + v.length := Nat.div_mul_cancel (Nat.dvd_add d1 d2)
  rw [comm_iff hu hv]
  constructor
  · intro h
    have key : ∀ i, i < u.length + v.length → (u ++ v)[i]? = some (Ev (u.take (Nat.gcd u.length v.length)) i) := fun i hi => by
      rw [h, rep_get, hl, hn, if_pos hi]
    have hU : ∀ i, Ev u i = Ev (u.take (Nat.gcd u.length v.length)) i := fun i => by
      have hm := Nat.mod_lt i hu
      have e := key (i % u.length) (by omega)
      rw [List.getElem?_append_left hm, getE hm, Ev_mod] at e
      rw [Option.some.inj e]
      exact Ev_of_mod _ (by rw [hl]; exact Nat.mod_mod_of_dvd _ d1)
    have hV : ∀ i, Ev v i = Ev (u.take (Nat.gcd u.length v.length)) i := fun i => by
      have hm := Nat.mod_lt i hv
      have e := key (u.length + i % v.length) (by omega)
      rw [List.getElem?_append_right (by omega), show u.length + i % v.length - u.length = i % v.length by omega, getE hm, Ev_mod] at e
      rw [Option.some.inj e]
      refine Ev_of_mod _ ?_
      rw [hl]
      have e3 : (u.length + i % v.length) % Nat.gcd u.length v.length = (i % v.length) % Nat.gcd u.length v.length := by
        rw [Nat.add_mod, Nat.mod_eq_zero_of_dvd d1, Nat.zero_add, Nat.mod_mod]
      rw [e3]; exact Nat.mod_mod_of_dvd _ d2
    intro i
    rw [hU, hV]
  · intro h
    apply List.ext_getElem?
    intro i
    rw [app_get (W := Ev u) (fun _ _ => rfl) (fun i _ => by rw [Ev_add, h]), rep_get, hl, hn]
    by_cases hi : i < u.length + v.length
    · rw [if_pos hi, if_pos hi, Ev_take hg hgu, ← per_gcd hu hv h]
    · rw [if_neg hi, if_neg hi]
theorem same_is {u v : List Nat} (hu : 0 < u.length) (hv : 0 < v.length) : ((⟨(u ++ v).toArray⟩ : PySem.Str) == ⟨(rep (List.take ((u.length.gcd v.length : Nat) : Int).toNat u) (((u.length : Int) + (v.length : Int)).fdiv (u.length.gcd v.length : Nat)).toNat).toArray⟩) = Cm u v := by
  have e1 : (((u.length : Int) + (v.length : Int)).fdiv (u.length.gcd v.length : Nat)).toNat = (u.length + v.length) / Nat.gcd u.length v.length := by
    rw [Int.fdiv_eq_ediv_of_nonneg _ (by omega), ← Int.natCast_add, ← Int.natCast_ediv]; rfl
  rw [tx_beq, e1, Int.toNat_natCast]
  unfold Cm
  rw [Bool.eq_iff_iff, decide_eq_true_iff, decide_eq_true_iff, same_nat hu hv]
theorem rep_split {u : List Nat} {m n : Nat} (h : m ≤ n) : (rep u n).take (m * u.length) = rep u m ∧ (rep u n).drop ((rep u n).length - m * u.length) = rep u m := by
  constructor
  · have e : rep u n = rep u m ++ rep u (n - m) := by rw [← rep_add]; congr 1; omega
    rw [e, ← rep_length u m, List.take_left]
  · have e : rep u n = rep u (n - m) ++ rep u m := by rw [← rep_add]; congr 1; omega
    have e2 : (rep u n).length - m * u.length = (rep u (n - m)).length := by
      rw [rep_length, rep_length, Nat.sub_mul]
    rw [e2, e, List.drop_left]
theorem two_is {u v : List Nat} (hu : 0 < u.length) (hv : 0 < v.length) :
    two? ((rep u (u.length + v.length)).take (u.length + v.length - Nat.gcd u.length v.length)) ((rep u (u.length + v.length)).drop ((rep u (u.length + v.length)).length - (u.length + v.length - Nat.gcd u.length v.length))) (v ++ v) = Cp u v := by
  obtain ⟨b1, b2⟩ := bound hu hv
  have hg := Nat.gcd_pos_of_pos_left v.length hu
  have hgu := Nat.le_of_dvd hu (Nat.gcd_dvd_left u.length v.length)
  have hgv := Nat.le_of_dvd hv (Nat.gcd_dvd_right u.length v.length)
  have hla : ((rep u (u.length + v.length)).take (u.length + v.length - Nat.gcd u.length v.length)).length = u.length + v.length - Nat.gcd u.length v.length := by rw [List.length_take, rep_length]; omega
  have hlc : ((rep u (u.length + v.length)).drop ((rep u (u.length + v.length)).length - (u.length + v.length - Nat.gcd u.length v.length))).length = u.length + v.length - Nat.gcd u.length v.length := by
    rw [List.length_drop, rep_length]; omega
  unfold two?
  by_cases h : u.length = Nat.gcd u.length v.length
  · have hd : u.length ∣ v.length := by rw [h]; exact Nat.gcd_dvd_right ..
    obtain ⟨m, hm⟩ := hd
    have hc : u.length + v.length - Nat.gcd u.length v.length = m * u.length := by rw [Nat.mul_comm, ← hm]; omega
    have hmn : m ≤ u.length + v.length := by
      have := Nat.le_mul_of_pos_left m hu
      omega
    obtain ⟨s1, s2⟩ := rep_split (u := u) hmn
    have hq : v.length / u.length = m := by rw [hm]; exact Nat.mul_div_cancel_left _ hu
    have hlm : (rep u m).length = v.length := by rw [rep_length, Nat.mul_comm, ← hm]
    rw [hc, s1, s2, starts_is (by simp; omega), ends_is (by simp; omega), hlm]
    unfold pre? suf? Cp
    rw [hq, hlm, List.take_left, show (v ++ v).length - v.length = v.length by simp, List.drop_left]
    have e : decide (v.length + v.length ≤ (v ++ v).length) = true := by simp
    rw [e, Bool.and_true, Bool.and_self, Bool.eq_iff_iff, beq_iff_eq, decide_eq_true_iff]
  · rw [hla, hlc]
    have e : decide (u.length + v.length - Nat.gcd u.length v.length + (u.length + v.length - Nat.gcd u.length v.length) ≤ (v ++ v).length) = false := by
      rw [decide_eq_false_iff_not, List.length_append]; omega
    rw [e, Bool.and_false]
    unfold Cp
    symm
    rw [decide_eq_false_iff_not]
    intro hv2
    have hl := congrArg List.length hv2
    rw [rep_length] at hl
    exact h (Nat.gcd_eq_left ⟨v.length / u.length, by rw [Nat.mul_comm]; exact hl⟩).symm
theorem Ev_turn {v : List Nat} {k : Nat} (hk : k < v.length) (i : Nat) : Ev (turnL v k) i = Ev v (i + k) := by
  have hl : (turnL v k).length = v.length := by unfold turnL; simp; omega
  have hm := Nat.mod_lt i (show 0 < v.length by omega)
  have e : (turnL v k)[i % v.length]? = some (Ev (turnL v k) (i % v.length)) := getE (by rw [hl]; exact hm)
  have e0 := Ev_mod (turnL v k) i
  rw [hl] at e0
  rw [e0] at e
  have e2 : Ev v (i + k) = Ev v (i % v.length + k) := Ev_of_mod v (by rw [Nat.mod_add_mod])
  rw [e2]
  apply Option.some.inj
  rw [← e]
  unfold turnL
  by_cases h : i % v.length < v.length - k
  · rw [List.getElem?_append_left (by rw [List.length_drop]; exact h), List.getElem?_drop, getE (by omega), Nat.add_comm]
  · rw [List.getElem?_append_right (by rw [List.length_drop]; omega), List.length_drop, List.getElem?_take, if_pos (by omega), getE (by omega)]
    have := Ev_add v (i % v.length - (v.length - k))
    rw [← this, show i % v.length - (v.length - k) + v.length = i % v.length + k by omega]
theorem turn_comm {u v : List Nat} {k : Nat} (hu : 0 < u.length) (hk : k < v.length) : Cm u (turnL v k) = true ↔ ∀ i, Ev u i = Ev v (i + k) := by
  have hl : (turnL v k).length = v.length := by unfold turnL; simp; omega
  unfold Cm
  rw [decide_eq_true_iff, comm_iff hu (by omega)]
  exact ⟨fun h i => by rw [h, Ev_turn hk], fun h i => by rw [h, Ev_turn hk]⟩
end
end
section
section
theorem mid_iff {u v : List Nat} {N c j : Nat} (h1 : 1 + c ≤ N * u.length) (h2 : j + c ≤ N * v.length) : ((rep v N).drop j).take c = ((rep u N).drop 1).take c ↔ ∀ i, i < c → Ev u (i + 1) = Ev v (i + j) := by
  constructor
  · intro h i hi
    have : (((rep v N).drop j).take c)[i]? = (((rep u N).drop 1).take c)[i]? := by rw [h]
    rw [List.getElem?_take, List.getElem?_take, if_pos hi, if_pos hi, List.getElem?_drop, List.getElem?_drop, rep_get, rep_get, if_pos (by omega), if_pos (by omega)] at this
    rw [Nat.add_comm i 1, Nat.add_comm i j]
    exact (Option.some.inj this).symm
  · intro h
    apply List.ext_getElem?
    intro i
    rw [List.getElem?_take, List.getElem?_take]
    by_cases hi : i < c
    · rw [if_pos hi, if_pos hi, List.getElem?_drop, List.getElem?_drop, rep_get, rep_get, if_pos (by omega), if_pos (by omega), Nat.add_comm 1 i, Nat.add_comm j i, h i hi]
    · rw [if_neg hi, if_neg hi]
theorem contains_iff {a b : List Nat} : Txt.contains ⟨b.toArray⟩ ⟨a.toArray⟩ = true ↔ ∃ j, j + a.length ≤ b.length ∧ (b.drop j).take a.length = a := by
  unfold Txt.contains
  rw [StrLaws.found_iff]
  constructor
  · rintro ⟨j, h1, h2⟩
    rw [StrLaws.subAt_eq] at h2
    exact ⟨j, by simpa [PySem.Str.length] using h1, by simpa [PySem.Str.length] using h2⟩
  · rintro ⟨j, h1, h2⟩
    refine ⟨j, by simpa [PySem.Str.length] using h1, ?_⟩
    rw [StrLaws.subAt_eq]
    simpa [PySem.Str.length] using h2
theorem within_is {u v : List Nat} (hu : 0 < u.length) (hv : 0 < v.length) :
    Txt.contains ⟨(rep v (u.length + v.length)).toArray⟩ ⟨(((rep u (u.length + v.length)).drop 1).take (u.length + v.length - Nat.gcd u.length v.length)).toArray⟩ = Tn u v := by
  have hg := Nat.gcd_pos_of_pos_left v.length hu
  have hgv := Nat.le_of_dvd hv (Nat.gcd_dvd_right u.length v.length)
  have b1 : 1 + (u.length + v.length - Nat.gcd u.length v.length) ≤ (u.length + v.length) * u.length := Nat.le_trans (by omega) (Nat.le_mul_of_pos_right _ hu)
  have hl : (((rep u (u.length + v.length)).drop 1).take (u.length + v.length - Nat.gcd u.length v.length)).length = u.length + v.length - Nat.gcd u.length v.length := by
    rw [List.length_take, List.length_drop, rep_length]; omega
  rw [Bool.eq_iff_iff, contains_iff, hl, rep_length]
  unfold Tn
  rw [List.any_eq_true]
  constructor
  · rintro ⟨j, h1, h2⟩
    rw [mid_iff b1 h1] at h2
    have hk1 : 1 % u.length < u.length := Nat.mod_lt _ hu
    have hlt : (turnL u (1 % u.length)).length = u.length := by unfold turnL; simp; omega
    have e1 : ∀ i, Ev (turnL u (1 % u.length)) i = Ev u (i + 1) := fun i => by
      rw [Ev_turn hk1]; exact Ev_of_mod u (Nat.add_mod_mod ..)
    have all := fw_all (u := turnL u (1 % u.length)) (v := v) (V := fun i => Ev v (i + j)) (by rw [hlt]; exact hu) hv (fun i => by
      show Ev v (i + v.length + j) = Ev v (i + j)
      rw [show i + v.length + j = i + j + v.length by omega, Ev_add]) (fun i hi => by
      rw [hlt] at hi
      rw [e1]; exact h2 i hi)
    refine ⟨(u.length - 1 + j) % v.length, List.mem_range.mpr (Nat.mod_lt _ hv), (turn_comm hu (Nat.mod_lt _ hv)).mpr fun i => ?_⟩
    have e2 := all (i + (u.length - 1))
    rw [e1, show i + (u.length - 1) + 1 = i + u.length by omega, Ev_add] at e2
    rw [e2]
    show Ev v (i + (u.length - 1) + j) = _
    exact Ev_of_mod v (by rw [Nat.add_mod_mod, Nat.add_assoc])
  · rintro ⟨k, hk, hc⟩
    have hk := List.mem_range.mp hk
    have h := (turn_comm hu hk).mp hc
    have hj := Nat.mod_lt (1 + k) hv
    have b2 : (1 + k) % v.length + (u.length + v.length - Nat.gcd u.length v.length) ≤ (u.length + v.length) * v.length := by
      by_cases h1 : v.length = 1
      · rw [h1] at hj ⊢; omega
      · have := Nat.mul_le_mul_left (u.length + v.length) (show 2 ≤ v.length by omega)
        omega
    refine ⟨(1 + k) % v.length, b2, (mid_iff b1 b2).mpr fun i _ => ?_⟩
    rw [h (i + 1)]
    exact Ev_of_mod v (by rw [Nat.add_mod_mod, Nat.add_assoc])
end
end
section
theorem tellers (w : World) (mean mg mb) (u v : List Nat) (c3 : Nat) (l : Addr) (tu tv t0 t1 t2 tc : Tok)
    (h1 : 0 < u.length) (h2 : 0 < v.length) (hsum : u.length + v.length ≤ 16) (hc3 : 46 < c3) (hu : ∀ c ∈ u, c = 34 ∨ c = 97 ∨ c = c3) (hv : ∀ c ∈ v, c = 34 ∨ c = 97 ∨ c = c3) :
    CnT w mean mg mb 79 [.str ⟨u.toArray⟩ tu, .str ⟨v.toArray⟩ tv, .ref l, .int ((u.length : Int) + (v.length : Int) - (Nat.gcd u.length v.length : Nat)) tc] (fun s => s.heap.get? l = some (sgn t0 t1 t2 c3)) (fun s val h' => ∃ r, val = .ref r ∧ s.heap.get? r = none ∧ h'.get? r = some (W.listOf #[.bool (Cm u v), .bool (Cm u v), .bool (Cm u v), .bool (Cm u v)] 0)) := by
  have hg := Nat.gcd_pos_of_pos_left v.length h1
  have hgu := Nat.le_of_dvd h1 (Nat.gcd_dvd_left u.length v.length)
  have e : (u.length : Int) + (v.length : Int) - (Nat.gcd u.length v.length : Nat) = ((u.length + v.length - Nat.gcd u.length v.length : Nat) : Int) := by omega
  have eN : ((u.length : Int) + (v.length : Int)).toNat = u.length + v.length := by omega
  have := tellers_raw w mean mg mb u v c3 (u.length + v.length - Nat.gcd u.length v.length) l tu tv t0 t1 t2 tc _ (join_is u v) h1 h2 hsum hc3 hu hv (by omega) (by omega)
  rw [eN, Int.toNat_natCast, pre_is h1 h2, suf_is h1 h2, num_is hu hv] at this
  rw [e]
  exact this
theorem takers (w : World) (mean mg mb) (u v : List Nat) (tu tv tc : Tok)
    (h1 : 0 < u.length) (h2 : 0 < v.length) (hsum : u.length + v.length ≤ 16) (hndu : 46 ∉ u) (hndv : 46 ∉ v) :
    CnT w mean mg mb 86 [.str ⟨u.toArray⟩ tu, .str ⟨v.toArray⟩ tv, .int ((u.length : Int) + (v.length : Int) - (Nat.gcd u.length v.length : Nat)) tc] (fun _ => True) (fun s val h' => ∃ r, val = .ref r ∧ s.heap.get? r = none ∧ h'.get? r = some (W.listOf #[.bool (Cp u v), .bool (Tn u v)] 0)) := by
  have hg := Nat.gcd_pos_of_pos_left v.length h1
  have hgu := Nat.le_of_dvd h1 (Nat.gcd_dvd_left u.length v.length)
  have e : (u.length : Int) + (v.length : Int) - (Nat.gcd u.length v.length : Nat) = ((u.length + v.length - Nat.gcd u.length v.length : Nat) : Int) := by omega
  have eN : ((u.length : Int) + (v.length : Int)).toNat = u.length + v.length := by omega
  have eM : (((u.length + v.length - Nat.gcd u.length v.length : Nat) : Int) + 1 - 1).toNat = u.length + v.length - Nat.gcd u.length v.length := by omega
  have := takers_raw w mean mg mb u v (u.length + v.length - Nat.gcd u.length v.length) tu tv tc h1 h2 hsum hndu hndv (by omega) (by omega)
  rw [eN, eM, Int.toNat_natCast, two_is h1 h2, show (1 : Int).toNat = 1 from rfl, within_is h1 h2] at this
  rw [e]
  exact this
/-- a call whose value is a new list -/
theorem use_list {w : World} {mean mg mb} {f : Addr} {vs : List Value} {G : Shared → Prop} {items : Array Value} (C : CnT w mean mg mb f vs G (fun s val h' => ∃ r, val = .ref r ∧ s.heap.get? r = none ∧ h'.get? r = some (W.listOf items 0)))
    {dp un : Nat} {gd : Option (List Code)} {cn : PySem.Str} {cs : Scope} {a : Addr} {ccd : Value} {cl : List (PySem.Str × Addr)} {outer : List Env} {A₀ : Around} {base h₀ : Heap} {L : Addr} {m : PySem.Str → Option Value} {s : Shared} {Q E : Value → Shared → Prop} {news : List (Addr × Obj)}
    (B : Below A₀ base outer h₀) (F : Fr h₀ L s.heap m) (X : (Mine.hd.heap_39 w.params).In h₀) (T : Top Mine.hd.view_39 (looseW Mine.hd.view_39 []) mean mg mb h₀) (N : News h₀ L s.heap news) (hk : cs.kind = .function) (hG : G s) (hd : dp + 12 < recursionLimit) (hu : un + 100 < cLine)
    (h : ∀ r h' tk', Fr h₀ L h' m → News h₀ L h' ((r, W.listOf items 0) :: news) → (∀ p ∈ news, p.1 ≠ r) → Q (.ref r) { s with heap := h', toks := tk' }) :
    wpAny (model Pg w) (ktrTop dp un gd cn cs L a ccd cl outer) (call (.ref f) vs) Q E s := by
  refine use_cnT C B F X T N hk hG hd hu fun v h' tk' hR hk' F' N' => ?_
  obtain ⟨r, rfl, hn, hr⟩ := hR
  have h0 : h₀.get? r = none := by
    cases e : h₀.get? r with
    | none => rfl
    | some o => rw [F.keep _ _ e] at hn; cases hn
  have hL : r ≠ L := fun e => by
    obtain ⟨_, _, _, ho, _⟩ := F.ns
    rw [← e, hn] at ho; cases ho
  refine h r h' tk' F' (fun p hp => ?_) fun p hp e => ?_
  · rcases List.mem_cons.mp hp with rfl | hp
    · exact ⟨hr, hL, h0⟩
    · exact N' p hp
  · have := (N p hp).1
    rw [e, hn] at this; cases this
theorem copies_is {u v : List Nat} : ((⟨v.toArray⟩ : PySem.Str) == ⟨(rep u (((v.length : Int)).fdiv (u.length : Int)).toNat).toArray⟩) = Cp u v := by
  have e1 : ((v.length : Int).fdiv (u.length : Int)).toNat = v.length / u.length := by
    rw [Int.fdiv_eq_ediv_of_nonneg _ (by omega), ← Int.natCast_ediv]; rfl
  rw [tx_beq, e1]; rfl
end
section
section
open PyProof.Rows.LCg PyProof.Rows.LCt
variable {prog : Program} {w : World} {A : Around} {E : Value → Shared → Prop} {s : Shared} {h₀ : Heap} {L : Addr} {m : PySem.Str → Option Value} {env : Env}
/-- «y = [elt for x in range(n)]», n not written -/
theorem comp_range {elt iter : Expr} {x y : PySem.Str} {px py : Pos} {scope : Scope} {cl : List (PySem.Str × Addr)} {pos spos : Pos} {Q : Flow → Shared → Prop} (F₀ : Fr h₀ L s.heap m) (hLe : env.locals = L)
    (hsw : swapsWith (.ListComp elt [⟨.Name x px, iter, [], 0⟩] scope pos) (some (.Name y py)) spos.line env = pure true)
    (hclos : closureFor scope env = pure cl) (hcell : ∀ z ∈ scope.names, z.2 ≠ .cell) (hkind : scope.kind = .function)
    (hnames : ∀ z ∈ scope.names, z.2 = .local → scope.names.lookup z.1 = some .local) (hx : scope.names.lookup x = some .local)
    (hy : env.kindOf y = some .local) (hp : (env.scope.kind == .class || (env.scope.kind == .module && env.locals != env.globals)) = false) (hh : A.handled = none)
    (h : wpAny (model prog w) A (eval iter env) (fun xv s₁ => Stop (∃ r n t u v news, xv = .ref r ∧ Fr h₀ L s₁.heap m ∧ News h₀ L s₁.heap news ∧ IsRange s₁.heap r 0 ((n : Nat) : Int) 1 t u v ∧ n ≤ 1000 ∧
      ∀ s₂ : Shared, (∃ g, s₂ = { s₁ with heap := g }) → CompRest prog w A h₀ L m env elt x scope cl s₂ (fun _ => True) (fun i v => ∃ t, v = .int (0 + (i : Int)) t) (FinA h₀ L m s₂ y Q) n 0 [] news)) E s)
    (hs : ∀ x, foldedSetIterable iter env x = pure x := by intro _; rfl) :
    wpAny (model prog w) A (exec (.Assign [.Name y py] (.ListComp elt [⟨.Name x px, iter, [], 0⟩] scope pos) spos) env) Q E s := by
  refine Assign_ListComp_U F₀ hLe hsw hclos hcell hkind hnames hx hy hp (wpAny_mono h (fun xv s₁ q => ?_) fun _ _ e => e) hs
  obtain ⟨r, n, t, u, v, news, e, F, N, hr, hn, R⟩ := q
  refine .inr ⟨r, 0, n, t, u, v, n, news, e, hh, F, N, hr, small_one (by decide) (by decide) (by omega) (by omega), by rw [rangeSize_nat]; omega, by rw [sizeLine_eq]; omega, R⟩
/-- «[elt for x in xs if ct]» -/
theorem comp_test {ct elt iter : Expr} {x : PySem.Str} {px : Pos} {scope : Scope} {cl : List (PySem.Str × Addr)} {pos : Pos} {Q : Value → Shared → Prop} (F₀ : Fr h₀ L s.heap m)
    (hclos : closureFor scope env = pure cl) (hcell : ∀ y ∈ scope.names, y.2 ≠ .cell) (hkind : scope.kind = .function)
    (hnames : ∀ y ∈ scope.names, y.2 = .local → scope.names.lookup y.1 = some .local) (hx : scope.names.lookup x = some .local) (hh : A.handled = none)
    (h : wpAny (model prog w) A (eval iter env) (fun xv s₁ => Stop (∃ ax ys news, xv = .ref ax ∧ Fr h₀ L s₁.heap m ∧ News h₀ L s₁.heap news ∧ (ax, lst ys) ∈ news ∧ ys.length ≤ 1000 ∧
      ∀ s₂ : Shared, (∃ g, s₂ = { s₁ with heap := g }) → CompRestT prog w A h₀ L m env ct elt x scope cl s₂ (SrcAt h₀ ax ys.toArray) (fun i v => ys[i]? = some v) (FinE h₀ L m s₂ Q) ys.length 0 [] news)) E s)
    (hs : ∀ x, foldedSetIterable iter env x = pure x := by intro _; rfl) :
    wpAny (model prog w) A (eval (.ListComp elt [⟨.Name x px, iter, [ct], 0⟩] scope pos) env) Q E s := by
  refine ListComp_T F₀ hclos hcell hkind hnames hx (wpAny_mono h (fun xv s₁ q => ?_) fun _ _ e => e) hs
  obtain ⟨ax, ys, news, e, F, N, hm, hn, R⟩ := q
  refine .inl ⟨ax, ys.toArray, news, e, hh, F, N, .inr ⟨_, hm, rfl, _, rfl⟩, by rw [sizeLine_eq]; simp; omega, fun s₂ hs₂ => ?_⟩
  have := R s₂ hs₂
  simpa using this
/-- turns with a test, as many as there are, by what the test says of each item -/
theorem crestT {ct elt : Expr} {x : PySem.Str} {scope : Scope} {cl : List (PySem.Str × Addr)} {S : List (Addr × Obj) → Prop} {P : Nat → Value → Prop} {Fin : List Value → List (Addr × Obj) → Prop} {n : Nat} {news : List (Addr × Obj)} (B : Nat → Bool) (hS : S news)
    (elem : ∀ (i : Nat) (ys : List Value) v I oI C oC D m₂ h tk (E' : Value → Shared → Prop), i < n → P i v → NsObj oC m₂ → m₂ x = some v → Fr h₀ L h m → News h₀ L h ((I, oI) :: (C, oC) :: (D, lst ys) :: news) → Off3 I C D news → ((@Ne Nat I C) ∧ (@Ne Nat I D) ∧ (@Ne Nat C D)) →
      wpAny (model prog w) A (isTrue ct (compEnvC scope cl C env) (eval ct (compEnvC scope cl C env))) (fun ok s₂ => Stop (ok = B i ∧ ∃ h' tk', s₂ = { s with heap := h', toks := tk' } ∧ Fr h₀ L h' m ∧ News h₀ L h' ((I, oI) :: (C, oC) :: (D, lst ys) :: news) ∧
        wpAny (model prog w) A (eval elt (compEnvC scope cl C env)) (fun y s₃ => Stop (∃ h' tk', s₃ = { s with heap := h', toks := tk' } ∧ Fr h₀ L h' m ∧ News h₀ L h' ((I, oI) :: (C, oC) :: (D, lst ys) :: news))) E' s₂)) E' { s with heap := h, toks := tk })
    (fin : ∀ ys : List Value, ys.isEmpty = !(List.range n).any B → Fin ys news) :
    CompRestT prog w A h₀ L m env ct elt x scope cl s S P Fin n 0 [] news := by
  have key : ∀ (k i : Nat) (ys : List Value), i + k = n → ys.isEmpty = !(List.range i).any B → CompRestT prog w A h₀ L m env ct elt x scope cl s S P Fin k i ys news := by
    intro k
    induction k with
    | zero =>
      intro i ys hi hy
      exact CompRestT.zero (fin ys (by rw [hy, show i = n by omega]))
    | succ k ih =>
      intro i ys hi hy
      refine CompRestT.succ fun v I oI C oC D m₂ h tk E' hP hC hx F N off ne => ?_
      refine wpAny_mono (elem i ys v I oI C oC D m₂ h tk E' (by omega) hP hC hx F N off ne) (fun ok s₂ q => ?_) fun _ _ e => e
      obtain ⟨hok, h', tk', rfl, F', N', he⟩ := q
      cases ok with
      | true =>
        rw [if_pos rfl]
        refine wpAny_mono he (fun y s₃ q => ?_) fun _ _ e => e
        obtain ⟨h'', tk'', rfl, F'', N''⟩ := q
        refine CompEnd.intro (s₁ := { s with heap := h, toks := tk }) F'' N'' news (fun p hp => hp) off hS (ih (i + 1) (ys ++ [y]) (by omega) ?_)
        simp [List.range_succ, List.any_append, ← hok]
      | false =>
        rw [if_neg (by decide)]
        refine CompEnd.intro (s₁ := { s with heap := h, toks := tk }) F' N' news (fun p hp => hp) off hS (ih (i + 1) ys (by omega) ?_)
        simp [List.range_succ, List.any_append, ← hok, hy]
  exact key n 0 [] (by omega) rfl
theorem ne_nil {l b : Addr} {ys : List Value} {c : Bool} {Q : Value → Shared → Prop} (hl : s.heap.IsList l ys.toArray) (hb : s.heap.IsList b #[]) (hu : A.units < cLine) (hc : ys.isEmpty = !c) (h : Q (.bool c) s) :
    wpAny (model prog w) A (compareOp .NotEq (.ref l) (.ref b)) Q E s := by
  cases ys with
  | nil =>
    have hc' : c = false := by cases c <;> simp_all
    subst hc'
    have := SeqAt.RcNeAt.lists (A := A) (e := fun _ => true) hl hb rfl hu (fun j h1 => by simp at h1)
    exact this prog w E Q h
  | cons y r =>
    have hc' : c = true := by cases c <;> simp_all
    subst hc'
    exact SeqAt.RcNeAt.lists_lengths hl hb (by simp) hu prog w E Q h
end
section
variable {prog : Program} {w : World} {A : Around} {E : Value → Shared → Prop} {s : Shared} {env : Env} {h₀ : Heap} {target : Expr} {body : List Stmt} {Q : Flow → Shared → Prop}
/-- the loop over a made list, its turn told with an end of its own -/
theorem items_inv2 {I : Addr} {keep : List (Addr × Obj)} (J : (PySem.Str → Option Value) → List (Addr × Obj) → Prop) (hkeep : ∀ m news, J m news → SubL keep news)
    (done : ∀ m news h tk, J m news → Fr h₀ env.locals h m → News h₀ env.locals h news → Q .next { s with heap := h, toks := tk })
    (vs : List Value) (m : PySem.Str → Option Value) (news : List (Addr × Obj))
    (turn : ∀ v ∈ vs, ∀ m news h tk o (Q' : Flow → Shared → Prop), J m news → o.cls = .type "list_iterator" → Fr h₀ env.locals h m → News h₀ env.locals h ((I, o) :: news) →
      (∀ h' tk' m' news', Fr h₀ env.locals h' m' → News h₀ env.locals h' ((I, o) :: news') → (∀ p ∈ news', p.1 ≠ I) → J m' news' → Q' .next { s with heap := h', toks := tk' }) →
      wpAny (model prog w) A (assign target env v) (fun _ s₂ => wpAny (model prog w) A (execs body env) Q' E s₂) E { s with heap := h, toks := tk })
    (hJ : J m news) : ItemsRest prog w A E h₀ env target body Q s [(I, "list_iterator")] keep (vs.map .val) m news :=
  items_inv J hkeep done vs m news (fun v hv m news h tk o hJ ho F N => turn v hv m news h tk o _ hJ ho F N fun h' tk' m' news' F' N' off hJ' => ⟨rfl, h', tk', m', news', rfl, F', N', off, hJ'⟩) hJ
end
theorem reorder2 {h₀ h : Heap} {L : Addr} {t1 t2 t3 t4 t5 p a b d l e : Addr × Obj} (N : News h₀ L h [t1, t2, t3, t4, t5, p, a, b, d, l, e]) : News h₀ L h [p, d, a, b, l, e] := cb_drop N fun q hq => by
  simp only [List.mem_cons, List.not_mem_nil, or_false] at hq ⊢
  rcases hq with h | h | h | h | h | h <;> simp [h]
theorem off_five {I a b c d e : Addr} {o1 o2 o3 o4 o5 : Obj} (h1 : @Ne Nat a I) (h2 : @Ne Nat b I) (h3 : @Ne Nat c I) (h4 : @Ne Nat d I) (h5 : @Ne Nat e I) : ∀ p ∈ [(a, o1), (b, o2), (c, o3), (d, o4), (e, o5)], p.1 ≠ I := by
  intro p hp
  simp only [List.mem_cons, List.not_mem_nil, or_false] at hp
  rcases hp with rfl | rfl | rfl | rfl | rfl <;> assumption
end
local macro_rules | `(tactic| walk_at "my use4") => `(tactic| ((case B => k_asm); (case F => k_asm); (case X => k_asm); (case T => k_asm); (case N => k_asm); (case hk => first | exact rfl | assumption); (case hd => ktr_room); (case hu => ktr_units)))
local macro_rules | `(tactic| walk_at "exec If Compare cons nil") => `(tactic| refine Mine.Stop.out ?_)
local macro_rules | `(tactic| walk_at "exec If Compare cons cons") => `(tactic| refine Mine.Stop.out ?_)
local macro_rules | `(tactic| walk_at "exec For Name Subscript cons nil") => `(tactic| refine Mine.Stop.out ?_)
local macro_rules | `(tactic| walk_at "subscriptTail Name BinOp ref int") => `(tactic| (k_here; (try k_fmods); k_dflt (refine' sgn_item ?l ?h0 ?h3 ?_ ?hs; (case l => exact News.get (by k_asm) (by k_mem)); (case h0 => omega); (case h3 => omega); (case hs => with_unfolding_all rfl)); intro c' t' hc'))
local macro_rules | `(tactic| walk_at "subscriptTail Name Constant ref int") => `(tactic| (k_here; k_dflt (refine' int_item ?l ?i ?h0 ?_ ?hs; (case l => exact News.get (by k_asm) (by k_mem)); (case i => assumption); (case h0 => ((simp only [List.length_append, List.length_map, List.length_take, List.length_drop, List.length_cons, List.length_nil]); omega)); (case hs => with_unfolding_all rfl)); intro t'))
local macro_rules | `(tactic| walk_at "subscriptTail Name Constant ref int") => `(tactic| (k_here; (with_reducible show wpAny _ _ (subscriptTail _ _ (Value.ref _) (Value.int 1 _)) _ _ _); k_dflt (refine' tup_item1 ?l ?_ ?hs; (case l => exact News.get (by k_asm) (.head _)); (case hs => with_unfolding_all rfl))))
local macro_rules | `(tactic| walk_at "subscriptTail Name Constant ref int") => `(tactic| (k_here; (with_reducible show wpAny _ _ (subscriptTail _ _ (Value.ref _) (Value.int 0 _)) _ _ _); k_dflt (refine' tup_item0 ?l ?_ ?hs; (case l => exact News.get (by k_asm) (.head _)); (case hs => with_unfolding_all rfl))))
local macro_rules | `(tactic| walk_at "subscriptTail Name Slice ref ref") => `(tactic| (k_here; k_dflt (refine' kmk_slice_ints ?F ?N ?l ?p ?q ?i ?m ?c ?_ ?s ?t ?z; (case F => k_asm); (case N => k_asm); (case l => kmk_list); (case p => kmk_part); (case q => kmk_part); (case i => l_ints); (case m => first | exact kmk_upto (by l_ints) (by kmk_sign) | exact kmk_from (by l_ints) (by kmk_sign)); (case c => kmk_len); (case s => with_unfolding_all rfl); (case t => kmk_pure); (case z => kmk_size)); intro D' ws' h' F' N' l1 hI' hC' hL'; (try simp only [Int.reduceNeg, Int.neg_neg, Int.reduceToNat] at hI' hC' hL'); (try k_lt l1)))
local macro_rules | `(tactic| walk_at "subscriptTail List cons Slice ref ref") => `(tactic| (k_here; k_dflt (refine kba_turn (value' := PySem.Expr.Name (PySem.Str.ofString "z") ⟨0, 0, 0, 0⟩) (fun _ => rfl) ?_)))
local macro_rules | `(tactic| walk_at "assign Tuple") => `(tactic| (k_here; (with_reducible show wpAny _ _ (assign (Expr.Tuple _ _ _) _ (Value.ref _)) _ _ _); k_dflt (refine' unpackN_ ?F ?N ?T ?k1 ?k2 ?k3 ?_; (case F => k_asm); (case N => k_asm); (case T => exact News.isTup (by k_asm) (.head _)); (case k1 => exact rfl); (case k2 => exact rfl); (case k3 => exact rfl)); intro h' F' N'))
local macro_rules | `(tactic| walk_at "call ref") => `(tactic| (k_here; (with_reducible show wpAny _ _ (call (Value.ref 79) _) _ _ _); k_dflt (refine' use_list (tellers _ _ _ _ _ _ _ _ _ _ _ _ _ _ ?h1 ?h2 ?h3 ?h4 ?h5 ?h6) ?B ?F ?X ?T ?N ?hk ?hG ?hd ?hu ?_; (case hG => exact News.get (by k_asm) (by k_mem)); walk_at "my use4"; (case h1 => omega); (case h2 => omega); (case h3 => omega); (case h4 => omega); (case h5 => assumption); (case h6 => assumption)); intro r' h' tk' F' N' ne'))
local macro_rules | `(tactic| walk_at "call ref") => `(tactic| (k_here; (with_reducible show wpAny _ _ (call (Value.ref 86) _) _ _ _); k_dflt (refine' use_list (takers _ _ _ _ _ _ _ _ _ ?h1 ?h2 ?h3 ?h4 ?h5) ?B ?F ?X ?T ?N ?hk ?hG ?hd ?hu ?_; (case hG => trivial); walk_at "my use4"; (case h1 => omega); (case h2 => omega); (case h3 => omega); (case h4 => assumption); (case h5 => assumption)); intro r' h' tk' F' N' ne'))
local macro_rules | `(tactic| walk_at "exec Assign cons ListComp") => `(tactic| ((with_reducible show wpAny _ _ (exec (Stmt.Assign _ (PySem.Expr.ListComp (PySem.Expr.BinOp (PySem.Expr.Subscript _ _ _) _ _ _) _ _ _) _) _) _ _ _); refine Mine.Stop.out ?_))
local macro_rules | `(tactic| walk_at "eval ListComp") => `(tactic| ((with_reducible show wpAny _ _ (eval (PySem.Expr.ListComp (PySem.Expr.Name _ _) _ _ _) _) _ _ _); refine Mine.Stop.out ?_))
local macro_rules | `(tactic| walk_at "compareOp NotEq ref ref") => `(tactic| (k_here; (with_reducible show wpAny _ _ (compareOp CmpOp.NotEq (Value.ref _) (Value.ref _)) _ _ _); k_dflt (refine ne_nil ⟨_, News.get (by k_asm) (by k_mem), rfl, _, rfl⟩ ⟨_, News.get (by k_asm) (by k_mem), rfl, _, rfl⟩ (by first | units_room | exact Nat.le_of_ble_eq_true rfl | ktr_units) (by assumption) ?_)))
local macro_rules | `(tactic| walk_at "my comp range") => `(tactic| (k_dflt (refine' comp_range ?F ?L ?sw ?cl ?cell ?kind ?names ?x ?y ?p ?hh ?_ ?hs; (case F => k_asm); (case L => exact rfl); (case sw => with_unfolding_all rfl); (case cl => with_unfolding_all rfl); (case cell => decide); (case kind => exact rfl); (case names => decide); (case x => exact rfl); (case y => exact rfl); (case p => exact rfl); (case hh => exact rfl); (case hs => intro _; with_unfolding_all rfl))))
local macro_rules | `(tactic| walk_at "my comp test") => `(tactic| (k_dflt (refine' comp_test ?F ?cl ?cell ?kind ?names ?x ?hh ?_ ?hs; (case F => k_asm); (case cl => with_unfolding_all rfl); (case cell => decide); (case kind => exact rfl); (case names => decide); (case x => exact rfl); (case hh => exact rfl); (case hs => intro _; with_unfolding_all rfl))))
section
set_option maxHeartbeats 8000000 in
theorem law_holds : PySem.Challenge.rw_ty0008_01.Holds := Mine.hd (by
  w_strict (k_go0; (all_goals try k_fold); (rename Heap.CodeRec _ _ _ => z1); (first | (rename Dflts _ _ _ => z2) | (rename Dflts _ _ _ _ => z2) | (rename Dflts _ _ _ _ _ => z2) | (rename Dflts _ _ _ _ _ _ => z2)); clear z1 z2; k_steps)
  unfold Stop
  rename_i c1 t1 hc1 h1 o1 F1 N1 d1
  generalize hz : (47 + ((_ : Int).fdiv 18).fmod 50000).toNat = c3 at hc1 N1
  have h46 : 46 < c3 := by rw [← hz]; exact gt46 _
  have W1 := Wd.one hc1
  refine join_one F1 N1 (p := (_, _)) (q := (_, _)) (r := (_, _)) (fun u => Wd c3 u ∧ u.length ≤ 2) (.tail _ (.tail _ (.tail _ (.tail _ (.tail _ (.tail _ (.head _))))))) (.head _) (.tail _ (.head _)) (.tail _ (.tail _ (.tail _ (.tail _ (.tail _ (.tail _ (.tail _ (.head _)))))))) ?_ ?_
  · refine wpAny_If ?_
    k_steps
    all_goals unfold Stop
    · rename_i c5 t5 hc5 tz kz hkz h5 o5 F5 N5 d5
      exact ⟨rfl, _, _, _, _, _, rfl, F5, cb_drop N5 (sub_four (by k_mem) (by k_mem) (by k_mem) (by k_mem)), d5, W1.app (Wd.one hc5), by simp⟩
    · exact ⟨rfl, _, _, _, _, _, rfl, F1, cb_drop N1 (sub_four (by k_mem) (by k_mem) (by k_mem) (by k_mem)), d1, W1, by simp⟩
  · intro h2 tk2 o2 u t2 F2 N2 d2 hu
    clear W1 d1 N1 F1 
    k_steps
    unfold Stop
    rename Fr _ _ _ _ => lF'
    with_unfolding_all refine' For_turns lF' ?_
    k_steps
    rename_i h3 o3 F3 N3 d3 D4 ws4 h4 F4 N4 hI4 hC4 hL4 l4
    refine iter_listTurns rfl F4 N4 (.head _) rfl rfl fun I lI => ?_
    refine items_inv2 (LawJ _ _ _ _ _ _ _ _ c3) (fun m news => ?_) (fun m news hd tkd hJ Fd Nd => ?_) ws4 _ _ (fun x hx m news h5 tk5 oI Qn hJ hoI F5 N5 hret => ?_) ⟨_, _, u, u, _, _, rfl, d2, d3, hu.1, hu.1, by omega, by with_unfolding_all rfl⟩
    · rintro ⟨_, _, _, _, _, _, rfl, _⟩
      exact sub_last (.head _)
    · k_steps
    · obtain ⟨o1, o2, u, v, t1, t2, rfl, d1, d2, w1, w2, h16, hs⟩ := hJ
      obtain ⟨deed, td, rfl⟩ := ints_mem hI4 x hx
      have F6 := fr_congr (m' := fun z => if z = nSigns then some (.ref _) else m z) (fun z => by
        by_cases h1 : z = nSigns
        · rw [if_pos h1, h1, hs]
        rw [if_neg h1]) F5
      clear F5 hs F4 N4
      k_lt lI
      have q1 := w1.1
      have q2 := w1.2
      have q3 := w2.1
      have q4 := w2.2
      k_steps
      unfold Stop
      clear N5
      rename_i c5 t5 hc5 h5 F5 N5
      have w5 := Wd.one hc5
      refine join_pair F5 N5 (fun x y => Wd c3 x ∧ Wd c3 y ∧ x.length + y.length ≤ 48) ?_ ?_ ?_
      · refine wpAny_If ?_
        k_steps
        all_goals (try ((refine Mine.Stop.mk ?_); (with_reducible refine wpAny_If ?_); k_steps))
        all_goals (try ((refine Mine.Stop.mk ?_); (with_reducible refine wpAny_If ?_); k_steps))
        all_goals refine Mine.Stop.mk ?_
        all_goals rename_i h7 F7 N7
        all_goals refine ⟨rfl, _, _, _, _, _, _, _, rfl, F7, N7, ?_⟩
        · exact ⟨w2.app w1, w2, by simp; omega⟩
        · exact ⟨w1, w1.app w2, by simp; omega⟩
        · exact ⟨w1.app w5, w2, by simp; omega⟩
        · exact ⟨w1, w2.app w5, by simp; omega⟩
      · rintro h7 tk7 T x y tx ty htk7 F7 N7 ⟨wx, wy, hxy⟩
        clear F5 N5
        have N8 := reorder N7
        have e1 := tup_ne_cell N7 (.head _) (.tail _ (.tail _ (.tail _ (.head _)))) d1
        have e2 := tup_ne_cell N7 (.head _) (.tail _ (.tail _ (.tail _ (.tail _ (.head _))))) d2
        k_steps
        refine Mine.Stop.mk ?_
        refine join_two (s := ⟨h7, _, _, tk7, _⟩) F7 N8 (fun u v => Wd c3 u ∧ Wd c3 v ∧ u.length + v.length ≤ 16) ?_ ?_ ?_
        rotate_left 2
        · exact htk7
        · clear N8
          refine wpAny_If ?_
          k_steps
          all_goals refine Mine.Stop.mk ?_
          · rename_i hA oA FA NA dA hB oB FB NB dB
            exact ⟨rfl, _, _, _, _, x, y, tx, ty, rfl, FB, reorder NB, dA, dB, wx, wy, by omega⟩
          · exact ⟨rfl, _, _, _, _, _, _, _, _, rfl, F7, reorder N7, d1, d2, w1, w2, h16⟩
        · rintro h9 tk9 o3 o4 u v tu tv htk9 F9 N9 i1 i2 ⟨w1, w2, h16⟩
          clear F7 N7 N8 q1 q2 q3 q4
          have q1 := w1.1
          have q2 := w1.2
          have q3 := w2.1
          have q4 := w2.2
          have g1 : 0 < u.length.gcd v.length := Nat.gcd_pos_of_pos_left _ q2
          have g2 : u.length.gcd v.length ≤ u.length := Nat.le_of_dvd q2 (Nat.gcd_dvd_left ..)
          have g3 : 0 ≤ ((u.length : Int) + (v.length : Int)).fdiv (u.length.gcd v.length : Nat) := Int.fdiv_nonneg (by omega) (by omega)
          have g4 : ((u.length : Int) + (v.length : Int)).fdiv (u.length.gcd v.length : Nat) ≤ 16 := fdiv_le16 (by omega) (by omega) (by omega)
          have hsame := same_is q2 q4
          have g5 : 0 ≤ (v.length : Int).fdiv (u.length : Int) := Int.fdiv_nonneg (by omega) (by omega)
          have g6 : (v.length : Int).fdiv (u.length : Int) ≤ 16 := fdiv_le16 (by omega) (by omega) (by omega)
          have hcop := copies_is (u := u) (v := v)
          k_steps
          refine Mine.Stop.mk ?_
          refine wpAny_If ?_
          k_steps
          refine Mine.Stop.mk ?_
          walk_at "my comp range"
          k_steps
          refine Mine.Stop.mk ?_
          rename_i hr FF NN hkk
          have NN := cb_drop NN (fun p hp => List.Mem.tail _ (List.Mem.tail _ hp))
          refine ⟨_, v.length, _, _, _, _, rfl, FF, NN, hr, by omega, fun s₂ hs₂ => ?_⟩
          obtain ⟨hg, rfl⟩ := hs₂
          clear hkk hr
          refine crest trivial (R := fun i y => ∃ t, y = Value.str ⟨(turnL v i).toArray⟩ t) ?_ ?_
          · clear FF NN
            intro i ys vv I' oI' C oC D m₂ h tk E' hi hP hC hx F N off ne
            obtain ⟨ti, rfl⟩ := hP
            k_steps
            refine Mine.Stop.mk ?_
            rename Fr _ _ _ _ => FF
            rename News _ _ _ _ => NN
            exact ⟨⟨_, by rw [show (0 + (i : Int)).toNat = i by omega]; rfl⟩, _, _, rfl, FF, NN⟩
          · intro ys hlen hys
            clear FF NN
            k_steps
            refine Mine.Stop.mk ?_
            walk_at "my comp test"
            k_steps
            refine Mine.Stop.mk ?_
            rename Fr _ _ _ _ => FF
            rename News _ _ _ _ => NN
            refine ⟨_, ys, _, rfl, FF, NN, .head _, by omega, fun s₂ hs₂ => ?_⟩
            obtain ⟨hg2, rfl⟩ := hs₂
            refine crestT (fun i => Cm u (turnL v i)) (.inr ⟨_, .head _, rfl, _, rfl⟩) ?_ ?_
            · clear FF NN
              intro i zs vv I' oI' C oC D2 m₂ h tk E' hi hP hC hx F N off ne
              obtain ⟨ti, rfl⟩ := hys i vv hP
              have hcm := join_is u (turnL v i)
              have hlen2 : (turnL v i).length = v.length := by simp [turnL]; omega
              k_steps
              refine Mine.Stop.mk ?_
              refine ⟨rfl, _, _, rfl, F, N, ?_⟩
              k_steps
              exact ⟨_, _, rfl, F, N⟩
            · intro zs hzs
              have hzs : zs.isEmpty = !Tn u v := by rw [hzs, hlen]; rfl
              have hu46 : 46 ∉ u := fun q => by rcases q1 46 q with h | h | h <;> omega
              have hv46 : 46 ∉ v := fun q => by rcases q3 46 q with h | h | h <;> omega
              clear FF NN
              k_steps
              refine Mine.Stop.mk ?_
              refine wpAny_If ?_
              k_steps
              rename Fr _ _ _ _ => FF
              rename News _ _ _ _ => NN
              refine hret _ _ _ _ FF (reorder2 NN) (off_five ?_ ?_ ?_ ?_ ?_) ⟨o3, o4, u, v, tu, tv, rfl, i1, i2, w1, w2, h16, ?_⟩
              · show @Ne Nat _ _
                omega
              · show @Ne Nat _ _
                omega
              · show @Ne Nat _ _
                omega
              · show @Ne Nat _ _
                omega
              · show @Ne Nat _ _
                omega
              · with_unfolding_all rfl
      · dsimp only
        omega)
end
end Mine
theorem PySem.Challenge.cw_ty0008_01_holds : PySem.Challenge.rw_ty0008_01.Holds :=
  Mine.law_holds
