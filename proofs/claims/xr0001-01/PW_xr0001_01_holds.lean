import PyProof.Rows.All
import Wide.All
import OpenK.AllK
import Wide.FinOn
import Lean
import PySem.Challenge.RW_xr0001_01
set_option rowWalk.seconds 0
open PySem PySem.W PyProof.Rows
set_option Elab.async false
set_option maxRecDepth 100000
set_option maxHeartbeats 8000000
namespace Mine
open_top hd for PySem.Challenge.rw_xr0001_01
end Mine
namespace Mine
/-- the walks to come are no top's -/
theorem off_top : True := by
  w_top off
  trivial
end Mine
namespace Mine
theorem room1 {a b n : Nat} (h : a + b < n) : a < n := Nat.lt_of_le_of_lt (Nat.le_add_right a b) h
theorem room2 {a b x n : Nat} (h : a + b < n) (hc : x ≤ b) : a + x < n := Nat.lt_of_le_of_lt (Nat.add_le_add_left hc a) h
theorem room3 {a b x y n : Nat} (h : a + b < n) (hc : x + y ≤ b) : a + x + y < n := by rw [Nat.add_assoc]; exact room2 h hc
end Mine
local macro_rules | `(tactic| ktr_units) => `(tactic| first | exact Mine.room3 (by assumption) (by decide) | exact Mine.room2 (by assumption) (by decide) | exact Mine.room1 (by assumption))
local macro_rules | `(tactic| ktr_room) => `(tactic| first | exact Mine.room3 (by assumption) (by decide) | exact Mine.room2 (by assumption) (by decide) | exact Mine.room1 (by assumption))
local macro_rules | `(tactic| walk_at $s:str) => `(tactic| k_extra $s)
section

namespace Mine
/-- what a call of the def at f with these arguments gives back, wherever it is made: what it lays is «tl», ahead of the caller's ledger -/
def Con (w : World) (mean : ExcName → Option Value) (mg mb : Str → Option Value) (f : Addr) (vs : List Value) (d u : Nat) (pre : List (Addr × Obj) → Prop) (post : List (Addr × Obj) → List (Addr × Obj) → Value → Prop) : Prop :=
  ∀ (dp un : Nat) (gd : Option (List Code)) (cn : Str) (cs : Scope) (a : Addr) (ccd : Value) (cl : List (Str × Addr)) (outer : List Env) (A₀ : Around) (base h₀ : Heap) (L : Addr) (m : Str → Option Value) (news : List (Addr × Obj)) (s : Shared) (Q E : Value → Shared → Prop),
    Below A₀ base outer h₀ → Fr h₀ L s.heap m → (hd.heap_39 w.params).In h₀ → News h₀ L s.heap news → Top hd.view_39 (looseW hd.view_39 []) mean mg mb h₀ → cs.kind = .function →
    pre news → dp + d < recursionLimit → un + u < cLine →
    (∀ r tl h' tk', Fr h₀ L h' m → News h₀ L h' (tl ++ news) → post news tl r → Q r { s with heap := h', toks := tk' }) →
    wpAny (model PySem.Challenge.rw_xr0001_01.row.prog w) (ktrTop dp un gd cn cs L a ccd cl outer) (call (.ref f) vs) Q E s


section
variable {prog : Program} {w : World} {A A₀ : Around} {s : Shared} {K : Frag} {L : Addr} {h₀ base : Heap} {m mg mb : Str → Option Value} {news : List (Addr × Obj)} {p : Program} {loose : List Str} {mean : ExcName → Option Value}
theorem enter_def {env : Env} {outer : List Env} {R : Result → Shared → Prop} {name qual : Str} {params : Arguments} {body : List Stmt} {scope : Scope} {dV kV doc pm cdv ct oc : Value} {an od : Option Addr} {osl : Array (Option Value)} {f : Addr} {args : Args} (binds : List (Str × Value))
    (B : Below A₀ base outer h₀) (F : Fr h₀ L s.heap m) (X₀ : K.In h₀) (N : News h₀ L s.heap news) (T : Top p loose mean mg mb h₀) (hA : A.frames = some (env :: outer)) (hf : env.frame = some L) (hke : env.scope.kind = .function)
    (ho : K.lookup f = some ⟨oc, od, .func (fnOf name qual params body scope dV kV doc pm an cdv ct), osl⟩) (hcd : codeIn K cdv qual = true) (hroom : A.depth < recursionLimit)
    (hbind : BindsTo s (fnOf name qual params body scope dV kV doc pm an cdv ct) args binds) (hloc : (binds.all fun x => decide (scope.names.lookup x.1 = some .local)) = true)
    (hco : scope.isCoroutine = false) (hgen : scope.isGenerator = false) (hk : scope.kind = .function)
    (hcell : ∀ x ∈ scope.names, x.2 ≠ .cell)
    (h : ∀ g L' h₁ tk, Fr h₀ L g m → Fr g L' h₁ (fun y => binds.reverse.lookup y) → News g L' h₁ news → Below A base (env :: outer) g → K.In g → Top p loose mean mg mb g →
      wpAny (model prog w) (A.deeper (envOf qual scope L' f cdv)) (execs body (envOf qual scope L' f cdv))
        (fun fl s' => LeaveK h₀ L m g R (match fl with | .ret v => v | _ => .none) s')
        (fun e s' => wpAny (model prog w) (A.deeper (envOf qual scope L' f cdv)) (leaving (envOf qual scope L' f cdv) e) (fun _ s'' => R (.error e) s'') (fun e' s'' => R (.error e') s'') s')
        { s with heap := h₁, toks := tk }) : codeAny (model prog w) A (.call (.ref f) args) R s :=
  code_def B F X₀ N T hA hf hke ho hcd hroom hbind (locs hloc) (fun g L' h₁ a b c d e f => h g L' h₁ _ a b c d e f) hco hgen hk hcell

theorem enter_defC {env : Env} {outer : List Env} {R : Result → Shared → Prop} {name qual : Str} {params : Arguments} {body : List Stmt} {scope : Scope} {dV kV doc pm cdv ct oc : Value} {an od : Option Addr} {osl : Array (Option Value)} {f : Addr} {args : Args} (binds : List (Str × Value))
    (B : Below A₀ base outer h₀) (F : Fr h₀ L s.heap m) (X₀ : K.In h₀) (N : News h₀ L s.heap news) (T : Top p loose mean mg mb h₀) (hA : A.frames = some (env :: outer)) (hf : env.frame = some L) (hke : env.scope.kind = .function)
    (ho : K.lookup f = some ⟨oc, od, .func (fnOf name qual params body scope dV kV doc pm an cdv ct), osl⟩) (hcd : codeIn K cdv qual = true) (hroom : A.depth < recursionLimit)
    (hbind : BindsTo s (fnOf name qual params body scope dV kV doc pm an cdv ct) args binds) (hkind : (binds.all fun y => scope.names.lookup y.1 == some .local || scope.names.lookup y.1 == some .cell) = true)
    (hnd : ((cellsFrom 0 scope.names []).map (·.1)).Nodup)
    (hco : scope.isCoroutine = false) (hgen : scope.isGenerator = false) (hk : scope.kind = .function)
    (h : ∀ g L' h₁ tk cells, Fr h₀ L g m → Fr g L' h₁ (bindL (envOfC qual scope L' f cdv).kindOf binds fun _ => none) → News g L' h₁ (cells ++ news) →
      CellsAre (bindC (envOfC qual scope L' f cdv).kindOf binds fun _ => none) (cellsFrom (L' + 1) scope.names []) cells → Below A base (env :: outer) g → K.In g → Top p loose mean mg mb g → (∀ p ∈ news, p.1 < L') →
      wpAny (model prog w) (A.deeper (envOfC qual scope L' f cdv)) (execs body (envOfC qual scope L' f cdv))
        (fun fl s' => LeaveK h₀ L m g R (match fl with | .ret v => v | _ => .none) s')
        (fun e s' => wpAny (model prog w) (A.deeper (envOfC qual scope L' f cdv)) (leaving (envOfC qual scope L' f cdv) e) (fun _ s'' => R (.error e) s'') (fun e' s'' => R (.error e') s'') s')
        { s with heap := h₁, toks := tk }) : codeAny (model prog w) A (.call (.ref f) args) R s :=
  code_defC B F X₀ N T hA hf hke ho hcd hroom hbind hkind hnd h hco hgen hk
end

theorem Con.use {w : World} {mean : ExcName → Option Value} {mg mb : Str → Option Value} {f : Addr} {vs : List Value} {d u : Nat} {pre : List (Addr × Obj) → Prop} {post : List (Addr × Obj) → List (Addr × Obj) → Value → Prop}
    (C : Con w mean mg mb f vs d u pre post) {dp un : Nat} {gd : Option (List Code)} {cn : Str} {cs : Scope} {a : Addr} {ccd : Value} {cl : List (Str × Addr)} {outer : List Env} {A₀ : Around} {base h₀ : Heap} {L : Addr} {m : Str → Option Value} {news : List (Addr × Obj)} {s : Shared} {Q E : Value → Shared → Prop}
    (B : Below A₀ base outer h₀) (F : Fr h₀ L s.heap m) (X : (hd.heap_39 w.params).In h₀) (N : News h₀ L s.heap news) (T : Top hd.view_39 (looseW hd.view_39 []) mean mg mb h₀) (hk : cs.kind = .function)
    (hp : pre news) (hd' : dp + d < recursionLimit) (hu : un + u < cLine)
    (ret : ∀ r tl h' tk', Fr h₀ L h' m → News h₀ L h' (tl ++ news) → post news tl r → Q r { s with heap := h', toks := tk' }) :
    wpAny (model PySem.Challenge.rw_xr0001_01.row.prog w) (ktrTop dp un gd cn cs L a ccd cl outer) (call (.ref f) vs) Q E s :=
  C _ _ _ _ _ _ _ _ _ _ _ _ _ _ _ _ _ _ B F X N T hk hp hd' hu ret
end Mine
end
section
open PySem PySem.W PyProof.Rows PySem.Builtin PySem.Builtin.Str
namespace Mine
/-- the codes behind the last dot -/
def lastSeg (T : List Nat) : List Nat := (T.reverse.takeWhile (· != 46)).reverse

theorem subAt1 (x : Str) (c i : Nat) : subAt x ⟨#[c]⟩ i = true ↔ x.cps.toList[i]? = some c := by
  rw [StrLaws.subAt_eq]
  show ((x.cps.toList.drop i).take 1 == [c]) = true ↔ _
  rw [beq_iff_eq]
  cases h : x.cps.toList.drop i with
  | nil =>
    have : x.cps.toList[i]? = none := by
      have := List.drop_eq_nil_iff.mp h
      exact List.getElem?_eq_none this
    simp [this]
  | cons a r =>
    have : x.cps.toList[i]? = some a := by
      have h2 : (x.cps.toList.drop i)[0]? = some a := by rw [h]; rfl
      rw [List.getElem?_drop] at h2
      simpa using h2
    simp [this]

theorem occ_to (x : Str) (c hi : Nat) :
    (occurrences x ⟨#[c]⟩ 0 hi 1 = [] ∧ ∀ i, i < hi → x.cps.toList[i]? ≠ some c) ∨
    ∃ i r, occurrences x ⟨#[c]⟩ 0 hi 1 = i :: r ∧ i < hi ∧ x.cps.toList[i]? = some c ∧ ∀ k, k < i → x.cps.toList[k]? ≠ some c := by
  have hAt : ∀ i, StrLaws.At x ⟨#[c]⟩ hi i ↔ (i < hi ∧ x.cps.toList[i]? = some c) := fun i => by
    unfold StrLaws.At
    rw [subAt1]
    show i + 1 ≤ hi ∧ _ ↔ _
    constructor <;> (rintro ⟨a, b⟩; exact ⟨by omega, b⟩)
  rw [StrLaws.occ_eq]
  rcases StrLaws.occ_first x ⟨#[c]⟩ hi 1 (Nat.le_refl 1) (List.range' 0 (hi + 1 - 0)) 0 (fun _ _ => Nat.zero_le _) with ⟨h0, hn⟩ | ⟨pre, a, post, e, h0, ha, hn⟩
  · refine .inl ⟨by rw [h0], fun i hi' hc => ?_⟩
    exact hn i (by simp [List.mem_range'] <;> omega) ((hAt i).mpr ⟨hi', hc⟩)
  · refine .inr ⟨a, ((forIn (List.range' 0 (hi + 1 - 0)) ((#[] : Array Nat), 0) (StrLaws.occBody x ⟨#[c]⟩ hi 1)).run.fst.toList).tail, ?_, ((hAt a).mp ha).1, ((hAt a).mp ha).2, fun k hk hc => hn k (StrLaws.range'_split e k hk) ((hAt k).mpr ⟨Nat.lt_trans hk ((hAt a).mp ha).1, hc⟩)⟩
    generalize (forIn (List.range' 0 (hi + 1 - 0)) ((#[] : Array Nat), 0) (StrLaws.occBody x ⟨#[c]⟩ hi 1)).run.fst = arr at h0
    have h1 : arr.toList[0]? = some a := by simpa using h0
    cases hL : arr.toList with
    | nil => rw [hL] at h1; cases h1
    | cons b t => rw [hL] at h1; simp at h1; rw [h1]; rfl

theorem last_to (x : Str) (c hi : Nat) :
    (lastOccurrence x ⟨#[c]⟩ 0 hi = none ∧ ∀ i, i < hi → x.cps.toList[i]? ≠ some c) ∨
    ∃ i, lastOccurrence x ⟨#[c]⟩ 0 hi = some i ∧ i < hi ∧ x.cps.toList[i]? = some c ∧ ∀ k, i < k → k < hi → x.cps.toList[k]? ≠ some c := by
  have hAt : ∀ i, StrLaws.At x ⟨#[c]⟩ hi i ↔ (i < hi ∧ x.cps.toList[i]? = some c) := fun i => by
    unfold StrLaws.At
    rw [subAt1]
    show i + 1 ≤ hi ∧ _ ↔ _
    constructor <;> (rintro ⟨a, b⟩; exact ⟨by omega, b⟩)
  rw [StrLaws.last_eq]
  have key := StrLaws.last_run x ⟨#[c]⟩ hi (List.range' 0 (hi + 1 - 0)) [] none (fun _ h => nomatch h) (fun _ h => nomatch h) (by simpa using List.pairwise_lt_range' (s := 0) (n := hi + 1 - 0))
  have mem : ∀ i, i < hi → i ∈ [] ++ List.range' 0 (hi + 1 - 0) := fun i hi => by simp [List.mem_range'] <;> omega
  cases hr : (forIn (List.range' 0 (hi + 1 - 0)) none (StrLaws.lastBody x ⟨#[c]⟩ hi)).run with
  | none => rw [hr] at key; exact .inl ⟨rfl, fun i hi hc => key i (mem i hi) ((hAt i).mpr ⟨hi, hc⟩)⟩
  | some a => rw [hr] at key; exact .inr ⟨a, rfl, ((hAt a).mp key.1).1, ((hAt a).mp key.1).2, fun k hk hlt hc => key.2 k (mem k hlt) hk ((hAt k).mpr ⟨hlt, hc⟩)⟩

def find4 (x y : Str) (i j : Int) : Int := match occurrences x y (fromIndex x.length i) (min (fromIndex x.length j) x.length) 1 with | k :: _ => (k : Int) | [] => -1
def rfind4 (x y : Str) (i j : Int) : Int := match lastOccurrence x y (fromIndex x.length i) (min (fromIndex x.length j) x.length) with | some k => (k : Int) | none => -1

theorem gives_find4 (x y : Str) (i j : Int) (t u v v' : Tok) : Gives («str.find» ⟨[.str x t, .str y u, .int i v, .int j v'], []⟩) (.int (find4 x y i j)) := by
  show Gives (match occurrences x y (fromIndex x.length i) (min (fromIndex x.length j) x.length) 1 with | k :: _ => retInt k | [] => (do rule "str.find.not-found"; retInt (-1))) _
  unfold find4
  cases occurrences x y (fromIndex x.length i) (min (fromIndex x.length j) x.length) 1 with
  | nil => exact .rule (.of_eq rfl)
  | cons k _ => exact .of_eq rfl
theorem gives_rfind4 (x y : Str) (i j : Int) (t u v v' : Tok) : Gives («str.rfind» ⟨[.str x t, .str y u, .int i v, .int j v'], []⟩) (.int (rfind4 x y i j)) := by
  show Gives (match lastOccurrence x y (fromIndex x.length i) (min (fromIndex x.length j) x.length) with | some k => retInt k | none => (do rule "str.rfind.not-found"; retInt (-1))) _
  unfold rfind4
  cases lastOccurrence x y (fromIndex x.length i) (min (fromIndex x.length j) x.length) with
  | none => exact .rule (.of_eq rfl)
  | some k => exact .of_eq rfl

section
variable {prog : Program} {w : World} {A : Around} {E : Value → Shared → Prop} {s : Shared} {Q : Value → Shared → Prop} {x y : Str} {i j n : Int} {t u v v' : Tok}
theorem call_find4 (e : find4 x y i j = n) (hq : ∀ t' k, Q (.int n t') { s with toks := k }) : wpAny (model prog w) A (call (.builtin "str.find") [.str x t, .str y u, .int i v, .int j v']) Q E s :=
  call_gives F.slot_str_find (typeIs_str _ _ _) F.entry_str_find (F.args_str_find_4 _ _ _ _) (gives_find4 x y i j t u v v') (by rw [e]; exact hq _ _)
theorem call_rfind4 (e : rfind4 x y i j = n) (hq : ∀ t' k, Q (.int n t') { s with toks := k }) : wpAny (model prog w) A (call (.builtin "str.rfind") [.str x t, .str y u, .int i v, .int j v']) Q E s :=
  call_gives F.slot_str_rfind (typeIs_str _ _ _) F.entry_str_rfind (F.args_str_rfind_4 _ _ _ _) (gives_rfind4 x y i j t u v v') (by rw [e]; exact hq _ _)
end

theorem fromIndex_nat (n : Nat) (k : Nat) : fromIndex n (k : Int) = k := by
  unfold fromIndex
  rw [if_neg (by omega)]
  omega

theorem app_lt {T B : List Nat} {i : Nat} (h : i < T.length) : (T ++ B)[i]? = T[i]? := List.getElem?_append_left h
theorem head_at {T B : List Nat} : (T ++ B)[T.length]? = B.head? := by
  rw [List.getElem?_append_right (Nat.le_refl _)]
  simp [List.head?_eq_getElem?]

theorem lastSeg_none {T : List Nat} (h : ∀ i, i < T.length → T[i]? ≠ some 46) : lastSeg T = T := by
  unfold lastSeg
  rw [NumText.takeWhile_all ?_]
  · simp
  · intro c hc
    obtain ⟨i, hi, e⟩ := List.getElem_of_mem (List.mem_reverse.mp hc)
    have := h i hi
    rw [List.getElem?_eq_getElem hi, e] at this
    simp only [bne_iff_ne, ne_eq]
    intro e2; exact this (by rw [e2])
theorem lastSeg_some {T : List Nat} {i : Nat} (hi : i < T.length) (e : T[i]? = some 46) (h : ∀ k, i < k → k < T.length → T[k]? ≠ some 46) : lastSeg T = T.drop (i + 1) := by
  have e1 : T = T.take i ++ 46 :: T.drop (i + 1) := by
    have h2 : T[i] = 46 := by rw [List.getElem?_eq_getElem hi] at e; exact Option.some.inj e
    rw [← h2]
    simp
  have hall : ∀ c ∈ (T.drop (i + 1)).reverse, (c != 46) = true := by
    intro c hc
    obtain ⟨k, hk, ek⟩ := List.getElem_of_mem (List.mem_reverse.mp hc)
    have hk' : k < T.length - (i + 1) := by simpa using hk
    have := h (i + 1 + k) (by omega) (by omega)
    simp only [List.getElem_drop] at ek
    rw [List.getElem?_eq_getElem (by omega), ek] at this
    simp only [bne_iff_ne, ne_eq]
    intro e2; exact this (by rw [e2])
  unfold lastSeg
  conv => lhs; rw [e1]
  rw [List.reverse_append, List.reverse_cons, List.append_assoc, List.takeWhile_append_of_pos hall]
  simp

theorem slice_at (x : Str) (a b : Nat) (hab : a ≤ b) (hb : b ≤ x.length) : (Txt.slice x (some (a : Int)) (some (b : Int))).cps.toList = (x.cps.toList.drop a).take (b - a) := by
  unfold Txt.slice
  split
  · rename_i h
    rw [StrLaws.strSliceIndices_plain hab hb] at h
    have h2 : b - a = x.length := by simpa using h
    have ha : a = 0 := by omega
    have hl : x.cps.toList.length = x.length := by simp [Str.length]
    subst ha
    rw [List.drop_zero, List.take_of_length_le (by omega)]
  · show ((strSliceIndices (some (a : Int)) (some (b : Int)) 1 x.length).filterMap (x.cps[·]?)) = _
    exact StrLaws.sliced_plain x hab hb

/-- what the finds of _strip_exception_details give, where the text is T and what is behind it begins with a colon or a line end, or is nothing -/
theorem strip_facts (x : Str) (T B : List Nat) (hx : x.cps.toList = T ++ B) (hT : ∀ c ∈ T, c ≠ 10 ∧ c ≠ 58) (hB : B.head? = none ∨ B.head? = some 10 ∨ B.head? = some 58) :
    ∃ n1 e1 n2 n3 : Int, Txt.find x ⟨#[10]⟩ = n1 ∧ (0 ≤ n1 → e1 = n1) ∧ (n1 < 0 → e1 = x.length) ∧ find4 x ⟨#[58]⟩ 0 e1 = n2 ∧ (0 ≤ n2 → n2 = T.length) ∧ (n2 < 0 → e1 = T.length) ∧
      rfind4 x ⟨#[46]⟩ 0 T.length = n3 ∧ -1 ≤ n3 ∧ (n3 < 0 → n3 = -1) ∧ Txt.slice x (some (n3 + 1)) (some T.length) = ⟨(lastSeg T).toArray⟩ := by
  have hlen : x.length = T.length + B.length := by
    have := congrArg List.length hx
    simpa [Str.length] using this
  have noT : ∀ c, c = 10 ∨ c = 58 → ∀ i, i < T.length → x.cps.toList[i]? ≠ some c := by
    intro c hc i hi e
    rw [hx, app_lt hi, List.getElem?_eq_getElem hi] at e
    have := hT T[i] (List.getElem_mem hi)
    have e' := Option.some.inj e
    rcases hc with rfl | rfl
    · exact this.1 e'
    · exact this.2 e'
  have hat : x.cps.toList[T.length]? = B.head? := by rw [hx]; exact head_at
  -- the third find, alone
  have h3 : ∃ n3 : Int, rfind4 x ⟨#[46]⟩ 0 T.length = n3 ∧ -1 ≤ n3 ∧ (n3 < 0 → n3 = -1) ∧ Txt.slice x (some (n3 + 1)) (some T.length) = ⟨(lastSeg T).toArray⟩ := by
    have hm : min (fromIndex x.length (T.length : Int)) x.length = T.length := by rw [fromIndex_nat]; omega
    have h0 : fromIndex x.length 0 = 0 := fromIndex_nat _ 0
    unfold rfind4
    rw [hm, h0]
    have tx : ∀ i, i < T.length → x.cps.toList[i]? = T[i]? := fun i hi => by rw [hx, app_lt hi]
    rcases last_to x 46 T.length with ⟨e, hn⟩ | ⟨i, e, hi, he, hn⟩
    · refine ⟨-1, by rw [e], by omega, fun _ => rfl, ?_⟩
      have := slice_at x 0 T.length (Nat.zero_le _) (by omega)
      refine Str.ext' (Array.ext' ?_)
      show (Txt.slice x (some ((0 : Nat) : Int)) _).cps.toList = _
      rw [this, lastSeg_none (fun i hi => by rw [← tx i hi]; exact hn i hi), hx]
      simp
    · refine ⟨i, by rw [e], by omega, fun h => by omega, ?_⟩
      have := slice_at x (i + 1) T.length (by omega) (by omega)
      refine Str.ext' (Array.ext' ?_)
      show (Txt.slice x (some ((i + 1 : Nat) : Int)) _).cps.toList = _
      rw [this, lastSeg_some hi (by rw [← tx i hi]; exact he) (fun k hk hlt => by rw [← tx k hlt]; exact hn k hk hlt), hx]
      rw [List.drop_append_of_le_length (by omega), List.take_append_of_le_length (by simp), List.take_of_length_le (by simp)]
  obtain ⟨n3, h31, h32, h33, h34⟩ := h3
  have hf0 : fromIndex x.length 0 = 0 := fromIndex_nat _ 0
  have hfind : Txt.find x ⟨#[10]⟩ = (match occurrences x ⟨#[10]⟩ 0 x.length 1 with | i :: _ => (i : Int) | [] => -1) := rfl
  rcases hB with hB | hB | hB
  · -- nothing behind
    have hBn : B = [] := List.head?_eq_none_iff.mp hB
    subst hBn
    have hl : x.length = T.length := by simpa using hlen
    refine ⟨-1, T.length, -1, n3, ?_, by omega, fun _ => by rw [hl], ?_, by omega, fun _ => rfl, h31, h32, h33, h34⟩
    · rw [hfind]
      rcases occ_to x 10 x.length with ⟨e, hn⟩ | ⟨i, r, e, hi, he, hn⟩
      · rw [e]
      · exact absurd he (noT 10 (.inl rfl) i (by omega))
    · unfold find4
      rw [fromIndex_nat, hf0]
      rcases occ_to x 58 (min T.length x.length) with ⟨e, hn⟩ | ⟨i, r, e, hi, he, hn⟩
      · rw [e]
      · exact absurd he (noT 58 (.inr rfl) i (by omega))
  · -- a line end
    have hlB : 0 < B.length := by cases B with | nil => cases hB | cons _ _ => simp
    refine ⟨T.length, T.length, -1, n3, ?_, fun _ => rfl, fun h => by omega, ?_, by omega, fun _ => rfl, h31, h32, h33, h34⟩
    · rw [hfind]
      rcases occ_to x 10 x.length with ⟨e, hn⟩ | ⟨i, r, e, hi, he, hn⟩
      · exact absurd (hat.trans hB) (hn _ (by omega))
      · rw [e]
        have h1 : ¬ i < T.length := fun h => noT 10 (.inl rfl) i h he
        have h2 : ¬ T.length < i := fun h => hn _ h (hat.trans hB)
        show (i : Int) = _
        omega
    · unfold find4
      rw [fromIndex_nat, hf0]
      rcases occ_to x 58 (min T.length x.length) with ⟨e, hn⟩ | ⟨i, r, e, hi, he, hn⟩
      · rw [e]
      · exact absurd he (noT 58 (.inr rfl) i (by omega))
  · -- a colon
    have hlB : 0 < B.length := by cases B with | nil => cases hB | cons _ _ => simp
    have step : ∀ e1 : Nat, T.length < e1 → e1 ≤ x.length → find4 x ⟨#[58]⟩ 0 (e1 : Int) = T.length := by
      intro e1 h1 h2
      unfold find4
      rw [fromIndex_nat, hf0]
      have hm : min e1 x.length = e1 := by omega
      rw [hm]
      rcases occ_to x 58 e1 with ⟨e, hn⟩ | ⟨i, r, e, hi, he, hn⟩
      · exact absurd (hat.trans hB) (hn _ h1)
      · rw [e]
        have h1 : ¬ i < T.length := fun h => noT 58 (.inr rfl) i h he
        have h2 : ¬ T.length < i := fun h => hn _ h (hat.trans hB)
        show (i : Int) = _
        omega
    rcases occ_to x 10 x.length with ⟨e, hn⟩ | ⟨i, r, e, hi, he, hn⟩
    · refine ⟨-1, x.length, T.length, n3, by rw [hfind, e], by omega, fun _ => rfl, step _ (by omega) (Nat.le_refl _), fun _ => rfl, by omega, h31, h32, h33, h34⟩
    · have h1 : ¬ i < T.length := fun h => noT 10 (.inl rfl) i h he
      have h2 : i ≠ T.length := fun h => by
        rw [h, hat, hB] at he
        cases he
      refine ⟨i, i, T.length, n3, by rw [hfind, e], fun _ => rfl, by omega, step _ (by omega) (by omega), fun _ => rfl, by omega, h31, h32, h33, h34⟩
end Mine
end
section
open PySem PySem.W PyProof.Rows PySem.Calls
namespace Mine
section
variable {prog : Program} {w : World} {A : Around} {E : Value → Shared → Prop} {s : Shared} {h₀ : Heap} {L : Addr} {news : List (Addr × Obj)}
/-- an item of a list of the ledger at a place that the facts bound, from behind too -/
theorem item_list {value slice : PySem.Expr} {l : Addr} {vs : List Value} {n : Nat} {k : Int} {u : Tok} {Q : Value → Shared → Prop}
    (N : News h₀ L s.heap news) (hm : (l, W.listOf vs.toArray n) ∈ news) (h0 : -(vs.length : Int) ≤ k) (h1 : k < vs.length) (hz : vs.length < 2 ^ 62)
    (h : ∀ v, vs[(if k < 0 then k + vs.length else k).toNat]? = some v → Q v s)
    (hs : subscripted slice false (.ref l) (.int k u) = operate [.ref l, .int k u] (getItem (.ref l) (.int k u)) := by with_unfolding_all rfl) :
    wpAny (model prog w) A (subscriptTail value slice (.ref l) (.int k u)) Q E s := by
  have hl : s.heap.IsList l vs.toArray := News.isList N hm
  refine tail_any hl.typeIs slot_list_getitem.lookup ?_ hs
  by_cases hk : k < 0
  · rw [if_pos hk] at h
    have hlt : (k + vs.length).toNat < vs.length := by omega
    refine wpAny_getItem_list_neg hl hk (by simpa using h0) (by omega) (x := vs[(k + vs.length).toNat]) ?_ (h _ (by simp [hlt]))
    simp [hlt]
  · rw [if_neg hk] at h
    have hlt : k.toNat < vs.length := by omega
    refine wpAny_getItem_list hl (by omega) (by omega) (x := vs[k.toNat]) ?_ (h _ (by simp [hlt]))
    simp [hlt]
theorem item_list0 {value slice : PySem.Expr} {l : Addr} {vs : List Value} {n : Nat} {k : Int} {u : Tok} {Q : Value → Shared → Prop}
    (N : News h₀ L s.heap news) (hm : (l, W.listOf vs.toArray n) ∈ news) (h0 : 0 ≤ k) (h1 : k < vs.length) (hz : vs.length < 2 ^ 62)
    (h : ∀ v, vs[k.toNat]? = some v → Q v s)
    (hs : subscripted slice false (.ref l) (.int k u) = operate [.ref l, .int k u] (getItem (.ref l) (.int k u)) := by with_unfolding_all rfl) :
    wpAny (model prog w) A (subscriptTail value slice (.ref l) (.int k u)) Q E s :=
  item_list N hm (by omega) h1 hz (fun v hv => h v (by rw [if_neg (by omega)] at hv; exact hv)) hs
end
end Mine
end
section
open PySem PySem.W PyProof.Rows PySem.Builtin PySem.Builtin.Str
namespace Mine
/-- the codes of an int's decimal writing -/
def digs (v : Int) : List Nat := (Str.ofString (toString v)).cps.toList

/-- the text of a stack, its top first -/
def rend : List Int → List Nat
  | [] => [67]
  | v :: S => rend S ++ 46 :: digs v
def textOf (S : List Int) : Str := ⟨(rend S).toArray⟩

/-- one deed on a stack, its top first -/
def stepD (d v : Int) (S : List Int) : Option (List Int) :=
  if d = 4 then some (v :: S)
  else if d = 3 then (match S with | a :: S => some (-a :: S) | [] => none)
  else match S with
    | r :: l :: S => some ((if d = 0 then l + r else if d = 1 then l - r else l * r) :: S)
    | _ => none
/-- the first n deeds of a turn -/
def runN (D : List (Int × Int)) (t : Nat) : Nat → Option (List Int)
  | 0 => some []
  | n + 1 => (runN D t n).bind fun S => stepD (D.getD ((t + n) % 8) (4, 0)).1 (D.getD ((t + n) % 8) (4, 0)).2 S

theorem digs_repr (v : Int) : digs v = (toString v).toList.map Char.toNat := by
  unfold digs
  rw [Str.ofString_eq_toList]
theorem digs_ofNat (m : Nat) : digs (m : Int) = (Nat.toDigits 10 m).map Char.toNat := W.KIN.signs_num m
theorem digs_neg (m : Nat) : digs (-((m + 1 : Nat) : Int)) = 45 :: (Nat.toDigits 10 (m + 1)).map Char.toNat := by
  rw [digs_repr]
  show (toString (Int.negSucc m)).toList.map Char.toNat = _
  show ("-" ++ Nat.repr (m + 1)).toList.map Char.toNat = _
  rw [String.toList_append, List.map_append, Nat.toList_repr]
  rfl
theorem digit_code {c : Nat} {m : Nat} (h : c ∈ (Nat.toDigits 10 m).map Char.toNat) : 48 ≤ c ∧ c ≤ 57 := by
  obtain ⟨ch, hch, e⟩ := List.mem_map.mp h
  have r := digit_range (Nat.isDigit_of_mem_toDigits (by decide) (by decide) hch)
  rw [← e]
  exact r
theorem digs_code {v : Int} {c : Nat} (h : c ∈ digs v) : c = 45 ∨ (48 ≤ c ∧ c ≤ 57) := by
  rcases Int.lt_or_le v 0 with hv | hv
  · obtain ⟨m, rfl⟩ : ∃ m : Nat, v = -((m + 1 : Nat) : Int) := ⟨v.natAbs - 1, by omega⟩
    rw [digs_neg] at h
    rcases List.mem_cons.mp h with rfl | h
    · exact .inl rfl
    · exact .inr (digit_code h)
  · obtain ⟨m, rfl⟩ := Int.eq_ofNat_of_zero_le hv
    rw [digs_ofNat] at h
    exact .inr (digit_code h)
theorem digs_len {v : Int} {n : Nat} (hn : 0 < n) (h : v.natAbs < 10 ^ n) : (digs v).length ≤ n + 1 := by
  have hd : ∀ m : Nat, m < 10 ^ n → ((Nat.toDigits 10 m).map Char.toNat).length ≤ n := fun m hm => by
    rw [List.length_map]
    exact (Nat.length_toDigits_le_iff (by decide) hn).mpr hm
  rcases Int.lt_or_le v 0 with hv | hv
  · obtain ⟨m, rfl⟩ : ∃ m : Nat, v = -((m + 1 : Nat) : Int) := ⟨v.natAbs - 1, by omega⟩
    rw [digs_neg]
    have := hd (m + 1) (by omega)
    simp only [List.length_cons]
    omega
  · obtain ⟨m, rfl⟩ := Int.eq_ofNat_of_zero_le hv
    rw [digs_ofNat]
    have := hd m (by omega)
    omega
theorem toDigits_ne (m : Nat) : (Nat.toDigits 10 m).map Char.toNat ≠ [] := by
  intro e
  have h := toDigits_len_ge 10 m
  rw [List.map_eq_nil_iff.mp e] at h
  exact absurd h (by decide)
theorem digs_ne (v : Int) : digs v ≠ [] := by
  rcases Int.lt_or_le v 0 with hv | hv
  · obtain ⟨m, rfl⟩ : ∃ m : Nat, v = -((m + 1 : Nat) : Int) := ⟨v.natAbs - 1, by omega⟩
    rw [digs_neg]
    exact List.cons_ne_nil _ _
  · obtain ⟨m, rfl⟩ := Int.eq_ofNat_of_zero_le hv
    rw [digs_ofNat]
    exact toDigits_ne m
/-- int() reads the writing of an int back -/
theorem digs_reads {v : Int} {x : Str} (hx : x.cps.toList = digs v) (hl : x.length ≤ 640) : PySem.intText? x = some v := by
  rcases Int.lt_or_le v 0 with hv | hv
  · obtain ⟨m, rfl⟩ : ∃ m : Nat, v = -((m + 1 : Nat) : Int) := ⟨v.natAbs - 1, by omega⟩
    rw [digs_neg] at hx
    have := PySem.intText_neg hx (fun c hc => digit_code hc) (toDigits_ne _) (by omega)
    rw [W.KIN.val_back] at this
    exact this
  · obtain ⟨m, rfl⟩ := Int.eq_ofNat_of_zero_le hv
    rw [digs_ofNat] at hx
    have := PySem.intText_digits (x := x) (by rw [hx]; exact fun c hc => digit_code hc) (by rw [hx]; exact toDigits_ne m) (by omega)
    rw [hx, W.KIN.val_back] at this
    exact this

theorem lastSeg_nil : lastSeg (rend []) = [67] := by decide
theorem lastSeg_cons (v : Int) (S : List Int) : lastSeg (rend (v :: S)) = digs v := by
  have hall : ∀ c ∈ (digs v).reverse, (c != 46) = true := by
    intro c hc
    have := digs_code (List.mem_reverse.mp hc)
    simp only [bne_iff_ne, ne_eq]
    omega
  unfold lastSeg
  show ((rend S ++ 46 :: digs v).reverse.takeWhile _).reverse = _
  rw [List.reverse_append, List.reverse_cons, List.append_assoc, List.takeWhile_append_of_pos hall]
  simp
theorem rend_codes : ∀ (S : List Int) (c : Nat), c ∈ rend S → c ≠ 10 ∧ c ≠ 58
  | [], c, h => by
    have : c = 67 := by simpa [rend] using h
    omega
  | v :: S, c, h => by
    rcases List.mem_append.mp h with h | h
    · exact rend_codes S c h
    · rcases List.mem_cons.mp h with rfl | h
      · decide
      · have := digs_code h
        omega
theorem rend_ne_C {v : Int} {S : List Int} : textOf (v :: S) ≠ Str.ofString "C" := by
  intro e
  have h1 := congrArg (fun x : Str => lastSeg x.cps.toList) e
  have h2 : (Str.ofString "C") = textOf [] := by decide +kernel
  rw [h2] at h1
  have h3 : lastSeg (rend (v :: S)) = lastSeg (rend []) := h1
  rw [lastSeg_cons, lastSeg_nil] at h3
  have := digs_code (v := v) (c := 67) (by rw [h3]; exact List.mem_singleton.mpr rfl)
  omega
theorem digs_ne_C (v : Int) : (⟨(digs v).toArray⟩ : Str) ≠ Str.ofString "C" := by
  intro e
  have h1 := congrArg (fun x : Str => x.cps.toList) e
  have h2 : (Str.ofString "C").cps.toList = [67] := by decide +kernel
  rw [h2] at h1
  have h3 : digs v = [67] := h1
  have := digs_code (v := v) (c := 67) (by rw [h3]; exact List.mem_singleton.mpr rfl)
  omega
theorem textOf_nil : textOf [] = Str.ofString "C" := by decide +kernel
theorem textOf_snoc (v : Int) (S : List Int) : textOf S ++ Str.ofString "." ++ Str.ofString (toString v) = textOf (v :: S) := by
  refine Str.ext' (Array.ext' ?_)
  have h : (Str.ofString ".").cps.toList = [46] := by decide +kernel
  rw [Str.cps_append, Str.cps_append, Array.toList_append, Array.toList_append, h]
  show (rend S ++ [46]) ++ digs v = rend S ++ 46 :: digs v
  simp
theorem length_textOf (S : List Int) : (textOf S).length = (rend S).length := by simp [textOf, Str.length]
/-- what is left of the text when its last value and the dot ahead of it go -/
theorem textOf_cut (v : Int) (S : List Int) : Txt.slice (textOf (v :: S)) none (some (((textOf (v :: S)).length : Int) - ((⟨(digs v).toArray⟩ : Str).length : Int) - 1)) = textOf S := by
  have hl : (textOf (v :: S)).length = (rend S).length + 1 + (digs v).length := by
    rw [length_textOf]; show (rend S ++ 46 :: digs v).length = _; simp; omega
  have hd : (⟨(digs v).toArray⟩ : Str).length = (digs v).length := by simp [Str.length]
  have e : (((textOf (v :: S)).length : Int) - ((⟨(digs v).toArray⟩ : Str).length : Int) - 1) = ((rend S).length : Int) := by omega
  rw [e]
  have h0 : Txt.slice (textOf (v :: S)) none (some ((rend S).length : Int)) = Txt.slice (textOf (v :: S)) (some ((0 : Nat) : Int)) (some ((rend S).length : Int)) := by
    unfold Txt.slice
    have : ∀ n, strSliceIndices none (some ((rend S).length : Int)) 1 n = strSliceIndices (some ((0 : Nat) : Int)) (some ((rend S).length : Int)) 1 n := by
      intro n
      unfold strSliceIndices sliceRange
      have e0 : max (0 : Int) (min 0 (n : Int)) = 0 := by omega
      simp [e0]
    rw [this]
  rw [h0]
  refine Str.ext' (Array.ext' ?_)
  rw [slice_at _ _ _ (Nat.zero_le _) (by omega)]
  show ((rend S ++ 46 :: digs v).drop 0).take ((rend S).length - 0) = rend S
  simp

/-- a stack's values are bounded: their exponents of ten sum up to n at most -/
def Bd : List Int → Nat → Prop
  | [], _ => True
  | v :: S, n => ∃ e, v.natAbs ≤ 10 ^ e ∧ e ≤ n ∧ Bd S (n - e)
theorem Bd.mono : ∀ {S : List Int} {n m : Nat}, n ≤ m → Bd S n → Bd S m
  | [], _, _, _, _ => True.intro
  | _ :: _, _, _, h, ⟨e, h1, h2, h3⟩ => ⟨e, h1, by omega, Bd.mono (by omega) h3⟩
theorem Bd.val {v : Int} {S : List Int} {n : Nat} (h : Bd (v :: S) n) : v.natAbs ≤ 10 ^ n := by
  obtain ⟨e, h1, h2, _⟩ := h
  exact Nat.le_trans h1 (Nat.pow_le_pow_right (by decide) h2)
theorem Bd.tail {v : Int} {S : List Int} {n : Nat} (h : Bd (v :: S) n) : Bd S n := by
  obtain ⟨e, h1, h2, h3⟩ := h
  exact h3.mono (by omega)
theorem Bd.push {v : Int} {S : List Int} {n : Nat} (hv : v.natAbs ≤ 10 ^ 7) (h : Bd S n) : Bd (v :: S) (n + 7) := ⟨7, hv, by omega, h.mono (by omega)⟩
theorem Bd.neg {v : Int} {S : List Int} {n : Nat} (h : Bd (v :: S) n) : Bd (-v :: S) n := by
  obtain ⟨e, h1, h2, h3⟩ := h
  exact ⟨e, by omega, h2, h3⟩
theorem Bd.two {r l v : Int} {S : List Int} {n : Nat} (h : Bd (r :: l :: S) n) (hv : v.natAbs ≤ r.natAbs + l.natAbs ∨ v.natAbs ≤ r.natAbs * l.natAbs) : Bd (v :: S) (n + 7) := by
  obtain ⟨e, h1, h2, e', h3, h4, h5⟩ := h
  refine ⟨e + e' + 1, ?_, by omega, h5.mono (by omega)⟩
  have hp : 0 < 10 ^ e := Nat.pow_pos (by decide)
  have hp' : 0 < 10 ^ e' := Nat.pow_pos (by decide)
  have hm : 10 ^ (e + e' + 1) = 10 ^ e * 10 ^ e' * 10 := by rw [Nat.pow_succ, Nat.pow_add]
  rw [hm]
  have h6 : 10 ^ e ≤ 10 ^ e * 10 ^ e' := Nat.le_mul_of_pos_right _ hp'
  have h7 : 10 ^ e' ≤ 10 ^ e * 10 ^ e' := Nat.le_mul_of_pos_left _ hp
  rcases hv with hv | hv
  · omega
  · have : r.natAbs * l.natAbs ≤ 10 ^ e * 10 ^ e' := Nat.mul_le_mul h1 h3
    omega

theorem Bd.len {n : Nat} (hn : 0 < n) : ∀ {S : List Int}, Bd S n → (rend S).length ≤ 1 + S.length * (n + 3)
  | [], _ => by simp [rend]
  | v :: S, h => by
    have h1 := Bd.len hn h.tail
    have h2 : (digs v).length ≤ n + 2 := digs_len (n := n + 1) (by omega) (Nat.lt_of_le_of_lt h.val (Nat.pow_lt_pow_right (by decide) (by omega)))
    show (rend S ++ 46 :: digs v).length ≤ _
    simp only [List.length_append, List.length_cons, Nat.add_mul, Nat.one_mul]
    omega

theorem stepD_bd {d v : Int} {S S' : List Int} {n : Nat} (h : Bd S n) (hv : v.natAbs ≤ 10 ^ 7) (e : stepD d v S = some S') : Bd S' (n + 7) ∧ S'.length ≤ S.length + 1 := by
  unfold stepD at e
  split at e
  · cases e; exact ⟨h.push hv, by simp⟩
  · split at e
    · cases S with
      | nil => cases e
      | cons a S => cases e; exact ⟨h.neg.mono (by omega), by simp⟩
    · match S, h, e with
      | r :: l :: S, h, e =>
        cases e
        refine ⟨h.two ?_, by simp⟩
        split
        · omega
        · split
          · omega
          · right; rw [Int.natAbs_mul, Nat.mul_comm]; exact Nat.le_refl _
theorem runN_bd {D : List (Int × Int)} {t : Nat} (hD : ∀ i, (D.getD i (4, 0)).2.natAbs ≤ 10 ^ 7) : ∀ {n : Nat} {S : List Int}, runN D t n = some S → Bd S (7 * n) ∧ S.length ≤ n
  | 0, S, e => by cases e; exact ⟨True.intro, by simp⟩
  | n + 1, S, e => by
    unfold runN at e
    obtain ⟨S₀, e1, e2⟩ := Option.bind_eq_some_iff.mp e
    obtain ⟨h1, h2⟩ := runN_bd hD e1
    obtain ⟨h3, h4⟩ := stepD_bd h1 (hD _) e2
    exact ⟨h3.mono (by omega), by omega⟩
end Mine
end
section
open PySem PySem.W PyProof.Rows
set_option Elab.async false
set_option maxRecDepth 100000
set_option maxHeartbeats 8000000
namespace Mine

theorem rows_B2_0 : True := by
  k_with_none
  (k_with "my enter" => ((case kA => exact rfl); (case kF => exact rfl); (case kK => assumption); (case k1 => k_asm); (case k2 => k_asm); (case k3 => k_asm); (case k4 => k_asm); (case k5 => k_asm); (case k6 => k_is); (case k7 => k_is); (case k8 => ktr_room); (case k9 => exact BindsTo.of_eq rfl); (case c5 => decide); (case kB => exact rfl); (case c2 => exact rfl); (case c3 => exact rfl); (case c4 => exact rfl); k_whole; intro g' L' h' tk0 FG' F' N' B' X' T'; (try dsimp only [List.reverse_cons, List.reverse_nil, List.nil_append, List.cons_append] at F'); (try dsimp only); (try k_lift B'); (try k_fold)))
  (k_with "my sub" => (intro p hp; repeat (first | exact hp | refine List.mem_cons_of_mem _ ?_ | refine List.mem_append_right _ ?_)))
  (k_with "call builtin:len" => (k_here; (with_reducible show wpAny _ _ (call (Value.builtin "len") [Value.str _ _]) _ _ _); refine SBL.len (by omega) ?_))
  (k_with "call builtin:str.find" => (k_here; (with_reducible show wpAny _ _ (call (Value.builtin "str.find") [Value.str _ _, Value.str _ _, Value.int _ _, Value.int _ _]) _ _ _); (refine call_find4 rfl ?_); intro _ _))
  (k_with "call builtin:str.rfind" => (k_here; (with_reducible show wpAny _ _ (call (Value.builtin "str.rfind") [Value.str _ _, Value.str _ _, Value.int _ _, Value.int _ _]) _ _ _); (refine call_rfind4 rfl ?_); intro _ _))
  trivial
theorem str10 : Str.ofString "\n" = ⟨#[10]⟩ := by decide +kernel
theorem str58 : Str.ofString ":" = ⟨#[58]⟩ := by decide +kernel
theorem str46 : Str.ofString "." = ⟨#[46]⟩ := by decide +kernel

theorem strip_all (x : Str) (T B : List Nat) (hx : x.cps.toList = T ++ B) (hT : ∀ c ∈ T, c ≠ 10 ∧ c ≠ 58) (hB : B.head? = none ∨ B.head? = some 10 ∨ B.head? = some 58) (r : Int)
    (hr : 0 ≤ Txt.find x (Str.ofString "\n") ∧ r = Txt.find x (Str.ofString "\n") ∨ ¬ 0 ≤ Txt.find x (Str.ofString "\n") ∧ r = (x.length : Int)) :
    (0 ≤ find4 x (Str.ofString ":") 0 r → find4 x (Str.ofString ":") 0 r = (T.length : Int)) ∧ (¬ 0 ≤ find4 x (Str.ofString ":") 0 r → r = (T.length : Int)) ∧
    (0 ≤ rfind4 x (Str.ofString ".") 0 (T.length : Int) → Txt.slice x (some (rfind4 x (Str.ofString ".") 0 (T.length : Int) + 1)) (some (T.length : Int)) = ⟨(lastSeg T).toArray⟩) ∧
    (¬ 0 ≤ rfind4 x (Str.ofString ".") 0 (T.length : Int) → Txt.slice x (some 0) (some (T.length : Int)) = ⟨(lastSeg T).toArray⟩) := by
  rw [str10] at hr
  rw [str58, str46]
  obtain ⟨n1, e1, n2, n3, f1, f2, f3, f4, f5, f6, f7, f8, f9, f10⟩ := strip_facts x _ _ hx hT hB
  rw [f1] at hr
  have he : r = e1 := by omega
  rw [he, f4, f7]
  refine ⟨fun h => f5 h, fun h => f6 (by omega), fun _ => f10, fun h => ?_⟩
  have := f9 (by omega)
  rw [this] at f10
  exact f10

theorem con_strip (w mean mg mb) (x : Str) (t : Tok) (T B : List Nat) (hlen : x.length < 2 ^ 20) (hx : x.cps.toList = T ++ B) (hT : ∀ c ∈ T, c ≠ 10 ∧ c ≠ 58) (hB : B.head? = none ∨ B.head? = some 10 ∨ B.head? = some 58) : Con w mean mg mb 21 [.str x t] 1 8
    (fun news => True) (fun _ tl r => tl = [] ∧ ∃ t', r = .str ⟨(lastSeg T).toArray⟩ t') := by
  unfold Con
  k_fill
  intro dp un gd cn cs a' ccd cl outer A₀ base h₀ L m news s Q E B F X N T hk hp hd' hu hret
  have fx := strip_all x _ _ hx hT hB
  refine wpAny_call ?_
  k_dflt (refine' enter_def [("msg", .str x t)] ?k1 ?k2 ?k3 ?k4 ?k5 ?kA ?kF ?kK ?k6 ?k7 ?k8 ?k9 ?kB ?c2 ?c3 ?c4 ?c5 ?_)
  walk_at "my enter"
  k_steps
  all_goals (
    (obtain ⟨p1, p2, p3, p4⟩ := fx _ (by assumption))
    (refine hret _ [] _ _ (by assumption) (cb_drop (by assumption) (by walk_at "my sub")) ⟨rfl, _, congrArg (Value.str · _) ?_⟩)
    (first | have p0 := p1 (by assumption) | have p0 := p2 (by assumption))
    rw [p0]
    (first | exact p3 (by rw [← p0]; assumption) | exact p4 (by rw [← p0]; assumption)))
end Mine
end
section
open PySem PySem.W PyProof.Rows
set_option Elab.async false
set_option maxRecDepth 100000
set_option maxHeartbeats 8000000
namespace Mine

theorem rows_B4_0 : True := by
  k_with_none
  (k_with "my enter" => ((case kA => exact rfl); (case kF => exact rfl); (case kK => assumption); (case k1 => k_asm); (case k2 => k_asm); (case k3 => k_asm); (case k4 => k_asm); (case k5 => k_asm); (case k6 => k_is); (case k7 => k_is); (case k8 => ktr_room); (case k9 => exact BindsTo.of_eq rfl); (case c5 => decide); (case kB => exact rfl); (case c2 => exact rfl); (case c3 => exact rfl); (case c4 => exact rfl); k_whole; intro g' L' h' tk0 FG' F' N' B' X' T'; (try dsimp only [List.reverse_cons, List.reverse_nil, List.nil_append, List.cons_append] at F'); (try dsimp only); (try k_lift B'); (try k_fold)))
  (k_with "my sub" => (intro p hp; repeat (first | exact hp | refine List.mem_cons_of_mem _ ?_ | refine List.mem_append_right _ ?_)))
  (k_with "my use" => ((case k1 => k_asm); (case k2 => k_asm); (case k3 => k_asm); (case k4 => k_asm); (case k5 => k_asm); (case kK => first | exact rfl | assumption); (case kd => ktr_room); (case ku => ktr_units)))
  (k_with "my got str" => (intro r9 tl9 h9 tk9 F9 N9 p9; obtain ⟨e9, t9, e8⟩ := p9; subst e9; subst e8; simp only [List.nil_append] at N9; (try dsimp only); (try k_fold)))
  trivial
theorem con_build_nn (w mean mg mb) (a : Addr)  (n : Nat) : Con w mean mg mb 28 [.ref a] 1 8
    (fun news => (a, ({ cls := .type "tuple", data := .seq #[.none, .none] n } : Obj)) ∈ news) (fun _ tl r => tl = [] ∧ ∃ t', r = .str (Str.ofString "C") t') := by
  unfold Con
  k_fill
  intro dp un gd cn cs a' ccd cl outer A₀ base h₀ L m news s Q E B F X N T hk hp hd' hu hret
  refine wpAny_call ?_
  k_dflt (refine' enter_def [("localetuple", .ref a)] ?k1 ?k2 ?k3 ?k4 ?k5 ?kA ?kF ?kK ?k6 ?k7 ?k8 ?k9 ?kB ?c2 ?c3 ?c4 ?c5 ?_)
  walk_at "my enter"
  k_steps
  all_goals exact hret _ [] _ _ (by assumption) (cb_drop (by assumption) (by walk_at "my sub")) ⟨rfl, _, rfl⟩

theorem con_build_sn (w mean mg mb) (a : Addr) (x : Str) (t : Tok) (n : Nat) : Con w mean mg mb 28 [.ref a] 1 8
    (fun news => (a, ({ cls := .type "tuple", data := .seq #[.str x t, .none] n } : Obj)) ∈ news) (fun _ tl r => tl = [] ∧ ∃ t', r = .str (x) t') := by
  unfold Con
  k_fill
  intro dp un gd cn cs a' ccd cl outer A₀ base h₀ L m news s Q E B F X N T hk hp hd' hu hret
  refine wpAny_call ?_
  k_dflt (refine' enter_def [("localetuple", .ref a)] ?k1 ?k2 ?k3 ?k4 ?k5 ?kA ?kF ?kK ?k6 ?k7 ?k8 ?k9 ?kB ?c2 ?c3 ?c4 ?c5 ?_)
  walk_at "my enter"
  k_steps
  all_goals exact hret _ [] _ _ (by assumption) (cb_drop (by assumption) (by walk_at "my sub")) ⟨rfl, _, rfl⟩

theorem con_build_ns (w mean mg mb) (a : Addr) (y : Str) (u : Tok) (hy : y.length < 2 ^ 20) (n : Nat) : Con w mean mg mb 28 [.ref a] 1 8
    (fun news => (a, ({ cls := .type "tuple", data := .seq #[.none, .str y u] n } : Obj)) ∈ news) (fun _ tl r => tl = [] ∧ ∃ t', r = .str (Str.ofString "C" ++ Str.ofString "." ++ y) t') := by
  unfold Con
  k_fill
  intro dp un gd cn cs a' ccd cl outer A₀ base h₀ L m news s Q E B F X N T hk hp hd' hu hret
  refine wpAny_call ?_
  k_dflt (refine' enter_def [("localetuple", .ref a)] ?k1 ?k2 ?k3 ?k4 ?k5 ?kA ?kF ?kK ?k6 ?k7 ?k8 ?k9 ?kB ?c2 ?c3 ?c4 ?c5 ?_)
  walk_at "my enter"
  k_steps
  all_goals exact hret _ [] _ _ (by assumption) (cb_drop (by assumption) (by walk_at "my sub")) ⟨rfl, _, rfl⟩

theorem con_build_ss (w mean mg mb) (a : Addr) (x : Str) (t : Tok) (y : Str) (u : Tok) (hx : x.length < 2 ^ 20) (hy : y.length < 2 ^ 20) (n : Nat) : Con w mean mg mb 28 [.ref a] 1 8
    (fun news => (a, ({ cls := .type "tuple", data := .seq #[.str x t, .str y u] n } : Obj)) ∈ news) (fun _ tl r => tl = [] ∧ ∃ t', r = .str (x ++ Str.ofString "." ++ y) t') := by
  unfold Con
  k_fill
  intro dp un gd cn cs a' ccd cl outer A₀ base h₀ L m news s Q E B F X N T hk hp hd' hu hret
  refine wpAny_call ?_
  k_dflt (refine' enter_def [("localetuple", .ref a)] ?k1 ?k2 ?k3 ?k4 ?k5 ?kA ?kF ?kK ?k6 ?k7 ?k8 ?k9 ?kB ?c2 ?c3 ?c4 ?c5 ?_)
  walk_at "my enter"
  k_steps
  all_goals exact hret _ [] _ _ (by assumption) (cb_drop (by assumption) (by walk_at "my sub")) ⟨rfl, _, rfl⟩

theorem con_build_list (w mean mg mb) (a : Addr) (x : Str) (t : Tok) (y : Str) (u : Tok) (hx : x.length < 2 ^ 20) (hy : y.length < 2 ^ 20) (n : Nat) : Con w mean mg mb 28 [.ref a] 1 8
    (fun news => (a, ({ cls := .type "list", data := .seq #[.str x t, .str y u] n } : Obj)) ∈ news) (fun _ tl r => tl = [] ∧ ∃ t', r = .str (x ++ Str.ofString "." ++ y) t') := by
  unfold Con
  k_fill
  intro dp un gd cn cs a' ccd cl outer A₀ base h₀ L m news s Q E B F X N T hk hp hd' hu hret
  refine wpAny_call ?_
  k_dflt (refine' enter_def [("localetuple", .ref a)] ?k1 ?k2 ?k3 ?k4 ?k5 ?kA ?kF ?kK ?k6 ?k7 ?k8 ?k9 ?kB ?c2 ?c3 ?c4 ?c5 ?_)
  walk_at "my enter"
  k_steps
  all_goals exact hret _ [] _ _ (by assumption) (cb_drop (by assumption) (by walk_at "my sub")) ⟨rfl, _, rfl⟩

end Mine
end
section
open PySem PySem.W PyProof.Rows
set_option Elab.async false
set_option maxRecDepth 100000
set_option maxHeartbeats 8000000
namespace Mine
theorem rows_B5_0 : True := by
  k_with_none
  (k_with "my enter" => ((case kA => exact rfl); (case kF => exact rfl); (case kK => assumption); (case k1 => k_asm); (case k2 => k_asm); (case k3 => k_asm); (case k4 => k_asm); (case k5 => k_asm); (case k6 => k_is); (case k7 => k_is); (case k8 => ktr_room); (case k9 => exact BindsTo.of_eq rfl); (case c5 => decide); (case kB => exact rfl); (case c2 => exact rfl); (case c3 => exact rfl); (case c4 => exact rfl); k_whole; intro g' L' h' tk0 FG' F' N' B' X' T'; (try dsimp only [List.reverse_cons, List.reverse_nil, List.nil_append, List.cons_append] at F'); (try dsimp only); (try k_lift B'); (try k_fold)))
  (k_with "my sub" => (intro p hp; repeat (first | exact hp | refine List.mem_cons_of_mem _ ?_ | refine List.mem_append_right _ ?_)))
  (k_with "my use" => ((case k1 => k_asm); (case k2 => k_asm); (case k3 => k_asm); (case k4 => k_asm); (case k5 => k_asm); (case kK => first | exact rfl | assumption); (case kd => ktr_room); (case ku => ktr_units)))
  (k_with "my got str" => (intro r9 tl9 h9 tk9 F9 N9 p9; obtain ⟨e9, t9, e8⟩ := p9; subst e9; subst e8; simp only [List.nil_append] at N9; (try dsimp only); (try k_fold)))
  trivial
theorem bits60 {a : Int} (h : a.natAbs ≤ 10 ^ 60) : Builtin.Int.intBits a ≤ 2 ^ 20 :=
  Nat.le_trans (intBits_le (k := 200) (Nat.lt_of_le_of_lt h (by decide))) (by decide)

theorem rows_B5_1 : True := by
  (k_with "binaryOp Mult" => (k_here; (with_reducible show wpAny _ _ (binaryOp _ (Value.int _ _) (Value.int _ _)) _ _ _); refine mul_int ?_ (by assumption)))
  trivial
theorem con_add (w mean mg mb) (a : Int) (ta : Tok) (b : Int) (tb : Tok)  : Con w mean mg mb 35 [.int a ta, .int b tb] 1 8
    (fun _ => True) (fun _ tl r => tl = [] ∧ ∃ t', r = .int (a + b) t') := by
  unfold Con
  k_fill
  intro dp un gd cn cs a' ccd cl outer A₀ base h₀ L m news s Q E B F X N T hk hp hd' hu hret
  refine wpAny_call ?_
  k_dflt (refine' enter_def [("a", .int a ta), ("b", .int b tb)] ?k1 ?k2 ?k3 ?k4 ?k5 ?kA ?kF ?kK ?k6 ?k7 ?k8 ?k9 ?kB ?c2 ?c3 ?c4 ?c5 ?_)
  walk_at "my enter"
  k_steps
  all_goals exact hret _ [] _ _ (by assumption) (cb_drop (by assumption) (by walk_at "my sub")) ⟨rfl, _, rfl⟩


theorem con_sub (w mean mg mb) (a : Int) (ta : Tok) (b : Int) (tb : Tok)  : Con w mean mg mb 56 [.int a ta, .int b tb] 1 8
    (fun _ => True) (fun _ tl r => tl = [] ∧ ∃ t', r = .int (a - b) t') := by
  unfold Con
  k_fill
  intro dp un gd cn cs a' ccd cl outer A₀ base h₀ L m news s Q E B F X N T hk hp hd' hu hret
  refine wpAny_call ?_
  k_dflt (refine' enter_def [("a", .int a ta), ("b", .int b tb)] ?k1 ?k2 ?k3 ?k4 ?k5 ?kA ?kF ?kK ?k6 ?k7 ?k8 ?k9 ?kB ?c2 ?c3 ?c4 ?c5 ?_)
  walk_at "my enter"
  k_steps
  all_goals exact hret _ [] _ _ (by assumption) (cb_drop (by assumption) (by walk_at "my sub")) ⟨rfl, _, rfl⟩


theorem con_mul (w mean mg mb) (a : Int) (ta : Tok) (b : Int) (tb : Tok) (ha : a.natAbs ≤ 10 ^ 60) (hb : b.natAbs ≤ 10 ^ 60) : Con w mean mg mb 42 [.int a ta, .int b tb] 1 8
    (fun _ => True) (fun _ tl r => tl = [] ∧ ∃ t', r = .int (a * b) t') := by
  unfold Con
  k_fill
  intro dp un gd cn cs a' ccd cl outer A₀ base h₀ L m news s Q E B F X N T hk hp hd' hu hret
  refine wpAny_call ?_
  k_dflt (refine' enter_def [("a", .int a ta), ("b", .int b tb)] ?k1 ?k2 ?k3 ?k4 ?k5 ?kA ?kF ?kK ?k6 ?k7 ?k8 ?k9 ?kB ?c2 ?c3 ?c4 ?c5 ?_)
  walk_at "my enter"
  have hm : IntMulOk a b := IntMulOk.of_bits (bits60 ha) (bits60 hb)
  k_steps
  all_goals exact hret _ [] _ _ (by assumption) (cb_drop (by assumption) (by walk_at "my sub")) ⟨rfl, _, rfl⟩


theorem con_neg (w mean mg mb) (a : Int) (ta : Tok)  : Con w mean mg mb 49 [.int a ta] 1 8
    (fun _ => True) (fun _ tl r => tl = [] ∧ ∃ t', r = .int (-a) t') := by
  unfold Con
  k_fill
  intro dp un gd cn cs a' ccd cl outer A₀ base h₀ L m news s Q E B F X N T hk hp hd' hu hret
  refine wpAny_call ?_
  k_dflt (refine' enter_def [("a", .int a ta)] ?k1 ?k2 ?k3 ?k4 ?k5 ?kA ?kF ?kK ?k6 ?k7 ?k8 ?k9 ?kB ?c2 ?c3 ?c4 ?c5 ?_)
  walk_at "my enter"
  k_steps
  all_goals exact hret _ [] _ _ (by assumption) (cb_drop (by assumption) (by walk_at "my sub")) ⟨rfl, _, rfl⟩

end Mine
end
section
open PySem PySem.W PyProof.Rows
set_option Elab.async false
set_option maxRecDepth 100000
set_option maxHeartbeats 8000000
namespace Mine
theorem rows_B3_0 : True := by
  k_with_none
  (k_with "my enter" => ((case kA => exact rfl); (case kF => exact rfl); (case kK => assumption); (case k1 => k_asm); (case k2 => k_asm); (case k3 => k_asm); (case k4 => k_asm); (case k5 => k_asm); (case k6 => k_is); (case k7 => k_is); (case k8 => ktr_room); (case k9 => exact BindsTo.of_eq rfl); (case c5 => decide); (case kB => exact rfl); (case c2 => exact rfl); (case c3 => exact rfl); (case c4 => exact rfl); k_whole; intro g' L' h' tk0 FG' F' N' B' X' T'; (try dsimp only [List.reverse_cons, List.reverse_nil, List.nil_append, List.cons_append] at F'); (try dsimp only); (try k_lift B'); (try k_fold)))
  (k_with "my sub" => (intro p hp; repeat (first | exact hp | refine List.mem_cons_of_mem _ ?_ | refine List.mem_append_right _ ?_)))
  (k_with "my use" => ((case k1 => k_asm); (case k2 => k_asm); (case k3 => k_asm); (case k4 => k_asm); (case k5 => k_asm); (case kK => first | exact rfl | assumption); (case kd => ktr_room); (case ku => ktr_units)))
  (k_with "my got str" => (intro r9 tl9 h9 tk9 F9 N9 p9; obtain ⟨e9, t9, e8⟩ := p9; subst e9; subst e8; simp only [List.nil_append] at N9; (try dsimp only); (try k_fold)))
  trivial
theorem behind_all (x : Str) (t0 t1 t2 t3 t4 t5 : Tok) (k : Nat) (v : Value) (h : [Value.str (Str.ofString "") t0, .str (Str.ofString ":") t1, .str (Str.ofString "\n") t2, .str (Str.ofString ": 81.82:83") t3, .str (Str.ofString "\n84.85:86") t4, .str (Str.ofString "\n.87\n") t5][k]? = some v) :
    ∃ (y : Str) (t : Tok), v = .str y t ∧ y.length ≤ 10 ∧ (y.cps.toList.head? = none ∨ y.cps.toList.head? = some 10 ∨ y.cps.toList.head? = some 58) := by
  have hm := List.mem_of_getElem? h
  simp only [List.mem_cons, List.not_mem_nil, or_false] at hm
  rcases hm with rfl | rfl | rfl | rfl | rfl | rfl <;> refine ⟨_, _, rfl, ?_⟩ <;> decide +kernel

theorem con_last (w mean mg mb) (x : Str) (t : Tok) (k : Int) (t2 : Tok) (hlen : x.length < 2 ^ 19) (hT : ∀ c ∈ x.cps.toList, c ≠ 10 ∧ c ≠ 58) (hk0 : 0 ≤ k) (hk1 : k < 2 ^ 60) : Con w mean mg mb 70 [.str x t, .int k t2] 2 16
    (fun _ => True) (fun _ tl r => tl = [] ∧ ∃ t', r = .str ⟨(lastSeg x.cps.toList).toArray⟩ t') := by
  unfold Con
  k_fill
  intro dp un gd cn cs a' ccd cl outer A₀ base h₀ L m news s Q E B F X N T hk hp hd' hu hret
  refine wpAny_call ?_
  k_dflt (refine' enter_def [("text", .str x t), ("k", .int k t2)] ?k1 ?k2 ?k3 ?k4 ?k5 ?kA ?kF ?kK ?k6 ?k7 ?k8 ?k9 ?kB ?c2 ?c3 ?c4 ?c5 ?_)
  walk_at "my enter"
  k_steps
  have km1 : 0 ≤ k.fmod 6 := Int.fmod_nonneg_of_pos _ (by decide)
  have km2 : k.fmod 6 < 6 := Int.fmod_lt_of_pos _ (by decide)
  with_unfolding_all refine item_list0 (by assumption) (List.Mem.head _) km1 (by simpa using km2) (by simp) ?_
  intro v hv
  obtain ⟨y, ty, rfl, hy1, hy2⟩ := behind_all x _ _ _ _ _ _ _ v hv
  k_steps
  refine' Con.use (con_strip w mean mg mb (x ++ y) _ x.cps.toList y.cps.toList ?c1 ?c2 ?c3 ?c4) ?k1 ?k2 ?k3 ?k4 ?k5 ?kK True.intro ?kd ?ku ?_
  walk_at "my use"
  (case c1 => omega)
  (case c2 => exact Array.toList_append)
  (case c3 => exact hT)
  (case c4 => exact hy2)
  walk_at "my got str"
  k_steps
  all_goals exact hret _ [] _ _ (by assumption) (cb_drop (by assumption) (by walk_at "my sub")) ⟨rfl, _, rfl⟩
end Mine
end
section
open PySem PySem.W PyProof.Rows PySem.Calls
namespace Mine
section
variable {prog : Program} {w : World} {A : Around} {E : Value → Shared → Prop} {s : Shared} {env : Env} {h₀ : Heap} {x : Str} {body : List Stmt} {Q : Flow → Shared → Prop}
/-- a range's loop by what holds of the frame between the turns; the ledger is what it was -/
theorem rest_ind {I : Addr} {a : Int} {n : Nat} {m₀ : Str → Option Value} {news : List (Addr × Obj)} (P : Nat → (Str → Option Value) → Prop) (h0 : P 0 m₀)
    (turn : ∀ i m t h tk (rest : (Str → Option Value) → List (Addr × Obj) → Prop) (it : Obj), i < n → P i m → Fr h₀ env.locals h (fun y => if y = x then some (.int (a + (i : Int)) t) else m y) → News h₀ env.locals h ((I, it) :: news) →
      (∀ m', P (i + 1) m' → rest m' news) → wpAny (model prog w) A (execs body env) (UnrPost h₀ env.locals { s with heap := h, toks := tk } I it rest Q) E { s with heap := h, toks := tk })
    (done : ∀ m h tk, P n m → Fr h₀ env.locals h m → News h₀ env.locals h news → Q .next { s with heap := h, toks := tk }) :
    RangeRest prog w A E h₀ env x body Q s I a n n 0 m₀ news := by
  have key : ∀ k i m, i + k = n → P i m → RangeRest prog w A E h₀ env x body Q s I a n k i m news := by
    intro k
    induction k with
    | zero => intro i m e hP; exact RangeRest.zero fun h tk F N => done m h tk ((by omega : i = n) ▸ hP) F N
    | succ k ih => intro i m e hP; exact RangeRest.succ fun t h tk F N => turn i m t h tk _ _ (by omega) hP F N fun m' hm' => ih (i + 1) m' (by omega) hm'
  exact key n 0 m₀ (by omega) h0
end

theorem map_at {m : Str → Option Value} {x : Str} {v : Value} (h : m x = some v) : m = fun y => if y = x then some v else m y := by
  funext y
  by_cases e : y = x
  · rw [if_pos e, e, h]
  · rw [if_neg e]
/-- where a walk is to wait -/
def Stop (p : Prop) : Prop := p
theorem Stop.go {p : Prop} (h : Stop p) : p := h
theorem Stop.on {p : Prop} (h : p) : Stop p := h

/-- the deeds, laid in the ledger -/
def DeedsAt (news : List (Addr × Obj)) (a : Addr) (D : List (Int × Int)) : Prop :=
  ∃ (vs : List Value) (n : Nat), (a, W.listOf vs.toArray n) ∈ news ∧ vs.length = 8 ∧ ∀ k v, vs[k]? = some v → ∃ (b : Addr) (n : Nat) (t u : Tok), v = Value.ref b ∧ (b, ({ cls := .type "tuple", data := .seq #[.int (D.getD k (4, 0)).1 t, .int (D.getD k (4, 0)).2 u] n } : Obj)) ∈ news
def DeedsOk (D : List (Int × Int)) : Prop := ∀ k, 0 ≤ (D.getD k (4, 0)).1 ∧ (D.getD k (4, 0)).1 ≤ 4 ∧ (D.getD k (4, 0)).2.natAbs ≤ 10 ^ 7
end Mine
namespace Mine
theorem UnrEnd4 {h₀ : Heap} {L I : Addr} {it : Obj} {rest : (Str → Option Value) → List (Addr × Obj) → Prop} {s₁ : Shared} {h' : Heap} {tk : Nat} {m' : Str → Option Value} (pre : List (Addr × Obj)) {post : List (Addr × Obj)} (F : Fr h₀ L h' m') (N : News h₀ L h' (pre ++ (I, it) :: post))
    (h1 : ∀ p ∈ pre, p.1 ≠ I) (h2 : ∀ p ∈ post, p.1 ≠ I) (r : rest m' (pre ++ post)) : UnrEnd h₀ L s₁ I it rest { s₁ with heap := h', toks := tk } :=
  UnrEnd.intro F N (pre ++ post) (fun p hp => by
    rcases List.mem_cons.mp hp with rfl | hp
    · exact List.mem_append_right _ (.head _)
    · rcases List.mem_append.mp hp with hp | hp
      · exact List.mem_append_left _ hp
      · exact List.mem_append_right _ (.tail _ hp)) (fun p hp => (List.mem_append.mp hp).elim (h1 p) (h2 p)) r
theorem allLt_mem {d : Addr} : ∀ {l : List (Addr × Obj)}, AllLt d l → ∀ p ∈ l, p.1 < d
  | [], _, _, h => nomatch h
  | _ :: _, x, p, h => by
    rcases List.mem_cons.mp h with rfl | h
    · exact x.1
    · exact allLt_mem x.2 p h
theorem allLt_ne {d : Addr} {l : List (Addr × Obj)} (h : AllLt d l) : ∀ p ∈ l, p.1 ≠ d := fun p hp => Nat.ne_of_lt (allLt_mem h p hp)
end Mine
end
section
open PySem PySem.W PyProof.Rows
set_option Elab.async false
set_option maxRecDepth 100000
set_option maxHeartbeats 8000000
namespace Mine
theorem Con.weaken {w : World} {mean : ExcName → Option Value} {mg mb : Str → Option Value} {f : Addr} {vs : List Value} {d u : Nat} {pre pre' : List (Addr × Obj) → Prop} {post post' : List (Addr × Obj) → List (Addr × Obj) → Value → Prop}
    (C : Con w mean mg mb f vs d u pre post) (h : ∀ n, pre' n → pre n) (h2 : ∀ n tl r, post n tl r → post' n tl r) : Con w mean mg mb f vs d u pre' post' :=
  fun _ _ _ _ _ _ _ _ _ _ _ _ _ _ _ _ _ _ B F X N T hk hp hd' hu ret => C _ _ _ _ _ _ _ _ _ _ _ _ _ _ _ _ _ _ B F X N T hk (h _ hp) hd' hu fun r tl h' tk' F' N' p => ret r tl h' tk' F' N' (h2 _ _ _ p)
theorem con_last_cons (w mean mg mb) (v : Int) (S : List Int) (t : Tok) (k : Int) (t2 : Tok) (hlen : (textOf (v :: S)).length < 2 ^ 19) (hk0 : 0 ≤ k) (hk1 : k < 2 ^ 60) : Con w mean mg mb 70 [.str (textOf (v :: S)) t, .int k t2] 2 16
    (fun _ => True) (fun _ tl r => tl = [] ∧ ∃ t', r = .str ⟨(digs v).toArray⟩ t') :=
  (con_last w mean mg mb (textOf (v :: S)) t k t2 hlen (rend_codes (v :: S)) hk0 hk1).weaken (fun _ h => h) fun n tl r => by
    rintro ⟨h1, t', h2⟩
    refine ⟨h1, t', ?_⟩
    rw [h2, ← lastSeg_cons v S]
    rfl
theorem con_last_nil (w mean mg mb) (t : Tok) (k : Int) (t2 : Tok) (hk0 : 0 ≤ k) (hk1 : k < 2 ^ 60) : Con w mean mg mb 70 [.str (textOf []) t, .int k t2] 2 16
    (fun _ => True) (fun _ tl r => tl = [] ∧ ∃ t', r = .str (Str.ofString "C") t') :=
  (con_last w mean mg mb (textOf []) t k t2 (by decide) (rend_codes []) hk0 hk1).weaken (fun _ h => h) fun n tl r => by
    rintro ⟨h1, t', h2⟩
    refine ⟨h1, t', ?_⟩
    have e : (⟨(lastSeg (textOf []).cps.toList).toArray⟩ : Str) = Str.ofString "C" := by decide +kernel
    rw [h2, e]
theorem text_len {S : List Int} {n : Nat} (h : Bd S n) (h1 : 0 < n) (h2 : n ≤ 60) (h3 : S.length ≤ 8) : (textOf S).length < 2 ^ 19 := by
  rw [length_textOf]
  have := Bd.len h1 h
  have h5 : S.length * (n + 3) ≤ 8 * 63 := Nat.mul_le_mul h3 (by omega)
  omega
theorem digs_le {v : Int} {n : Nat} (h : v.natAbs ≤ 10 ^ n) (h2 : n ≤ 60) : (⟨(digs v).toArray⟩ : Str).length ≤ 640 := by
  have h3 : (digs v).length ≤ n + 2 := digs_len (n := n + 1) (by omega) (Nat.lt_of_le_of_lt h (Nat.pow_lt_pow_right (by decide) (by omega)))
  have : (⟨(digs v).toArray⟩ : Str).length = (digs v).length := by simp [Str.length]
  omega
theorem runN_dead {D : List (Int × Int)} {t n : Nat} (h : runN D t n = none) : ∀ k, runN D t (n + k) = none
  | 0 => h
  | k + 1 => by
    show (runN D t (n + k)).bind _ = none
    rw [runN_dead h k]; rfl
theorem runN_dead8 {D : List (Int × Int)} {t n : Nat} (h : runN D t n = none) (hn : n ≤ 8) : runN D t 8 = none := by
  have := runN_dead h (8 - n)
  rwa [show n + (8 - n) = 8 by omega] at this
end Mine
namespace Mine
theorem num_len {v : Int} {n : Nat} (h : v.natAbs ≤ 10 ^ n) (h2 : n ≤ 60) : (Str.ofString (toString v)).length < 2 ^ 20 := by
  have h3 : (digs v).length ≤ n + 2 := digs_len (n := n + 1) (by omega) (Nat.lt_of_le_of_lt h (Nat.pow_lt_pow_right (by decide) (by omega)))
  have : (Str.ofString (toString v)).length = (digs v).length := by simp [Str.length, digs]
  omega
theorem con_cut (w mean mg mb) (a : Addr) (v : Int) (S : List Int) (t : Tok) (n : Nat) : Con w mean mg mb 28 [.ref a] 1 8
    (fun news => (a, ({ cls := .type "tuple", data := .seq #[.str (Txt.slice (textOf (v :: S)) none (some (((textOf (v :: S)).length : Int) - ((⟨(digs v).toArray⟩ : Str).length : Int) - 1))) t, .none] n } : Obj)) ∈ news) (fun _ tl r => tl = [] ∧ ∃ t', r = .str (textOf S) t') :=
  (con_build_sn w mean mg mb a _ t n).weaken (fun _ h => h) fun n tl r => by
    rintro ⟨h1, t', h2⟩
    exact ⟨h1, t', by rw [h2, textOf_cut]⟩
theorem con_push (w mean mg mb) (a : Addr) (v : Int) (S : List Int) (t t2 : Tok) (hx : (textOf S).length < 2 ^ 19) (hv : v.natAbs ≤ 10 ^ 60) (n : Nat) : Con w mean mg mb 28 [.ref a] 1 8
    (fun news => (a, ({ cls := .type "tuple", data := .seq #[.str (textOf S) t, .str (Str.ofString (toString v)) t2] n } : Obj)) ∈ news) (fun _ tl r => tl = [] ∧ ∃ t', r = .str (textOf (v :: S)) t') :=
  (con_build_ss w mean mg mb a _ t _ t2 (by omega) (num_len hv (Nat.le_refl _)) n).weaken (fun _ h => h) fun n tl r => by
    rintro ⟨h1, t', h2⟩
    exact ⟨h1, t', by rw [h2, textOf_snoc]⟩
theorem con_push0 (w mean mg mb) (a : Addr) (v : Int) (t2 : Tok) (hv : v.natAbs ≤ 10 ^ 60) (n : Nat) : Con w mean mg mb 28 [.ref a] 1 8
    (fun news => (a, ({ cls := .type "tuple", data := .seq #[.none, .str (Str.ofString (toString v)) t2] n } : Obj)) ∈ news) (fun _ tl r => tl = [] ∧ ∃ t', r = .str (textOf [v]) t') :=
  (con_build_ns w mean mg mb a _ t2 (num_len hv (Nat.le_refl _)) n).weaken (fun _ h => h) fun n tl r => by
    rintro ⟨h1, t', h2⟩
    refine ⟨h1, t', ?_⟩
    rw [h2, ← textOf_nil, textOf_snoc]
end Mine
namespace Mine
section
variable {prog : Program} {w : World} {A : Around} {E : Value → Shared → Prop} {s : Shared}
theorem eqC_cons {v : Int} {S : List Int} {t u : Tok} {Q : Value → Shared → Prop} (h : Q (.bool false) s) : wpAny (model prog w) A (compareOp .Eq (.str (textOf (v :: S)) t) (.str (Str.ofString "C") u)) Q E s :=
  PyProof.Rows.eq_str (by rw [beq_eq_false_iff_ne.mpr rend_ne_C]; exact h)
theorem eqC_nil {t u : Tok} {Q : Value → Shared → Prop} (h : Q (.bool true) s) : wpAny (model prog w) A (compareOp .Eq (.str (textOf []) t) (.str (Str.ofString "C") u)) Q E s :=
  PyProof.Rows.eq_str (by rw [beq_iff_eq.mpr textOf_nil]; exact h)
theorem eqC_digs {v : Int} {t u : Tok} {Q : Value → Shared → Prop} (h : Q (.bool false) s) : wpAny (model prog w) A (compareOp .Eq (.str ⟨(digs v).toArray⟩ t) (.str (Str.ofString "C") u)) Q E s :=
  PyProof.Rows.eq_str (by rw [beq_eq_false_iff_ne.mpr (digs_ne_C v)]; exact h)
theorem eqC_C {t u : Tok} {Q : Value → Shared → Prop} (h : Q (.bool true) s) : wpAny (model prog w) A (compareOp .Eq (.str (Str.ofString "C") t) (.str (Str.ofString "C") u)) Q E s :=
  PyProof.Rows.eq_str (by rw [beq_self_eq_true]; exact h)
theorem int_digs {v : Int} {t : Tok} {Q : Value → Shared → Prop} (hv : v.natAbs ≤ 10 ^ 60) (h : Q (.int v s.toks) { s with toks := s.toks + 1 }) : wpAny (model prog w) A (call (.type "int") [.str ⟨(digs v).toArray⟩ t]) Q E s :=
  KIN.call_text (digs_reads rfl (digs_le hv (Nat.le_refl _))) (digs_le hv (Nat.le_refl _)) h
theorem item_lit {h₀ : Heap} {L : Addr} {news : List (Addr × Obj)} {value slice : PySem.Expr} {l : Addr} {vs : List Value} {n : Nat} {k : Int} {u : Tok} {v : Value} {Q : Value → Shared → Prop}
    (N : News h₀ L s.heap news) (hm : (l, W.listOf vs.toArray n) ∈ news) (h0 : 0 ≤ k) (h1 : k < 2 ^ 62) (hv : vs[k.toNat]? = some v) (h : Q v s)
    (hs : subscripted slice false (.ref l) (.int k u) = operate [.ref l, .int k u] (getItem (.ref l) (.int k u)) := by with_unfolding_all rfl) :
    wpAny (model prog w) A (subscriptTail value slice (.ref l) (.int k u)) Q E s :=
  tail_any (News.isList N hm).typeIs slot_list_getitem.lookup (wpAny_getItem_list (News.isList N hm) h0 (by omega) (by simpa using hv) h) hs
end
end Mine
namespace Mine
section
variable {prog : Program} {w : World} {A : Around} {E : Value → Shared → Prop} {s : Shared}
theorem item_two {h₀ : Heap} {L : Addr} {news : List (Addr × Obj)} {value slice : PySem.Expr} {l : Addr} {t0 t1 t2 t3 t4 : Tok} {n : Nat} {k : Int} {u : Tok} {Q : Value → Shared → Prop}
    (N : News h₀ L s.heap news) (hm : (l, W.listOf #[.int 2 t0, .int 2 t1, .int 2 t2, .int 1 t3, .int 0 t4] n) ∈ news) (h0 : 0 ≤ k) (h1 : k ≤ 2) (h : ∀ t, Q (.int 2 t) s)
    (hs : subscripted slice false (.ref l) (.int k u) = operate [.ref l, .int k u] (getItem (.ref l) (.int k u)) := by with_unfolding_all rfl) :
    wpAny (model prog w) A (subscriptTail value slice (.ref l) (.int k u)) Q E s := by
  have hk : k = 0 ∨ k = 1 ∨ k = 2 := by omega
  rcases hk with rfl | rfl | rfl
  · exact item_lit (vs := [.int 2 t0, .int 2 t1, .int 2 t2, .int 1 t3, .int 0 t4]) N hm (by decide) (by decide) rfl (h _) hs
  · exact item_lit (vs := [.int 2 t0, .int 2 t1, .int 2 t2, .int 1 t3, .int 0 t4]) N hm (by decide) (by decide) rfl (h _) hs
  · exact item_lit (vs := [.int 2 t0, .int 2 t1, .int 2 t2, .int 1 t3, .int 0 t4]) N hm (by decide) (by decide) rfl (h _) hs
end
end Mine
namespace Mine
theorem stepD_nil {d x : Int} (h0 : 0 ≤ d) (h1 : d ≤ 2) : stepD d x [] = none := by
  unfold stepD
  rw [if_neg (by omega), if_neg (by omega)]
theorem stepD_one {d x p : Int} (h0 : 0 ≤ d) (h1 : d ≤ 2) : stepD d x [p] = none := by
  unfold stepD
  rw [if_neg (by omega), if_neg (by omega)]
end Mine
end
section
open PySem PySem.W PyProof.Rows PySem.Calls PySem.Spec
set_option maxRecDepth 100000
namespace Mine
section
variable {prog : Program} {w : World} {A : Around} {E : Value → Shared → Prop} {s : Shared} {env : Env} {h₀ : Heap} {target : PySem.Expr} {body : List Stmt} {Q : Flow → Shared → Prop}
/-- a loop over a range, whatever its target is, by what holds of the frame and the ledger between the turns -/
theorem iter_rangeC {r : Addr} {a b : Int} {t u v : Tok} {n : Nat} {m : Str → Option Value} {news : List (Addr × Obj)} (P : Nat → (Str → Option Value) → List (Addr × Obj) → Prop)
    (hh : A.handled = none) (hr : IsRange s.heap r a b 1 t u v) (hsm : Builtin.Range.small a b 1 = true) (hn : Builtin.Range.rangeSize a b 1 = (n : Int)) (F : Fr h₀ env.locals s.heap m) (N : News h₀ env.locals s.heap news)
    (hE : PassesOwn (model prog w) A env E) (h0 : P 0 m news)
    (turn : ∀ I i m' news' h tk t', (∀ p ∈ news, p.1 < I) → i < n → P i m' news' → Fr h₀ env.locals h m' → News h₀ env.locals h ((I, itR (a + ((i + 1 : Nat) : Int)) ((n : Int) - ((i + 1 : Nat) : Int))) :: news') → (∀ p ∈ news', p.1 ≠ I) →
      wpAny (model prog w) A (assign target env (.int (a + (i : Int)) t')) (fun _ s₂ => wpAny (model prog w) A (execs body env) (UnrPost h₀ env.locals { s with heap := h, toks := tk } I (itR (a + ((i + 1 : Nat) : Int)) ((n : Int) - ((i + 1 : Nat) : Int))) (P (i + 1)) Q) E s₂) E { s with heap := h, toks := tk })
    (done : ∀ m' news' h tk, P n m' news' → Fr h₀ env.locals h m' → News h₀ env.locals h news' → Q .next { s with heap := h, toks := tk })
    (ht : ∀ it v, letOwnedTupleGo target it v = pure () := by intro _ _; rfl) :
    wpAny (model prog w) A (pyIter (.ref r)) (fun it s₂ => codeAny (model prog w) A (.forLoop target it body [] env) (fun r s' => match r with | .ok f => Q f s' | .error e => cameBackBy (model prog w) A env E e s') s₂) E s := by
  refine wpAny_pyIter_range hr hsm ?_
  have hI : ∀ p ∈ news, p.1 < s.heap.objs.size := fun p hp => Heap.lt_size (N p hp).1
  have hnew := next_is_new F
  have hIL : env.locals ≠ s.heap.objs.size := Nat.ne_of_lt F.ns.lt
  have F0 := F.push ({ cls := .type "range_iterator", data := .fields #[rawInt a, rawInt (Builtin.Range.rangeSize a b 1), rawInt 1] } : Obj)
  have N0 : News h₀ env.locals (s.heap.push { cls := .type "range_iterator", data := .fields #[rawInt a, rawInt (Builtin.Range.rangeSize a b 1), rawInt 1] }) news := fun p hp => ⟨Heap.get?_push_of_some _ (N p hp).1, (N p hp).2⟩
  have st0 : IsRangeIter (s.heap.push { cls := .type "range_iterator", data := .fields #[rawInt a, rawInt (Builtin.Range.rangeSize a b 1), rawInt 1] }) s.heap.objs.size (a + ((0 : Nat) : Int) * 1) ((n : Int) - ((0 : Nat) : Int)) 1 := by
    show _ = _
    rw [hn]; simpa using Heap.get?_push_size _ rfl
  generalize hH : (s.heap.push { cls := .type "range_iterator", data := .fields #[rawInt a, rawInt (Builtin.Range.rangeSize a b 1), rawInt 1] }) = H at F0 N0 st0 ⊢
  generalize s.heap.objs.size = I at *
  have W := Walks.range (prog := prog) (w := w) hh I a 1 n
  refine codeAny_forLoop
    (fun k s' => ∃ h' tk m' news' i, s' = { s with heap := h', toks := tk } ∧ IsRangeIter h' I (a + (i : Nat) * 1) ((n : Int) - (i : Nat)) 1 ∧ Fr h₀ env.locals h' m' ∧ News h₀ env.locals h' news' ∧ (∀ p ∈ news', p.1 ≠ I) ∧ P i m' news' ∧ i ≤ n ∧ k = n + 1 - i) ?_ (n + 1)
    ⟨H, s.toks, m, news, 0, rfl, st0, F0, N0, fun p hp => Nat.ne_of_lt (hI p hp), h0, Nat.zero_le _, rfl⟩ (fun v => ht _ v)
  rintro k s' ⟨h', tk, m', news', i, rfl, hst, F', N', off, hP, hi, rfl⟩
  by_cases hlt : i < n
  · refine W.item i _ _ _ hlt hst fun v h₁ tk₁ hPv hst₁ hk₁ => ?_
    obtain ⟨t', rfl⟩ := hPv
    have F₁ := LCg.fr_but F' hk₁ hIL hnew
    have N₁ := LCg.news_but N' hk₁ off
    have e1 : a + (i : Int) * 1 = a + (i : Int) := by rw [Int.mul_one]
    rw [e1]
    have hI1 : h₁.get? I = some (itR (a + ((i + 1 : Nat) : Int)) ((n : Int) - ((i + 1 : Nat) : Int))) := by
      have q : IsRangeIter h₁ I (a + ((i + 1 : Nat) : Int) * 1) ((n : Int) - ((i + 1 : Nat) : Int)) 1 := hst₁
      rw [Int.mul_one] at q
      exact q
    have N₂ : News h₀ env.locals h₁ ((I, itR (a + ((i + 1 : Nat) : Int)) ((n : Int) - ((i + 1 : Nat) : Int))) :: news') := fun p hp => by
      rcases List.mem_cons.mp hp with rfl | hp
      · exact ⟨hI1, Ne.symm hIL, hnew⟩
      · exact N₁ p hp
    refine wpAny_passesOwn hE (wpAny_mono (turn I i m' news' h₁ tk₁ t' hI hlt hP F₁ N₂ off) (fun _ s₂ h₂ => ?_) fun _ _ e => e)
    refine wpAny_passesOwn hE (wpAny_mono h₂ (fun f s₃ p => ?_) fun _ _ e => e)
    have fin : UnrEnd h₀ env.locals { s with heap := h₁, toks := tk₁ } I (itR (a + ((i + 1 : Nat) : Int)) ((n : Int) - ((i + 1 : Nat) : Int))) (P (i + 1)) s₃ →
        ∃ m_1, m_1 < n + 1 - i ∧ ∃ h' tk m' news' i, s₃ = { s with heap := h', toks := tk } ∧ IsRangeIter h' I (a + (i : Nat) * 1) ((n : Int) - (i : Nat)) 1 ∧ Fr h₀ env.locals h' m' ∧ News h₀ env.locals h' news' ∧ (∀ p ∈ news', p.1 ≠ I) ∧ P i m' news' ∧ i ≤ n ∧ m_1 = n + 1 - i := by
      rintro ⟨h', tk, m', news', e, F', N', ho, r⟩
      refine ⟨n + 1 - (i + 1), by omega, h', tk, m', news', i + 1, e, ?_, F', fun p hp => N' p (.tail _ hp), ho, r, hlt, rfl⟩
      show h'.get? I = some _
      rw [(N' _ (.head _)).1, Int.mul_one]
      rfl
    cases f with
    | ret v => exact p
    | brk => exact p
    | next => exact fin p
    | cont => exact fin p
  · obtain rfl : i = n := by omega
    refine W.done _ _ _ hst fun h₁ tk₁ hk₁ => wpAny_execs_nil ?_
    exact done m' news' h₁ tk₁ hP (LCg.fr_but F' hk₁ hIL hnew) (LCg.news_but N' hk₁ off)

theorem For_C {iter : PySem.Expr} {pos : Pos}
    (h : wpAny (model prog w) A (eval iter env) (fun xv s₁ => wpAny (model prog w) A (pyIter xv) (fun it s₂ => codeAny (model prog w) A (.forLoop target it body [] env) (fun r s' => match r with | .ok f => Q f s' | .error e => cameBackBy (model prog w) A env E e s') s₂) E s₁) E s)
    (hs : ∀ x, foldedSetIterable iter env x = pure x := by intro _; rfl) :
    wpAny (model prog w) A (exec (.For target iter body [] pos) env) Q E s := wpAny_For h hs
end
end Mine
end
section
open PySem PySem.W PyProof.Rows PySem.Calls
set_option maxRecDepth 100000
namespace Mine
/-- a thing of the ring: its deed, its value, its place -/
abbrev Trip := Int × Int × Int
def TripAt (news : List (Addr × Obj)) (v : Value) (r : Trip) : Prop := ∃ (b : Addr) (n : Nat) (t1 t2 t3 : Tok), v = Value.ref b ∧ (b, ({ cls := .type "tuple", data := .seq #[.int r.1 t1, .int r.2.1 t2, .int r.2.2 t3] n } : Obj)) ∈ news
def TripsAt (news : List (Addr × Obj)) (vs : List Value) (R : List Trip) : Prop := vs.length = R.length ∧ ∀ (k : Nat) (v : Value) (r : Trip), vs[k]? = some v → R[k]? = some r → TripAt news v r
def RingAt (news : List (Addr × Obj)) (a : Addr) (R : List Trip) : Prop := ∃ (vs : List Value) (n : Nat), (a, W.listOf vs.toArray n) ∈ news ∧ TripsAt news vs R
theorem TripAt.mono {news news' : List (Addr × Obj)} (h : ∀ p ∈ news, p ∈ news') {v : Value} {r : Trip} : TripAt news v r → TripAt news' v r
  | ⟨b, n, t1, t2, t3, e, hm⟩ => ⟨b, n, t1, t2, t3, e, h _ hm⟩
theorem TripsAt.mono {news news' : List (Addr × Obj)} (h : ∀ p ∈ news, p ∈ news') {vs : List Value} {R : List Trip} (x : TripsAt news vs R) : TripsAt news' vs R :=
  ⟨x.1, fun k v r h1 h2 => (x.2 k v r h1 h2).mono h⟩
theorem TripsAt.get {news : List (Addr × Obj)} {vs : List Value} {R : List Trip} (x : TripsAt news vs R) {k : Nat} {v : Value} (h : vs[k]? = some v) : TripAt news v (R.getD k (4, 0, 0)) ∧ k < R.length := by
  obtain ⟨hk, _⟩ := List.getElem?_eq_some_iff.mp h
  have hk' : k < R.length := x.1 ▸ hk
  have e : R[k]? = some R[k] := List.getElem?_eq_getElem hk'
  refine ⟨?_, hk'⟩
  rw [List.getD_eq_getElem?_getD, e]
  exact x.2 k v _ h e

/-- where hand i of the deed at k lies -/
def handIx (n k i : Nat) : Nat := if i + 1 ≤ k then k - 1 - i else n + k - 1 - i
def at' (R : List Trip) (k : Nat) : Trip := R.getD k (4, 0, 0)
def hand (R : List Trip) (k i : Nat) : Trip := at' R (handIx R.length k i)
/-- the deed at k finds its values right ahead of it -/
def fires (R : List Trip) (k : Nat) : Prop :=
  ((at' R k).1 = 3 ∧ 2 ≤ R.length ∧ (hand R k 0).1 = 4) ∨ ((at' R k).1 ≤ 2 ∧ 3 ≤ R.length ∧ (hand R k 0).1 = 4 ∧ (hand R k 1).1 = 4)
def opVal (d l r : Int) : Int := if d = 0 then l + r else if d = 1 then l - r else if d = 2 then l * r else -r
/-- the ring when the deed at k is done -/
def after (R : List Trip) (k : Nat) : List Trip :=
  if (at' R k).1 = 3 then (R.take k ++ (4, -(hand R k 0).2.1, (at' R k).2.2) :: R.drop (k + 1)).filter fun t => !decide (t = hand R k 0)
  else (R.take k ++ (4, opVal (at' R k).1 (hand R k 1).2.1 (hand R k 0).2.1, (at' R k).2.2) :: R.drop (k + 1)).filter fun t => !decide (t = hand R k 0 ∨ t = hand R k 1)
def Shr (R R' : List Trip) : Prop := (R' = R ∧ ∀ k, k < R.length → ¬ fires R k) ∨ ∃ k, k < R.length ∧ fires R k ∧ R' = after R k
def RingOk (R : List Trip) : Prop := ∀ k, 0 ≤ (at' R k).1 ∧ (at' R k).1 ≤ 4 ∧ (at' R k).2.1.natAbs ≤ 10 ^ 60
end Mine
namespace Mine
section
variable {prog : Program} {w : World} {A : Around} {E : Value → Shared → Prop} {s : Shared}
theorem len_led {h₀ : Heap} {L : Addr} {news : List (Addr × Obj)} {l : Addr} {vs : List Value} {n c : Nat} {Q : Value → Shared → Prop} (N : News h₀ L s.heap news) (hm : (l, W.listOf vs.toArray n) ∈ news) (hc : vs.length = c) (hfit : c < 2 ^ 60)
    (h : Q (.int (c : Int) (s.toks + 1)) { s with toks := s.toks + 1 + 1 }) : wpAny (model prog w) A (call (.builtin "len") [.ref l]) Q E s :=
  PyProof.Rows.len_list (News.isList N hm) (by simp; omega) (by simpa [hc] using h)
end
end Mine
namespace Mine
theorem rng8 : ∀ n : Nat, n < 9 → Builtin.Range.rangeSize 0 (n : Int) 1 = (n : Int) ∧ Builtin.Range.small 0 (n : Int) 1 = true := by decide
end Mine
namespace Mine
theorem UnrShr {h₀ : Heap} {L I : Addr} {it : Obj} {P : (Str → Option Value) → List (Addr × Obj) → Prop} {s₁ : Shared} {h' : Heap} {tk : Nat} {m' : Str → Option Value} {all news : List (Addr × Obj)} {c1 c2 c3 : Addr} {oh ok o3 oh' ok' : Obj} {vh' vk' : Option Value} {R : List Trip} {i : Nat}
    (F : Fr h₀ L h' m') (N : News h₀ L h' all) (hI : (I, it) ∈ all) (m3 : (c3, oh') ∈ all) (m2 : (c2, ok') ∈ all) (m1 : (c1, o3) ∈ all) (sub : ∀ p ∈ news, p ∈ all) (off : ∀ p ∈ (c3, oh) :: (c2, ok) :: (c1, o3) :: news, p.1 ≠ I)
    (d1 : oh'.data = Data.cell vh') (d2 : ok'.data = Data.cell vk') (hP : ∀ m, (∃ (oh ok : Obj) (vh vk : Option Value), oh.data = Data.cell vh ∧ ok.data = Data.cell vk ∧ (c3, oh') :: (c2, ok') :: (c1, o3) :: news = (c3, oh) :: (c2, ok) :: (c1, o3) :: news ∧ ∀ j, j < i + 1 → ¬ fires R j) → P m ((c3, oh') :: (c2, ok') :: (c1, o3) :: news))
    (hno : ∀ j, j < i → ¬ fires R j) (h : ¬ fires R i) : UnrEnd h₀ L s₁ I it P { s₁ with heap := h', toks := tk } :=
  UnrEnd.intro F N ((c3, oh') :: (c2, ok') :: (c1, o3) :: news) (fun p hp => by
    rcases List.mem_cons.mp hp with rfl | hp
    · exact hI
    · rcases List.mem_cons.mp hp with rfl | hp
      · exact m3
      · rcases List.mem_cons.mp hp with rfl | hp
        · exact m2
        · rcases List.mem_cons.mp hp with rfl | hp
          · exact m1
          · exact sub p hp) (fun p hp => by
    rcases List.mem_cons.mp hp with rfl | hp
    · exact off (c3, oh) (.head _)
    · rcases List.mem_cons.mp hp with rfl | hp
      · exact off (c2, ok) (.tail _ (.head _))
      · rcases List.mem_cons.mp hp with rfl | hp
        · exact off (c1, o3) (.tail _ (.tail _ (.head _)))
        · exact off p (.tail _ (.tail _ (.tail _ hp)))) (hP _ ⟨oh', ok', vh', vk', d1, d2, rfl, fun j hj => by
      rcases Nat.lt_or_ge j i with h1 | h1
      · exact hno j h1
      · obtain rfl : j = i := by omega
        exact h⟩)
theorem CompEnd0 {h₀ : Heap} {L I C D : Addr} {m : Str → Option Value} {s₁ : Shared} {oI oC oD : Obj} {S : List (Addr × Obj) → Prop} {rest : Value → List (Addr × Obj) → Prop} {y : Value} {h' : Heap} {tk : Nat} {tail : List (Addr × Obj)}
    (F : Fr h₀ L h' m) (N : News h₀ L h' ((I, oI) :: (C, oC) :: (D, oD) :: tail)) (off : LCg.Off3 I C D tail) (hS : S tail) (r : rest y tail) :
    LCg.CompEnd h₀ L m s₁ I oI C oC D oD S rest y { s₁ with heap := h', toks := tk } := LCg.CompEnd.intro F N tail (fun _ hp => hp) off hS r
theorem CompEnd1 {h₀ : Heap} {L I C D d : Addr} {o : Obj} {m : Str → Option Value} {s₁ : Shared} {oI oC oD : Obj} {S : List (Addr × Obj) → Prop} {rest : Value → List (Addr × Obj) → Prop} {y : Value} {h' : Heap} {tk : Nat} {tail : List (Addr × Obj)}
    (F : Fr h₀ L h' m) (N : News h₀ L h' ((d, o) :: (I, oI) :: (C, oC) :: (D, oD) :: tail)) (hd : @Ne Nat d I ∧ @Ne Nat d C ∧ @Ne Nat d D) (off : LCg.Off3 I C D tail) (hS : S ((d, o) :: tail)) (r : rest y ((d, o) :: tail)) :
    LCg.CompEnd h₀ L m s₁ I oI C oC D oD S rest y { s₁ with heap := h', toks := tk } := LCg.CompEnd.intro F N ((d, o) :: tail) (fun p hp => by
      rcases List.mem_cons.mp hp with rfl | hp
      · exact .tail _ (.head _)
      · rcases List.mem_cons.mp hp with rfl | hp
        · exact .tail _ (.tail _ (.head _))
        · rcases List.mem_cons.mp hp with rfl | hp
          · exact .tail _ (.tail _ (.tail _ (.head _)))
          · rcases List.mem_cons.mp hp with rfl | hp
            · exact .head _
            · exact .tail _ (.tail _ (.tail _ (.tail _ hp)))) ⟨hd, off⟩ hS r
end Mine
namespace Mine
theorem fires_len {R : List Trip} {k : Nat} (h : R.length ≤ 1) : ¬ fires R k := by
  rintro (h1 | h1) <;> omega
theorem fires_4 {R : List Trip} {k : Nat} {x p : Int} (h : at' R k = (4, x, p)) : ¬ fires R k := by
  rintro (h1 | h1)
  · rw [h] at h1; have := h1.1; dsimp only at this; omega
  · rw [h] at h1; have := h1.1; dsimp only at this; omega
section
variable {prog : Program} {w : World} {A : Around} {E : Value → Shared → Prop} {s : Shared}
/-- a hand of the deed at k -/
theorem item_hand {h₀ : Heap} {L : Addr} {news : List (Addr × Obj)} {value slice : PySem.Expr} {l : Addr} {vs : List Value} {R : List Trip} {n k j : Nat} {z : Int} {u : Tok} {Q : Value → Shared → Prop}
    (N : News h₀ L s.heap news) (hm : (l, W.listOf vs.toArray n) ∈ news) {base : List (Addr × Obj)} (ht : TripsAt base vs R) (hk : k < R.length) (hj : j + 1 ≤ R.length) (hl : R.length ≤ 8) (hz : z = (k : Int) - 1 - j)
    (h : ∀ (b : Addr) (n0 : Nat) (t1 t2 t3 : Tok), (b, ({ cls := .type "tuple", data := .seq #[.int (hand R k j).1 t1, .int (hand R k j).2.1 t2, .int (hand R k j).2.2 t3] n0 } : Obj)) ∈ base → Q (.ref b) s)
    (hs : subscripted slice false (.ref l) (.int z u) = operate [.ref l, .int z u] (getItem (.ref l) (.int z u)) := by with_unfolding_all rfl) :
    wpAny (model prog w) A (subscriptTail value slice (.ref l) (.int z u)) Q E s := by
  have e := ht.1
  refine item_list N hm (by omega) (by omega) (by omega) (fun v hv => ?_) hs
  have hv' : vs[handIx R.length k j]? = some v := by
    rw [← hv]
    congr 1
    unfold handIx
    split <;> split <;> omega
  obtain ⟨⟨b, n0, t1, t2, t3, rfl, hmb⟩, _⟩ := ht.get hv'
  exact h b n0 t1 t2 t3 hmb
end
end Mine
namespace Mine
section
variable {prog : Program} {w : World} {A : Around} {E : Value → Shared → Prop} {s : Shared} {h₀ : Heap} {L : Addr} {news : List (Addr × Obj)} {l1 l2 : Addr} {Q : Value → Shared → Prop}
theorem eq_one {a b : Int} {t u : Tok} {n1 n2 : Nat} (N : News h₀ L s.heap news) (m1 : (l1, W.listOf [Value.int a t].toArray n1) ∈ news) (m2 : (l2, W.listOf [Value.int b u].toArray n2) ∈ news) (hu : A.units + 1 < cLine)
    (h : Q (.bool (decide (a = b))) s) : wpAny (model prog w) A (compareOp .Eq (.ref l1) (.ref l2)) Q E s := by
  refine SeqAt.eq_listAt (e := fun _ => decide (a = b)) (News.isList N m1) (News.isList N m2) rfl (by omega) (fun j h1 h2 => ?_) ?_
  · have h1' : j < 1 := h1
    obtain rfl : j = 0 := by omega
    exact SeqAt.EqAt.int_int a t b u
  · simpa using h
theorem eq_two {a b c d : Int} {t u v x : Tok} {n1 n2 : Nat} (N : News h₀ L s.heap news) (m1 : (l1, W.listOf [Value.int a t, Value.int b u].toArray n1) ∈ news) (m2 : (l2, W.listOf [Value.int c v, Value.int d x].toArray n2) ∈ news) (hu : A.units + 1 < cLine)
    (h : Q (.bool (decide (a = c ∧ b = d))) s) : wpAny (model prog w) A (compareOp .Eq (.ref l1) (.ref l2)) Q E s := by
  refine SeqAt.eq_listAt (e := fun j => if j = 0 then decide (a = c) else decide (b = d)) (News.isList N m1) (News.isList N m2) rfl (by omega) (fun j h1 h2 => ?_) ?_
  · have h1' : j < 2 := h1
    have hj : j = 0 ∨ j = 1 := by omega
    rcases hj with rfl | rfl
    · exact SeqAt.EqAt.int_int a t c v
    · exact SeqAt.EqAt.int_int b u d x
  · have e : ((List.range [Value.int a t, Value.int b u].toArray.size).all fun j => if j = 0 then decide (a = c) else decide (b = d)) = decide (a = c ∧ b = d) := by
      show ([0, 1].all _) = _
      simp [Bool.decide_and]
    rw [e]; exact h
theorem eq_lens {vs ws : List Value} {n1 n2 : Nat} (N : News h₀ L s.heap news) (m1 : (l1, W.listOf vs.toArray n1) ∈ news) (m2 : (l2, W.listOf ws.toArray n2) ∈ news) (hu : A.units + 1 < cLine) (hne : (vs.length != ws.length) = true)
    (h : Q (.bool false) s) : wpAny (model prog w) A (compareOp .Eq (.ref l1) (.ref l2)) Q E s :=
  SeqAt.eq_list_lengthsAt (News.isList N m1) (News.isList N m2) (by simpa using hne) (by omega) h
end
end Mine
end
section
open PySem PySem.W PyProof.Rows PySem.Calls PySem.Spec
set_option maxRecDepth 100000
namespace Mine
theorem pick_upto (vs : List Value) {y : Int} {i : Nat} (hy : y = (i : Int)) : (slicePick vs.toArray none (some y) none).toList = vs.take i := by
  have e : sliceBounds none (some y) none vs.toArray.size = (((0 : Nat) : Int), ((min i vs.toArray.size : Nat) : Int), 1) := by
    simp only [sliceBounds, Option.getD_none, show (1 : Int) > 0 by decide, if_true, if_neg (show ¬ (y < 0) by omega)]
    congr 1
    congr 1
    omega
  rw [kmk_pick_nat _ e]
  show (vs.drop 0).take (min i vs.toArray.size - 0) = _
  rw [List.drop_zero, Nat.sub_zero, List.size_toArray, kmk_take_min]
theorem pick_from (vs : List Value) {x : Int} {i : Nat} (hx : x = (i : Int)) : (slicePick vs.toArray (some x) none none).toList = vs.drop i := by
  have e : sliceBounds (some x) none none vs.toArray.size = (((min i vs.toArray.size : Nat) : Int), ((vs.toArray.size : Nat) : Int), 1) := by
    simp only [sliceBounds, Option.getD_none, show (1 : Int) > 0 by decide, if_true, if_neg (show ¬ (x < 0) by omega)]
    congr 1
    omega
  rw [kmk_pick_nat _ e]
  show ((vs.drop (min i vs.toArray.size)).take (vs.toArray.size - min i vs.toArray.size)) = _
  rw [List.size_toArray, kmk_drop_min, List.take_of_length_le (by rw [List.length_drop]; omega)]
section
variable {prog : Program} {w : World} {A : Around} {E : Value → Shared → Prop} {s : Shared} {h₀ : Heap} {L : Addr} {m : Str → Option Value} {news : List (Addr × Obj)}
theorem slice_to {value slice : PySem.Expr} {l : Addr} {vs : List Value} {n i : Nat} {y : Int} {u : Tok} {Q : Value → Shared → Prop} (F : Fr h₀ L s.heap m) (N : News h₀ L s.heap news) (hm : (l, W.listOf vs.toArray n) ∈ news) (hy : y = (i : Int)) (hz : vs.length ≤ 100)
    (h : ∀ D h', Fr h₀ L h' m → News h₀ L h' ((D, W.listOf (vs.take i).toArray 0) :: news) → (∀ p ∈ news, p.1 < D) → Q (.ref D) { s with heap := h' })
    (hs : subscripted slice false (.ref l) (.ref s.heap.objs.size) = operate [.ref s.heap.objs.size, .ref l] (getItem (.ref l) (.ref s.heap.objs.size))) (ht : ∀ r, letTemporaryGo value (.ref l) r = pure ()) :
    wpAny (model prog w) A (subscriptTail value slice (.ref l) (.ref s.heap.objs.size)) Q E { s with heap := s.heap.push { cls := .type "slice", data := .fields #[.none, .int y u, .none] } } :=
  kmk_slice_lit F N (News.isList N hm) .none (.int _ _) (pick_upto vs hy) h hs ht (by rw [List.size_toArray, sizeLine_eq]; omega)
theorem slice_fr {value slice : PySem.Expr} {l : Addr} {vs : List Value} {n i : Nat} {y : Int} {u : Tok} {Q : Value → Shared → Prop} (F : Fr h₀ L s.heap m) (N : News h₀ L s.heap news) (hm : (l, W.listOf vs.toArray n) ∈ news) (hy : y = (i : Int)) (hz : vs.length ≤ 100)
    (h : ∀ D h', Fr h₀ L h' m → News h₀ L h' ((D, W.listOf (vs.drop i).toArray 0) :: news) → (∀ p ∈ news, p.1 < D) → Q (.ref D) { s with heap := h' })
    (hs : subscripted slice false (.ref l) (.ref s.heap.objs.size) = operate [.ref s.heap.objs.size, .ref l] (getItem (.ref l) (.ref s.heap.objs.size))) (ht : ∀ r, letTemporaryGo value (.ref l) r = pure ()) :
    wpAny (model prog w) A (subscriptTail value slice (.ref l) (.ref s.heap.objs.size)) Q E { s with heap := s.heap.push { cls := .type "slice", data := .fields #[.int y u, .none, .none] } } :=
  kmk_slice_lit F N (News.isList N hm) (.int _ _) .none (pick_from vs hy) h hs ht (by rw [List.size_toArray, sizeLine_eq]; omega)
theorem add_ll {a b : Addr} {vs ws : List Value} {n1 n2 : Nat} {Q : Value → Shared → Prop} (F : Fr h₀ L s.heap m) (N : News h₀ L s.heap news) (ha : (a, W.listOf vs.toArray n1) ∈ news) (hb : (b, W.listOf ws.toArray n2) ∈ news)
    (hz : vs.length ≤ 100) (hz2 : ws.length ≤ 100) (h : ∀ D h', Fr h₀ L h' m → News h₀ L h' ((D, W.listOf (vs ++ ws).toArray 0) :: news) → (∀ p ∈ news, p.1 < D) → Q (.ref D) { s with heap := h' }) :
    wpAny (model prog w) A (binaryOp .Add (.ref a) (.ref b)) Q E s :=
  kmk_add_lit F N (News.isList N ha) (News.isList N hb) rfl h (by show vs.length + ws.length ≤ _; rw [sizeLine_eq]; omega)
open LCg LCt in
/-- a comprehension with a test, by what its list holds after so many items; nothing new stays in the ledger -/
theorem restT_ind {env : Env} {ct elt : PySem.Expr} {x : Str} {scope : Scope} {cl : List (Str × Addr)} {S : List (Addr × Obj) → Prop} {P : Nat → Value → Prop} {Fin : List Value → List (Addr × Obj) → Prop} {n : Nat} (Good : Nat → List Value → Prop) (g0 : Good 0 [])
    (turn : ∀ j ys v I oI C oC D m₂ h tk (E' : Value → Shared → Prop) (K1 : Value → List (Addr × Obj) → Prop) (K2 : List (Addr × Obj) → Prop), j < n → Good j ys → P j v → NsObj oC m₂ → m₂ x = some v → Fr h₀ L h m → News h₀ L h ((I, oI) :: (C, oC) :: (D, lst ys) :: news) → Off3 I C D news → ((@Ne Nat I C) ∧ (@Ne Nat I D) ∧ (@Ne Nat C D)) →
      (∀ y, Good (j + 1) (ys ++ [y]) → K1 y news) → (Good (j + 1) ys → K2 news) →
      wpAny (model prog w) A (isTrue ct (compEnvC scope cl C env) (eval ct (compEnvC scope cl C env))) (fun ok s' => if ok = true then
        wpAny (model prog w) A (eval elt (compEnvC scope cl C env)) (CompEnd h₀ L m { s with heap := h, toks := tk } I oI C oC D (lst ys) S K1) E' s'
        else CompEnd h₀ L m { s with heap := h, toks := tk } I oI C oC D (lst ys) S (fun _ => K2) Value.none s') E' { s with heap := h, toks := tk })
    (done : ∀ ys, Good n ys → Fin ys news) : CompRestT prog w A h₀ L m env ct elt x scope cl s S P Fin n 0 [] news := by
  have key : ∀ k j ys, j + k = n → Good j ys → CompRestT prog w A h₀ L m env ct elt x scope cl s S P Fin k j ys news := by
    intro k
    induction k with
    | zero => intro j ys e g; exact CompRestT.zero (done ys ((by omega : j = n) ▸ g))
    | succ k ih =>
      intro j ys e g
      refine CompRestT.succ fun v I oI C oC D m₂ h tk E' hP hC hx F N off ne => ?_
      exact turn j ys v I oI C oC D m₂ h tk E' _ _ (by omega) g hP hC hx F N off ne (fun y hg => ih (j + 1) _ (by omega) hg) (fun hg => ih (j + 1) _ (by omega) hg)
  exact key n 0 [] (by omega) g0
open LCg in
/-- a comprehension without a test, by what its list and the ledger hold after so many items -/
theorem rest_indU {env : Env} {elt : PySem.Expr} {x : Str} {scope : Scope} {cl : List (Str × Addr)} {S : List (Addr × Obj) → Prop} {P : Nat → Value → Prop} {Fin : List Value → List (Addr × Obj) → Prop} {n : Nat} (Good : Nat → List Value → List (Addr × Obj) → Prop) (g0 : Good 0 [] news)
    (turn : ∀ j ys news₁ v I oI C oC D m₂ h tk (E' : Value → Shared → Prop) (K1 : Value → List (Addr × Obj) → Prop), j < n → Good j ys news₁ → P j v → NsObj oC m₂ → m₂ x = some v → Fr h₀ L h m → News h₀ L h ((I, oI) :: (C, oC) :: (D, lst ys) :: news₁) → Off3 I C D news₁ → ((@Ne Nat I C) ∧ (@Ne Nat I D) ∧ (@Ne Nat C D)) →
      (∀ y news₂, Good (j + 1) (ys ++ [y]) news₂ → K1 y news₂) →
      wpAny (model prog w) A (eval elt (compEnvC scope cl C env)) (CompEnd h₀ L m { s with heap := h, toks := tk } I oI C oC D (lst ys) S K1) E' { s with heap := h, toks := tk })
    (done : ∀ ys news₁, Good n ys news₁ → Fin ys news₁) : CompRest prog w A h₀ L m env elt x scope cl s S P Fin n 0 [] news := by
  have key : ∀ k j ys news₁, j + k = n → Good j ys news₁ → CompRest prog w A h₀ L m env elt x scope cl s S P Fin k j ys news₁ := by
    intro k
    induction k with
    | zero => intro j ys nw e g; exact CompRest.zero (done ys nw ((by omega : j = n) ▸ g))
    | succ k ih =>
      intro j ys nw e g
      refine CompRest.succ fun v I oI C oC D m₂ h tk E' hP hC hx F N off ne => ?_
      exact turn j ys nw v I oI C oC D m₂ h tk E' _ (by omega) g hP hC hx F N off ne fun y nw₂ hg => ih (j + 1) _ _ (by omega) hg
  exact key n 0 [] _ (by omega) g0
/-- thing not in hands -/
theorem trip_eq {b c : Addr} {r q : Trip} {t1 t2 t3 u1 u2 u3 : Tok} {n1 n2 : Nat} (N : News h₀ L s.heap news) (hb : (b, ({ cls := .type "tuple", data := .seq #[.int r.1 t1, .int r.2.1 t2, .int r.2.2 t3] n1 } : Obj)) ∈ news)
    (hc : (c, ({ cls := .type "tuple", data := .seq #[.int q.1 u1, .int q.2.1 u2, .int q.2.2 u3] n2 } : Obj)) ∈ news) (hu : A.units < cLine) : SeqAt.EqAt A s (.ref b) (.ref c) (decide (r = q)) := by
  by_cases e : b = c
  · subst e
    have h1 := (N _ hb).1
    have h2 := (N _ hc).1
    rw [h1] at h2
    have h3 := Option.some.inj h2
    simp only [Obj.mk.injEq, Data.seq.injEq, Array.mk.injEq, List.cons.injEq, Value.int.injEq, true_and, and_true] at h3
    have hrq : r = q := by
      obtain ⟨r1, r2, r3⟩ := r
      obtain ⟨q1, q2, q3⟩ := q
      dsimp only at h3
      obtain ⟨⟨⟨h5, _⟩, ⟨h6, _⟩, ⟨h7, _⟩⟩, _⟩ := h3
      subst h5; subst h6; subst h7; rfl
    rw [decide_eq_true hrq]
    exact SeqAt.EqAt.same _
  · refine SeqAt.EqAt.of_refs e ?_
    have h := SeqAt.RcAt.tuples (A := A) (s := s) (e := fun j => if j = 0 then r.1 == q.1 else if j = 1 then r.2.1 == q.2.1 else r.2.2 == q.2.2) (News.isTup N hb) (News.isTup N hc) hu (fun j h1 h2 => by
      have h1' : j < 3 := h1
      have hj : j = 0 ∨ j = 1 ∨ j = 2 := by omega
      rcases hj with rfl | rfl | rfl
      · exact SeqAt.EqAt.int_int _ _ _ _
      · exact SeqAt.EqAt.int_int _ _ _ _
      · exact SeqAt.EqAt.int_int _ _ _ _)
    have e2 : decide (r = q) = ((List.range 3).all (fun j => if j = 0 then r.1 == q.1 else if j = 1 then r.2.1 == q.2.1 else r.2.2 == q.2.2) && (3 == 3)) := by
      obtain ⟨r1, r2, r3⟩ := r
      obtain ⟨q1, q2, q3⟩ := q
      show _ = (([0, 1, 2].all _) && _)
      simp [Bool.decide_and, Prod.mk.injEq]
      rw [Bool.eq_iff_iff]; simp
    rw [e2]
    exact h
theorem notIn_one {b1 b l : Addr} {r q1 : Trip} {t1 t2 t3 u1 u2 u3 : Tok} {n1 n2 k : Nat} {Q : Value → Shared → Prop} (N : News h₀ L s.heap news) (hl : (l, W.listOf [Value.ref b1].toArray k) ∈ news)
    (hb1 : (b1, ({ cls := .type "tuple", data := .seq #[.int q1.1 t1, .int q1.2.1 t2, .int q1.2.2 t3] n1 } : Obj)) ∈ news) (hb : (b, ({ cls := .type "tuple", data := .seq #[.int r.1 u1, .int r.2.1 u2, .int r.2.2 u3] n2 } : Obj)) ∈ news) (hu : A.units + 1 < cLine)
    (h : Q (.bool (!decide (r = q1))) s) : wpAny (model prog w) A (compareOp .NotIn (.ref b) (.ref l)) Q E s := by
  refine SeqAt.notIn_listAt (fun _ => decide (q1 = r)) (News.isList N hl) (fun y hy => ?_) ?_
  · have hy' : y = .ref b1 := by simpa using hy
    subst hy'
    exact trip_eq N hb1 hb hu
  · have e : ([Value.ref b1].toArray.any fun _ => decide (q1 = r)) = decide (r = q1) := by
      simp [eq_comm]
    rw [e]; exact h
theorem notIn_two {b1 b2 b l : Addr} {r q1 q2 : Trip} {t1 t2 t3 v1 v2 v3 u1 u2 u3 : Tok} {n1 n2 n3 k : Nat} {Q : Value → Shared → Prop} (N : News h₀ L s.heap news) (hl : (l, W.listOf [Value.ref b1, Value.ref b2].toArray k) ∈ news)
    (hb1 : (b1, ({ cls := .type "tuple", data := .seq #[.int q1.1 t1, .int q1.2.1 t2, .int q1.2.2 t3] n1 } : Obj)) ∈ news) (hb2 : (b2, ({ cls := .type "tuple", data := .seq #[.int q2.1 v1, .int q2.2.1 v2, .int q2.2.2 v3] n3 } : Obj)) ∈ news)
    (hb : (b, ({ cls := .type "tuple", data := .seq #[.int r.1 u1, .int r.2.1 u2, .int r.2.2 u3] n2 } : Obj)) ∈ news) (hu : A.units + 1 < cLine)
    (h : Q (.bool (!decide (r = q1 ∨ r = q2))) s) : wpAny (model prog w) A (compareOp .NotIn (.ref b) (.ref l)) Q E s := by
  refine SeqAt.notIn_listAt (fun y => if y = .ref b1 then decide (q1 = r) else decide (q2 = r)) (News.isList N hl) (fun y hy => ?_) ?_
  · have hy' : y = .ref b1 ∨ y = .ref b2 := by simpa using hy
    by_cases e : y = .ref b1
    · subst e
      rw [if_pos rfl]
      exact trip_eq N hb1 hb hu
    · rw [if_neg e]
      rcases hy' with rfl | rfl
      · exact absurd rfl e
      · exact trip_eq N hb2 hb hu
  · have e : ([Value.ref b1, Value.ref b2].toArray.any fun y => if y = .ref b1 then decide (q1 = r) else decide (q2 = r)) = decide (r = q1 ∨ r = q2) := by
      by_cases e : (Value.ref b2) = Value.ref b1
      · have hb12 : b2 = b1 := by injection e
        subst hb12
        have h1 := (N _ hb1).1
        have h2 := (N _ hb2).1
        rw [h1] at h2
        have h3 := Option.some.inj h2
        simp only [Obj.mk.injEq, Data.seq.injEq, Array.mk.injEq, List.cons.injEq, Value.int.injEq, true_and, and_true] at h3
        have hrq : q1 = q2 := by
          obtain ⟨r1, r2, r3⟩ := q1
          obtain ⟨q1, q2, q3⟩ := q2
          dsimp only at h3
          obtain ⟨⟨⟨h5, _⟩, ⟨h6, _⟩, ⟨h7, _⟩⟩, _⟩ := h3
          subst h5; subst h6; subst h7; rfl
        subst hrq
        simp [eq_comm]
      · rw [Bool.eq_iff_iff]
        simp [e, eq_comm (a := r)]
    rw [e]; exact h
end
end Mine
namespace Mine
theorem TripsAt.append {led : List (Addr × Obj)} {a b : List Value} {P Q : List Trip} (h1 : TripsAt led a P) (h2 : TripsAt led b Q) : TripsAt led (a ++ b) (P ++ Q) := by
  refine ⟨by simp [h1.1, h2.1], fun k v r hv hr => ?_⟩
  rcases Nat.lt_or_ge k a.length with h | h
  · rw [List.getElem?_append_left h] at hv
    rw [List.getElem?_append_left (h1.1 ▸ h)] at hr
    exact h1.2 k v r hv hr
  · rw [List.getElem?_append_right h] at hv
    rw [List.getElem?_append_right (h1.1 ▸ h), ← h1.1] at hr
    exact h2.2 _ v r hv hr
theorem TripsAt.take {led : List (Addr × Obj)} {a : List Value} {P : List Trip} (h : TripsAt led a P) (i : Nat) : TripsAt led (a.take i) (P.take i) := by
  refine ⟨by simp [h.1], fun k v r hv hr => ?_⟩
  rcases Nat.lt_or_ge k i with hk | hk
  · rw [List.getElem?_take_of_lt hk] at hv hr
    exact h.2 k v r hv hr
  · rw [List.getElem?_take_eq_none hk] at hv
    cases hv
theorem TripsAt.drop {led : List (Addr × Obj)} {a : List Value} {P : List Trip} (h : TripsAt led a P) (i : Nat) : TripsAt led (a.drop i) (P.drop i) := by
  refine ⟨by simp [h.1], fun k v r hv hr => ?_⟩
  rw [List.getElem?_drop] at hv hr
  exact h.2 _ v r hv hr
theorem TripsAt.one {led : List (Addr × Obj)} {v : Value} {r : Trip} (h : TripAt led v r) : TripsAt led [v] [r] := by
  refine ⟨rfl, fun k v' r' hv hr => ?_⟩
  match k, hv, hr with
  | 0, hv, hr => cases hv; cases hr; exact h
theorem TripsAt.nil {led : List (Addr × Obj)} : TripsAt led [] [] := ⟨rfl, fun _ _ _ h _ => nomatch h⟩

section
variable {prog : Program} {w : World} {A : Around} {s₁ : Shared} {h₀ : Heap} {L : Addr} {m : Str → Option Value}
open LCg LCt in
theorem comp_ring {env : Env} {ct elt : PySem.Expr} {x : Str} {scope : Scope} {cl : List (Str × Addr)} {Fin : Shared → List Value → List (Addr × Obj) → Prop} {ax Dm : Addr} {vs : List Value} {R : List Trip} {news LED : List (Addr × Obj)} {i k n0 : Nat} {y p : Int} {t1 t2 t3 : Tok}
    (f : Trip → Bool) (hh : A.handled = none) (F : Fr h₀ L s₁.heap m) (N : News h₀ L s₁.heap LED) (hm : (ax, W.listOf (vs.take i ++ [Value.ref Dm] ++ vs.drop (i + 1)).toArray k) ∈ LED)
    (hd : (Dm, ({ cls := .type "tuple", data := .seq #[.int 4 t1, .int y t2, .int p t3] n0 } : Obj)) ∈ LED) (hts : TripsAt news vs R) (sub : ∀ q ∈ news, q ∈ LED) (hi : i < R.length) (hl : R.length ≤ 8)
    (turn : ∀ (g : Heap) ys (b : Addr) (r : Trip) n0 t1 t2 t3 I oI C oC D m₂ h tk (E' : Value → Shared → Prop) (K1 : Value → List (Addr × Obj) → Prop) (K2 : List (Addr × Obj) → Prop),
      (b, ({ cls := .type "tuple", data := .seq #[.int r.1 t1, .int r.2.1 t2, .int r.2.2 t3] n0 } : Obj)) ∈ LED → NsObj oC m₂ → m₂ x = some (.ref b) → Fr h₀ L h m → News h₀ L h ((I, oI) :: (C, oC) :: (D, lst ys) :: LED) → Off3 I C D LED → ((@Ne Nat I C) ∧ (@Ne Nat I D) ∧ (@Ne Nat C D)) →
      (f r = true → K1 (.ref b) LED) → (f r = false → K2 LED) →
      wpAny (model prog w) A (isTrue ct (compEnvC scope cl C env) (eval ct (compEnvC scope cl C env))) (fun ok s' => if ok = true then
        wpAny (model prog w) A (eval elt (compEnvC scope cl C env)) (CompEnd h₀ L m { ({ s₁ with heap := g } : Shared) with heap := h, toks := tk } I oI C oC D (lst ys) (SrcAt h₀ ax (vs.take i ++ [Value.ref Dm] ++ vs.drop (i + 1)).toArray) K1) E' s'
        else CompEnd h₀ L m { ({ s₁ with heap := g } : Shared) with heap := h, toks := tk } I oI C oC D (lst ys) (SrcAt h₀ ax (vs.take i ++ [Value.ref Dm] ++ vs.drop (i + 1)).toArray) (fun _ => K2) Value.none s') E' { ({ s₁ with heap := g } : Shared) with heap := h, toks := tk })
    (done : ∀ (g : Heap) ys, TripsAt ((Dm, ({ cls := .type "tuple", data := .seq #[.int 4 t1, .int y t2, .int p t3] n0 } : Obj)) :: news) ys ((R.take i ++ (4, y, p) :: R.drop (i + 1)).filter f) → Fin { s₁ with heap := g } ys LED) :
    CompSrcT prog w A h₀ L m env ct elt x scope cl Fin (.ref ax) s₁ := by
  have hbase : ∀ q ∈ (Dm, ({ cls := .type "tuple", data := .seq #[.int 4 t1, .int y t2, .int p t3] n0 } : Obj)) :: news, q ∈ LED := fun q hq => by
    rcases List.mem_cons.mp hq with rfl | hq
    · exact hd
    · exact sub q hq
  have hws : TripsAt ((Dm, ({ cls := .type "tuple", data := .seq #[.int 4 t1, .int y t2, .int p t3] n0 } : Obj)) :: news) (vs.take i ++ [Value.ref Dm] ++ vs.drop (i + 1)) (R.take i ++ [(4, y, p)] ++ R.drop (i + 1)) := by
    have h1 := hts.mono (news' := (Dm, ({ cls := .type "tuple", data := .seq #[.int 4 t1, .int y t2, .int p t3] n0 } : Obj)) :: news) fun q hq => .tail _ hq
    exact ((h1.take i).append (.one ⟨Dm, n0, t1, t2, t3, rfl, .head _⟩)).append (h1.drop (i + 1))
  have hR : R.take i ++ (4, y, p) :: R.drop (i + 1) = R.take i ++ [(4, y, p)] ++ R.drop (i + 1) := by simp
  rw [hR] at done
  generalize hRl : R.take i ++ [((4, y, p) : Trip)] ++ R.drop (i + 1) = Rl at *
  have hRlen : Rl.length ≤ 16 := by
    rw [← hRl]; simp only [List.length_append, List.length_take, List.length_drop, List.length_cons, List.length_nil]; omega
  generalize hw : vs.take i ++ [Value.ref Dm] ++ vs.drop (i + 1) = ws at *
  refine CompSrcT.ledger hh F N hm (by rw [List.size_toArray, hws.1, sizeLine_eq]; omega) fun g => ?_
  have hn : ws.toArray.size = Rl.length := by rw [List.size_toArray]; exact hws.1
  rw [hn]
  refine restT_ind (fun j ys => TripsAt ((Dm, ({ cls := .type "tuple", data := .seq #[.int 4 t1, .int y t2, .int p t3] n0 } : Obj)) :: news) ys ((Rl.take j).filter f)) (by simpa using TripsAt.nil) ?_ ?_
  · intro j ys v I oI C oC D m₂ h tk E' K1 K2 hj hg hP hC hx F' N' off ne h1 h2
    have hv : ws[j]? = some v := by rw [← List.getElem?_toArray]; exact hP
    have hr : Rl[j]? = some Rl[j] := List.getElem?_eq_getElem hj
    have ht : Rl.take (j + 1) = Rl.take j ++ [Rl[j]] := by rw [List.take_add_one, hr]; rfl
    obtain ⟨b, n1, u1, u2, u3, rfl, hmb⟩ := hws.2 j v _ hv hr
    refine turn g ys b Rl[j] n1 u1 u2 u3 I oI C oC D m₂ h tk E' K1 K2 (hbase _ hmb) hC hx F' N' off ne (fun hf => h1 _ ?_) (fun hf => h2 ?_)
    · rw [ht, List.filter_append]
      refine hg.append ?_
      rw [List.filter_cons_of_pos hf, List.filter_nil]
      exact .one ⟨b, n1, u1, u2, u3, rfl, hmb⟩
    · rw [ht, List.filter_append, List.filter_cons_of_neg (by rw [hf]; decide), List.filter_nil, List.append_nil]
      exact hg
  · intro ys hg
    rw [List.take_length] at hg
    exact done g ys hg
end
section
variable {prog : Program} {w : World} {A : Around} {E : Value → Shared → Prop} {s : Shared} {h₀ : Heap} {L : Addr} {m : Str → Option Value} {news : List (Addr × Obj)}
theorem notIn_oneB {b1 b l : Addr} {r q1 : Trip} {t1 t2 t3 u1 u2 u3 : Tok} {n1 n2 k : Nat} {bb : Bool} {Q : Value → Shared → Prop} (hb' : (!decide (r = q1)) = bb) (N : News h₀ L s.heap news) (hl : (l, W.listOf [Value.ref b1].toArray k) ∈ news)
    (hb1 : (b1, ({ cls := .type "tuple", data := .seq #[.int q1.1 t1, .int q1.2.1 t2, .int q1.2.2 t3] n1 } : Obj)) ∈ news) (hb : (b, ({ cls := .type "tuple", data := .seq #[.int r.1 u1, .int r.2.1 u2, .int r.2.2 u3] n2 } : Obj)) ∈ news) (hu : A.units + 1 < cLine)
    (h : Q (.bool bb) s) : wpAny (model prog w) A (compareOp .NotIn (.ref b) (.ref l)) Q E s := notIn_one N hl hb1 hb hu (by rw [hb']; exact h)
theorem notIn_twoB {b1 b2 b l : Addr} {r q1 q2 : Trip} {t1 t2 t3 v1 v2 v3 u1 u2 u3 : Tok} {n1 n2 n3 k : Nat} {bb : Bool} {Q : Value → Shared → Prop} (hb' : (!decide (r = q1 ∨ r = q2)) = bb) (N : News h₀ L s.heap news) (hl : (l, W.listOf [Value.ref b1, Value.ref b2].toArray k) ∈ news)
    (hb1 : (b1, ({ cls := .type "tuple", data := .seq #[.int q1.1 t1, .int q1.2.1 t2, .int q1.2.2 t3] n1 } : Obj)) ∈ news) (hb2 : (b2, ({ cls := .type "tuple", data := .seq #[.int q2.1 v1, .int q2.2.1 v2, .int q2.2.2 v3] n3 } : Obj)) ∈ news)
    (hb : (b, ({ cls := .type "tuple", data := .seq #[.int r.1 u1, .int r.2.1 u2, .int r.2.2 u3] n2 } : Obj)) ∈ news) (hu : A.units + 1 < cLine)
    (h : Q (.bool bb) s) : wpAny (model prog w) A (compareOp .NotIn (.ref b) (.ref l)) Q E s := notIn_two N hl hb1 hb2 hb hu (by rw [hb']; exact h)
end
end Mine
namespace Mine
theorem fires_3 {R : List Trip} {k : Nat} {x p d1 x1 p1 : Int} (h : at' R k = (3, x, p)) (h1 : hand R k 0 = (d1, x1, p1)) (hd : ¬ d1 = 4) : ¬ fires R k := by
  rintro (h2 | h2)
  · rw [h1] at h2; exact hd h2.2.2
  · rw [h] at h2; have := h2.1; dsimp only at this; omega
theorem fires_3' {R : List Trip} {k : Nat} {x p x1 p1 : Int} (h : at' R k = (3, x, p)) (h1 : hand R k 0 = (4, x1, p1)) (hl : 1 < R.length) : fires R k :=
  .inl ⟨by rw [h], hl, by rw [h1]⟩
theorem after_3 {R : List Trip} {k : Nat} {x p x1 : Int} {q : Trip} (h : at' R k = (3, x, p)) (h1 : hand R k 0 = q) (hq : q.2.1 = x1) :
    after R k = (R.take k ++ (4, -x1, p) :: R.drop (k + 1)).filter fun t => !decide (t = q) := by
  unfold after
  rw [h, h1, if_pos rfl, hq]
end Mine
namespace Mine
theorem fires_2len {R : List Trip} {k : Nat} {d x p : Int} (h : at' R k = (d, x, p)) (hd : d ≤ 2) (hl : R.length ≤ 2) : ¬ fires R k := by
  rintro (h2 | h2)
  · rw [h] at h2; have := h2.1; dsimp only at this; omega
  · omega
theorem fires_2 {R : List Trip} {k : Nat} {d x p d1 x1 p1 d2 x2 p2 : Int} (h : at' R k = (d, x, p)) (hd : d ≤ 2) (h1 : hand R k 0 = (d1, x1, p1)) (h2 : hand R k 1 = (d2, x2, p2)) (hn : ¬ (d1 = 4 ∧ d2 = 4)) : ¬ fires R k := by
  rintro (h3 | h3)
  · rw [h] at h3; have := h3.1; dsimp only at this; omega
  · rw [h1, h2] at h3; exact hn ⟨h3.2.2.1, h3.2.2.2⟩
theorem fires_2' {R : List Trip} {k : Nat} {d x p d1 x1 p1 d2 x2 p2 : Int} (h : at' R k = (d, x, p)) (hd : d ≤ 2) (h1 : hand R k 0 = (d1, x1, p1)) (h2 : hand R k 1 = (d2, x2, p2)) (hn : d1 = 4 ∧ d2 = 4) (hl : 2 < R.length) : fires R k :=
  .inr ⟨by rw [h]; exact hd, hl, by rw [h1]; exact hn.1, by rw [h2]; exact hn.2⟩
theorem after_2 {R : List Trip} {k : Nat} {d x p x1 x2 : Int} {q q2 : Trip} (h : at' R k = (d, x, p)) (hd : d ≤ 2) (h1 : hand R k 0 = q) (h2 : hand R k 1 = q2) (hq : q.2.1 = x1) (hq2 : q2.2.1 = x2) :
    after R k = (R.take k ++ (4, opVal d x2 x1, p) :: R.drop (k + 1)).filter fun t => !decide (t = q ∨ t = q2) := by
  unfold after
  rw [h, h1, h2, if_neg (by dsimp only; omega), hq, hq2]
section
variable {prog : Program} {w : World} {A : Around} {E : Value → Shared → Prop} {s : Shared}
theorem item_op {h₀ : Heap} {L : Addr} {news : List (Addr × Obj)} {value slice : PySem.Expr} {a : Addr} {l r : Int} {t0 t1 t2 t3 : Tok} {n : Nat} {k : Int} {u : Tok} {Q : Value → Shared → Prop}
    (N : News h₀ L s.heap news) (hm : (a, W.listOf #[.int (l + r) t0, .int (l - r) t1, .int (l * r) t2, .int (-r) t3] n) ∈ news) (h0 : 0 ≤ k) (h1 : k ≤ 2) (h : ∀ t, Q (.int (opVal k l r) t) s)
    (hs : subscripted slice false (.ref a) (.int k u) = operate [.ref a, .int k u] (getItem (.ref a) (.int k u)) := by with_unfolding_all rfl) :
    wpAny (model prog w) A (subscriptTail value slice (.ref a) (.int k u)) Q E s := by
  have hk : k = 0 ∨ k = 1 ∨ k = 2 := by omega
  rcases hk with rfl | rfl | rfl
  · exact item_lit (vs := [.int (l + r) t0, .int (l - r) t1, .int (l * r) t2, .int (-r) t3]) N hm (by decide) (by decide) rfl (h _) hs
  · exact item_lit (vs := [.int (l + r) t0, .int (l - r) t1, .int (l * r) t2, .int (-r) t3]) N hm (by decide) (by decide) rfl (h _) hs
  · exact item_lit (vs := [.int (l + r) t0, .int (l - r) t1, .int (l * r) t2, .int (-r) t3]) N hm (by decide) (by decide) rfl (h _) hs
end
theorem ret2 {h₀ h : Heap} {L : Addr} {all news : List (Addr × Obj)} {p q : Addr × Obj} (N : News h₀ L h all) (h1 : p ∈ all) (h2 : q ∈ all) (h3 : ∀ x ∈ news, x ∈ all) : News h₀ L h ([p, q] ++ news) := fun x hx => by
  rcases List.mem_cons.mp hx with rfl | hx
  · exact N _ h1
  · rcases List.mem_cons.mp hx with rfl | hx
    · exact N _ h2
    · exact N _ (h3 _ hx)
end Mine
namespace Mine
theorem seqs2 {p q : Addr × Obj} {xs ys : Array Value} {n k : Nat} (h1 : p.2.data = Data.seq xs n) (h2 : q.2.data = Data.seq ys k) : ∀ x ∈ [p, q], ∃ xs n, x.2.data = Data.seq xs n := fun x hx => by
  rcases List.mem_cons.mp hx with rfl | hx
  · exact ⟨_, _, h1⟩
  · rcases List.mem_cons.mp hx with rfl | hx
    · exact ⟨_, _, h2⟩
    · cases hx
end Mine
end
local macro_rules | `(tactic| k_mem) => `(tactic| assumption)
local macro_rules | `(tactic| k_all) => `(tactic| first | exact Mine.allLt_ne (by assumption) | exact Mine.allLt_ne (And.right (by assumption)) | exact Mine.allLt_ne (And.right (And.right (by assumption))) | exact Mine.allLt_ne (And.right (And.right (And.right (by assumption)))) | exact Mine.allLt_ne (And.right (And.right (And.right (And.right (by assumption))))) | exact Mine.allLt_ne (And.right (And.right (And.right (And.right (And.right (by assumption)))))) | exact Mine.allLt_ne (And.right (And.right (And.right (And.right (And.right (And.right (by assumption))))))))
section
open PySem PySem.W PyProof.Rows
set_option Elab.async false
set_option maxRecDepth 100000
set_option maxHeartbeats 8000000
namespace Mine
/-- how many hands a deed needs -/
def needsZ (d : Int) : Int := if d = 4 then 0 else if d = 3 then 1 else 2
theorem needsZ_two {d : Int} (h : d ≤ 2) : needsZ d = 2 := by unfold needsZ; rw [if_neg (by omega), if_neg (by omega)]
section
variable {prog : Program} {w : World} {A : Around} {E : Value → Shared → Prop} {s : Shared}
theorem item_needsZ {h₀ : Heap} {L : Addr} {news : List (Addr × Obj)} {value slice : PySem.Expr} {l : Addr} {t0 t1 t2 t3 t4 : Tok} {n : Nat} {k z : Int} {u : Tok} {Q : Value → Shared → Prop} (hz : needsZ k = z)
    (N : News h₀ L s.heap news) (hm : (l, W.listOf #[.int 2 t0, .int 2 t1, .int 2 t2, .int 1 t3, .int 0 t4] n) ∈ news) (h0 : 0 ≤ k) (h1 : k ≤ 4) (h : ∀ t, Q (.int z t) s)
    (hs : subscripted slice false (.ref l) (.int k u) = operate [.ref l, .int k u] (getItem (.ref l) (.int k u)) := by with_unfolding_all rfl) :
    wpAny (model prog w) A (subscriptTail value slice (.ref l) (.int k u)) Q E s := by
  subst hz
  have hk : k = 0 ∨ k = 1 ∨ k = 2 ∨ k = 3 ∨ k = 4 := by omega
  rcases hk with rfl | rfl | rfl | rfl | rfl <;>
    exact item_lit (vs := [.int 2 t0, .int 2 t1, .int 2 t2, .int 1 t3, .int 0 t4]) N hm (by decide) (by decide) rfl (h _) hs
end
set_option maxHeartbeats 2000000
theorem rows_shr_0 : True := by
  k_with_none
  (k_with "my enter" => ((case kA => exact rfl); (case kF => exact rfl); (case kK => assumption); (case k1 => k_asm); (case k2 => k_asm); (case k3 => k_asm); (case k4 => k_asm); (case k5 => k_asm); (case k6 => k_is); (case k7 => k_is); (case k8 => ktr_room); (case k9 => exact BindsTo.of_eq rfl); (case c5 => decide); (case kB => exact rfl); (case c2 => exact rfl); (case c3 => exact rfl); (case c4 => exact rfl); k_whole; intro g' L' h' tk0 FG' F' N' B' X' T'; (try dsimp only [List.reverse_cons, List.reverse_nil, List.nil_append, List.cons_append] at F'); (try dsimp only); (try k_lift B'); (try k_fold)))
  (k_with "my sub" => (intro p hp; repeat (first | exact hp | refine List.mem_cons_of_mem _ ?_ | refine List.mem_append_right _ ?_)))
  (k_with "my use" => ((case k1 => k_asm); (case k2 => k_asm); (case k3 => k_asm); (case k4 => k_asm); (case k5 => k_asm); (case kK => first | exact rfl | assumption); (case kd => ktr_room); (case ku => ktr_units)))
  (k_with "my got str" => (intro r9 tl9 h9 tk9 F9 N9 p9; obtain ⟨e9, t9, e8⟩ := p9; subst e9; subst e8; simp only [List.nil_append] at N9; (try dsimp only); (try k_fold)))
  (k_with "my enterC" => ((case kA => exact rfl); (case kF => exact rfl); (case kK => assumption); (case k1 => k_asm); (case k2 => k_asm); (case k3 => k_asm); (case k4 => k_asm); (case k5 => k_asm); (case k6 => k_is); (case k7 => k_is); (case k8 => ktr_room); (case k9 => exact BindsTo.of_eq rfl); (case kB => exact rfl); (case kD => decide +kernel); (case c2 => exact rfl); (case c3 => exact rfl); (case c4 => exact rfl); k_whole; intro g' L' h' tk' cells' FG' F' N' Y' B' X' T' l1; (try k_lt l1); k_cells Y'; (try simp only [List.cons_append, List.nil_append] at N'); (try dsimp only); (try k_lift B'); (try k_fold)))
  (k_with "exec For Name Call cons nil" => (k_here; k_dflt (refine For_C ?_)))
  (k_with "pyIter ref" => (k_here; refine Stop.go ?_))
  (k_with "subscriptTail" => (k_here; (with_reducible show wpAny _ _ (subscriptTail _ _ (Value.ref _) (Value.int _ _)) _ _ _); k_dflt (with_unfolding_all refine' item_lit ?iN ?im ?ia ?ib ?ic ?_ ?id; (case iN => k_asm); (case im => k_mem); (case ia => decide); (case ib => decide); (case ic => exact rfl); (case id => with_unfolding_all rfl); k_whole)))
  (k_with "subscriptTail Name Constant ref int" => (k_here; (with_reducible show wpAny _ _ (subscriptTail _ _ (Value.ref _) (Value.int _ _)) _ _ _); k_dflt (with_unfolding_all refine' item_lit ?iN ?im ?ia ?ib ?ic ?_ ?id; (case iN => k_asm); (case im => k_mem); (case ia => decide); (case ib => decide); (case ic => exact rfl); (case id => with_unfolding_all rfl); k_whole)))
  (k_with "subscriptTail" => (k_here; (with_reducible show wpAny _ _ (subscriptTail _ _ (Value.ref _) (Value.int d _)) _ _ _); k_dflt (refine' item_needsZ hnz ?jN ?jm ?ja ?jb ?_ ?jd; (case jN => k_asm); (case jm => k_mem); (case ja => exact hr.1); (case jb => exact hr.2.1); (case jd => with_unfolding_all rfl); intro t₅)))
  (k_with "subscriptTail" => (k_here; (with_reducible show wpAny _ _ (subscriptTail (PySem.Expr.List (PySem.Expr.BinOp _ _ _ _ :: _) _) _ (Value.ref _) (Value.int d _)) _ _ _); k_dflt (refine' item_op ?opN ?opm ?opa ?opb ?_ ?opd; (case opN => k_asm); (case opm => k_mem); (case opa => omega); (case opb => omega); (case opd => with_unfolding_all rfl); intro t₅)))
  (k_with "subscriptTail" => (k_here; (with_reducible show wpAny _ _ (subscriptTail (Expr.Name (Str.ofString "ring") _) _ (Value.ref _) (Value.int _ _)) _ _ _); refine Stop.go ?_))
  (k_with "CompSrc" => (k_here; k_dflt (refine LCg.CompSrc.ledger (by rfl) (by k_asm) (by k_asm) (by k_mem) (by first | size_fits | exact Nat.le_of_ble_eq_true rfl) ?_; intro g'; lcg_lit)))
  (k_with "CompSrc" => (k_here; k_dflt (refine LCg.CompSrc.range (by rfl) (by k_asm) (by k_asm) (by assumption) (by first | decide | rfl) (by first | rfl | decide) (by first | size_fits | exact Nat.le_of_ble_eq_true rfl) ?_; intro g'; lcg_lit)))
  (k_with "binaryOp Mult" => (k_here; (with_reducible show wpAny _ _ (binaryOp _ (Value.int _ _) (Value.int _ _)) _ _ _); k_dflt (refine mul_int ?_ (by assumption))))
  (k_with "compareOp Eq ref ref" => (k_here; (with_reducible show wpAny _ _ (compareOp CmpOp.Eq (Value.ref _) (Value.ref _)) _ _ _); k_dflt (first | (with_unfolding_all refine eq_one (by k_asm) (by k_mem) (by k_mem) (by ktr_units) ?_) | (with_unfolding_all refine eq_two (by k_asm) (by k_mem) (by k_mem) (by ktr_units) ?_) | (with_unfolding_all refine eq_lens (by k_asm) (by k_mem) (by k_mem) (by ktr_units) (by rfl) ?_))))
  (k_with "CompEnd" => (k_here; k_dflt (refine CompEnd0 (by k_asm) (by k_asm) (by assumption) (by lcg_src) ?_)))
  (k_with "subscriptTail Name Slice ref ref" => (k_here; (with_reducible show wpAny _ _ (subscriptTail _ (PySem.Expr.Slice none (some _) none _) (Value.ref _) (Value.ref _)) _ _ _); k_dflt (refine' slice_to (i := i) ?saF ?saN ?sal ?sap ?saq ?_ ?sas ?sat; (case saF => k_asm); (case saN => k_asm); (case sal => k_mem); (case sap => omega); (case saq => omega); (case sas => with_unfolding_all rfl); (case sat => kmk_pure)); intro D₁ h₁ F₁ N₁ l₁; (try k_lt l₁)))
  (k_with "subscriptTail Name Slice ref ref" => (k_here; (with_reducible show wpAny _ _ (subscriptTail _ (PySem.Expr.Slice (some _) none none _) (Value.ref _) (Value.ref _)) _ _ _); k_dflt (refine' slice_fr (i := i + 1) ?sbF ?sbN ?sbl ?sbp ?sbq ?_ ?sbs ?sbt; (case sbF => k_asm); (case sbN => k_asm); (case sbl => k_mem); (case sbp => omega); (case sbq => omega); (case sbs => with_unfolding_all rfl); (case sbt => kmk_pure)); intro D₂ h₂ F₂ N₂ l₂; (try k_lt l₂)))
  (k_with "binaryOp Add ref ref" => (k_here; (with_reducible show wpAny _ _ (binaryOp _ (Value.ref _) (Value.ref _)) _ _ _); k_dflt (with_unfolding_all refine' add_ll ?scF ?scN ?sca ?scb ?scp ?scq ?_; (case scF => k_asm); (case scN => k_asm); (case sca => k_mem); (case scb => k_mem); (case scp => (simp only [List.length_append, List.length_take, List.length_drop, List.length_cons, List.length_nil]; omega)); (case scq => (simp only [List.length_append, List.length_take, List.length_drop, List.length_cons, List.length_nil]; omega))); intro D₃ h₃ F₃ N₃ l₃; (try k_lt l₃)))
  (k_with "compareOp NotIn ref ref" => (k_here; (with_reducible show wpAny _ _ (compareOp CmpOp.NotIn (Value.ref _) (Value.ref _)) _ _ _); k_dflt (first | (with_unfolding_all refine notIn_oneB (q1 := (d1, x1, p1)) (r := rj) hdec (by k_asm) (by k_mem) (by k_mem) (by k_mem) (by ktr_units) ?_) | (with_unfolding_all refine notIn_twoB (q1 := (d1, x1, p1)) (q2 := (d2, x2, p2)) (r := rj) hdec (by k_asm) (by k_mem) (by k_mem) (by k_mem) (by k_mem) (by ktr_units) ?_))))
  (k_with "eval ListComp" => (k_here; (with_reducible show wpAny _ _ (eval (PySem.Expr.ListComp (PySem.Expr.Name _ _) _ _ _) _) _ _ _); k_dflt (refine LCt.ListComp_T (F₀ := by k_asm) (by with_unfolding_all rfl) (by decide) (by rfl) (by decide) (by rfl) ?_)))
  (k_with "CompSrcT" => (k_here; refine Stop.go ?_))
  (k_with "UnrEnd" => (k_here; k_dflt (refine UnrShr (by k_asm) (by k_asm) (by k_mem) (by k_mem) (by k_mem) (by k_mem) (by walk_at "my sub") off (by assumption) (by assumption) (fun _ h => h) hno ?_; refine Stop.go ?_)))
  (k_with "call type:range" => (k_here; (with_reducible show wpAny _ _ (call _ [Value.int (ite _ _ _) _]) _ _ _); k_dflt (rw [hmin])))
  (k_with "call builtin:len" => (k_here; (with_reducible show wpAny _ _ (call (Value.builtin "len") [Value.ref a]) _ _ _); k_dflt (refine' len_led ?nN ?nm hts.1 ?nf ?_; (case nN => k_asm); (case nm => k_mem); (case nf => omega))))
  (k_with "CompSrc" => (k_here; (have _ := hMark); refine Stop.go ?_))
  trivial
theorem con_shr (w mean mg mb) (a : Addr) (R : List Trip) (hR : RingOk R) (hl0 : R.length ≤ 8) : Con w mean mg mb 82 [.ref a] 3 40
    (fun news => RingAt news a R) (fun news tl r => (∀ p ∈ tl, ∃ xs n, p.2.data = Data.seq xs n) ∧ ∃ R' a', r = .ref a' ∧ Shr R R' ∧ RingAt (tl ++ news) a' R') := by
  unfold Con
  k_fill
  intro dp un gd cn cs a' ccd cl outer A₀ base h₀ L m news s Q E B F X N T hk hp hd' hu hret
  obtain ⟨vs, nn, hmem, hts⟩ := hp
  refine wpAny_call ?_
  k_dflt (refine' enter_defC [("ring", .ref a)] ?k1 ?k2 ?k3 ?k4 ?k5 ?kA ?kF ?kK ?k6 ?k7 ?k8 ?k9 ?kB ?kD ?c2 ?c3 ?c4 ?_)
  walk_at "my enterC"
  rename_i o1 o2 o3 d1 d2 d3x
  k_steps
  refine Stop.on ?_
  (rename Fr g' _ _ _ => lF'); (rename News g' _ _ _ => lN'); (rename IsRange _ _ _ _ _ _ _ _ => lR')
  have d3 : o3.data = Data.cell (some (Value.ref a)) := d3x
  have a0 : AllLt L' news := allLt_of l1
  have a1 : AllLt (L' + 1) news := allLt_of fun p hp => Nat.lt_trans (l1 p hp) (Nat.lt_succ_self _)
  have a2 : AllLt (L' + 1 + 1) news := allLt_of fun p hp => Nat.lt_trans (allLt_mem a1 p hp) (Nat.lt_succ_self _)
  have a3 : AllLt (L' + 1 + 1 + 1) news := allLt_of fun p hp => Nat.lt_trans (allLt_mem a2 p hp) (Nat.lt_succ_self _)
  refine iter_rangeC (n := R.length) (fun i m' news' => ∃ (oh ok : Obj) (vh vk : Option Value), oh.data = Data.cell vh ∧ ok.data = Data.cell vk ∧ news' = (L' + 1 + 1 + 1, oh) :: (L' + 1 + 1, ok) :: (L' + 1, o3) :: news ∧ ∀ j, j < i → ¬ fires R j) (by rfl) lR' ?s1 ?s2 lF' lN' (by passes_own) ⟨_, _, _, _, d1, d2, rfl, fun _ h => absurd h (Nat.not_lt_zero _)⟩ (fun I i m' news' h tk t' hI hi hP F' N' off => ?_) (fun m' news' h tk hP F' N' => ?_)
  (case s1 => exact (rng8 _ (by omega)).2)
  (case s2 => exact (rng8 _ (by omega)).1)
  clear lF' lN' lR'
  · obtain ⟨oh, ok, vh, vk, e1, e2, rfl, hno⟩ := hP
    have hvl : vs.length ≤ 8 := hts.1 ▸ hl0
    have l1 := allLt_of hI
    simp only [AllLt] at l1
    k_steps
    refine Stop.on ?_
    with_unfolding_all refine item_list0 (by assumption) (by k_mem) (by omega) (by rw [hts.1]; omega) (by rw [hts.1]; omega) ?_
    intro v hv
    have hv' : vs[i]? = some v := by rw [← hv]; congr 1; omega
    obtain ⟨⟨b, n0, t1, t2, t3, rfl, hmb⟩, _⟩ := hts.get hv'
    clear hv
    have hr := hR i
    have hat : R.getD i (4, 0, 0) = at' R i := rfl
    rw [hat] at hmb
    rcases hat' : at' R i with ⟨d, x, p⟩
    rw [hat'] at hmb hr
    dsimp only at hmb hr
    obtain ⟨nz, hnz⟩ : ∃ nz, needsZ d = nz := ⟨_, rfl⟩
    obtain ⟨cz, hmin⟩ : ∃ cz, (if (R.length : Int) - 1 < nz then (R.length : Int) - 1 else nz) = cz := ⟨_, rfl⟩
    have hMark : True := trivial
    k_steps
    refine Stop.on ?_
    clear hMark
    have hd5 : d = 4 ∨ d = 3 ∨ (0 ≤ d ∧ d ≤ 2) := by omega
    rcases hd5 with rfl | rfl | hd2
    · obtain rfl : nz = 0 := hnz.symm
      obtain rfl : cz = 0 := by rw [← hmin]; split <;> omega
      k_steps
      exact Stop.on (fires_4 hat')
    · obtain rfl : nz = 1 := hnz.symm
      rcases Nat.lt_or_ge 1 R.length with hn | hn
      · obtain rfl : cz = 1 := by rw [← hmin]; split <;> omega
        k_steps
        refine Stop.on ?_
        with_unfolding_all refine item_hand (j := 0) (by assumption) (by k_mem) hts hi (by omega) hl0 (by omega) ?_
        intro b1 n1 t11 t12 t13 hm1
        rcases hh1 : hand R i 0 with ⟨d1, x1, p1⟩
        rw [hh1] at hm1
        dsimp only at hm1
        have hr1 : 0 ≤ d1 ∧ d1 ≤ 4 ∧ x1.natAbs ≤ 10 ^ 60 := by
          have := hR (handIx R.length i 0)
          rw [show at' R (handIx R.length i 0) = (d1, x1, p1) from hh1] at this
          exact this
        have hm : IntMulOk x1 x1 := IntMulOk.of_bits (bits60 hr1.2.2) (bits60 hr1.2.2)
        k_steps
        rotate_left
        · exact Stop.on (fires_3 hat' hh1 (by assumption))
        refine Stop.on ?_
        refine comp_ring (R := R) (vs := vs) (i := i) (news := news) (fun t => !decide (t = (d1, x1, p1))) (by rfl) (by k_asm) (by k_asm) (by k_mem) (by k_mem) hts (by walk_at "my sub") hi hl0 ?_ ?_
        · intro g ys b2 rj n2 u1 u2 u3 I' oI' C' oC' D' m₂ h₅ tk₅ E' K1 K2 hmb2 hC' hx' F' N' off' ne' hK1 hK2
          by_cases hq : rj = (d1, x1, p1)
          · have hdec : (!decide (rj = (d1, x1, p1))) = false := by rw [decide_eq_true hq]; rfl
            k_steps
            exact hK2 hdec
          · have hdec : (!decide (rj = (d1, x1, p1))) = true := by rw [decide_eq_false hq]; rfl
            k_steps
            exact hK1 hdec
        · intro g ys hys
          k_steps
          have hd1 : d1 = 4 := by assumption
          rw [← after_3 hat' hh1 rfl] at hys
          refine hret _ [(_, LCg.lst ys), _] _ _ (by assumption) (ret2 (by assumption) (by k_mem) ?m2 (by walk_at "my sub")) ⟨seqs2 rfl rfl, _, _, rfl, .inr ⟨i, hi, fires_3' hat' (hd1 ▸ hh1) hn, rfl⟩, ys, _, .head _, hys.mono fun p hp => .tail _ hp⟩
          (case m2 => k_mem)
      · obtain rfl : cz = 0 := by rw [← hmin]; split <;> omega
        k_steps
        exact Stop.on (fires_len hn)
    · obtain rfl : nz = 2 := hnz.symm.trans (needsZ_two hd2.2)
      have hn3 : R.length ≤ 1 ∨ R.length = 2 ∨ 2 < R.length := by omega
      rcases hn3 with hn | hn | hn
      · obtain rfl : cz = 0 := by rw [← hmin]; split <;> omega
        k_steps
        exact Stop.on (fires_len hn)
      · obtain rfl : cz = 1 := by rw [← hmin]; split <;> omega
        k_steps
        refine Stop.on ?_
        with_unfolding_all refine item_hand (j := 0) (by assumption) (by k_mem) hts hi (by omega) hl0 (by omega) ?_
        intro b1 n1 t11 t12 t13 hm1
        rcases hh1 : hand R i 0 with ⟨d1, x1, p1⟩
        rw [hh1] at hm1
        dsimp only at hm1
        k_steps
        exact Stop.on (fires_2len hat' hd2.2 (by omega))
      · obtain rfl : cz = 2 := by rw [← hmin]; split <;> omega
        k_steps
        refine Stop.on ?_
        with_unfolding_all refine item_hand (j := 0) (by assumption) (by k_mem) hts hi (by omega) hl0 (by omega) ?_
        intro b1 n1 t11 t12 t13 hm1
        rcases hh1 : hand R i 0 with ⟨d1, x1, p1⟩
        rw [hh1] at hm1
        dsimp only at hm1
        have hr1 : 0 ≤ d1 ∧ d1 ≤ 4 ∧ x1.natAbs ≤ 10 ^ 60 := by
          have := hR (handIx R.length i 0)
          rw [show at' R (handIx R.length i 0) = (d1, x1, p1) from hh1] at this
          exact this
        k_steps
        refine Stop.on ?_
        with_unfolding_all refine item_hand (j := 1) (by assumption) (by k_mem) hts hi (by omega) hl0 (by omega) ?_
        intro b2 n2 t21 t22 t23 hm2
        rcases hh2 : hand R i 1 with ⟨d2, x2, p2⟩
        rw [hh2] at hm2
        dsimp only at hm2
        have hr2 : 0 ≤ d2 ∧ d2 ≤ 4 ∧ x2.natAbs ≤ 10 ^ 60 := by
          have := hR (handIx R.length i 1)
          rw [show at' R (handIx R.length i 1) = (d2, x2, p2) from hh2] at this
          exact this
        have hm : IntMulOk x2 x1 := IntMulOk.of_bits (bits60 hr2.2.2) (bits60 hr1.2.2)
        k_steps
        rotate_left
        · exact Stop.on (fires_2 hat' hd2.2 hh1 hh2 (by assumption))
        refine Stop.on ?_
        refine comp_ring (R := R) (vs := vs) (i := i) (news := news) (fun t => !decide (t = (d1, x1, p1) ∨ t = (d2, x2, p2))) (by rfl) (by k_asm) (by k_asm) (by k_mem) (by k_mem) hts (by walk_at "my sub") hi hl0 ?_ ?_
        · intro g ys b3 rj n3 u1 u2 u3 I' oI' C' oC' D' m₂ h₅ tk₅ E' K1 K2 hmb2 hC' hx' F' N' off' ne' hK1 hK2
          by_cases hq : rj = (d1, x1, p1) ∨ rj = (d2, x2, p2)
          · have hdec : (!decide (rj = (d1, x1, p1) ∨ rj = (d2, x2, p2))) = false := by rw [decide_eq_true hq]; rfl
            k_steps
            exact hK2 hdec
          · have hdec : (!decide (rj = (d1, x1, p1) ∨ rj = (d2, x2, p2))) = true := by rw [decide_eq_false hq]; rfl
            k_steps
            exact hK1 hdec
        · intro g ys hys
          k_steps
          have hd12 : d1 = 4 ∧ d2 = 4 := by assumption
          rw [← after_2 hat' hd2.2 hh1 hh2 rfl rfl] at hys
          refine hret _ [(_, LCg.lst ys), _] _ _ (by assumption) (ret2 (by assumption) (by k_mem) ?m2 (by walk_at "my sub")) ⟨seqs2 rfl rfl, _, _, rfl, .inr ⟨i, hi, fires_2' hat' hd2.2 hh1 hh2 hd12 hn, rfl⟩, ys, _, .head _, hys.mono fun p hp => .tail _ hp⟩
          (case m2 => k_mem)
  · obtain ⟨oh, ok, vh, vk, e1, e2, rfl, hno⟩ := hP
    dsimp only
    k_steps
    exact hret _ [] _ _ (by assumption) (cb_drop (by assumption) (by walk_at "my sub")) ⟨fun p hp => (nomatch hp), R, a, rfl, .inl ⟨rfl, hno⟩, vs, nn, hmem, hts⟩
end Mine
end
section
open PySem PySem.W PyProof.Rows PySem.Calls PySem.Spec
set_option maxRecDepth 100000
namespace Mine
def ring0 (D : List (Int × Int)) : List Trip := (List.range 8).map fun (i : Nat) => ((D.getD i (4, 0)).1, (D.getD i (4, 0)).2, (i : Int))
theorem ring0_get (D : List (Int × Int)) {i : Nat} (h : i < 8) : (ring0 D)[i]? = some ((D.getD i (4, 0)).1, (D.getD i (4, 0)).2, (i : Int)) := by
  unfold ring0
  rw [List.getElem?_map, List.getElem?_range h]; rfl
theorem ring0_len (D : List (Int × Int)) : (ring0 D).length = 8 := by simp [ring0]
theorem ring0_take (D : List (Int × Int)) {i : Nat} (h : i < 8) : (ring0 D).take (i + 1) = (ring0 D).take i ++ [((D.getD i (4, 0)).1, (D.getD i (4, 0)).2, (i : Int))] := by
  rw [List.take_add_one, ring0_get D h]; rfl
section
variable {prog : Program} {w : World} {A : Around} {E : Value → Shared → Prop} {s : Shared}
theorem item_deed {h₀ : Heap} {L : Addr} {news base : List (Addr × Obj)} {value slice : PySem.Expr} {l : Addr} {vs : List Value} {D : List (Int × Int)} {n i : Nat} {z : Int} {u : Tok} {Q : Value → Shared → Prop}
    (N : News h₀ L s.heap news) (hm : (l, W.listOf vs.toArray n) ∈ news) (hvl : vs.length = 8) (hvs : ∀ (k : Nat) (v : Value), vs[k]? = some v → ∃ (b : Addr) (n : Nat) (t u : Tok), v = Value.ref b ∧ (b, ({ cls := .type "tuple", data := .seq #[.int (D.getD k (4, 0)).1 t, .int (D.getD k (4, 0)).2 u] n } : Obj)) ∈ base)
    (hi : i < 8) (hz : z = (i : Int)) (h : ∀ (b : Addr) (n0 : Nat) (t1 t2 : Tok), (b, ({ cls := .type "tuple", data := .seq #[.int (D.getD i (4, 0)).1 t1, .int (D.getD i (4, 0)).2 t2] n0 } : Obj)) ∈ base → Q (.ref b) s)
    (hs : subscripted slice false (.ref l) (.int z u) = operate [.ref l, .int z u] (getItem (.ref l) (.int z u)) := by with_unfolding_all rfl) :
    wpAny (model prog w) A (subscriptTail value slice (.ref l) (.int z u)) Q E s := by
  refine item_list0 N hm (by omega) (by omega) (by omega) (fun v hv => ?_) hs
  have hv' : vs[i]? = some v := by rw [← hv]; congr 1; omega
  obtain ⟨b, n0, t1, t2, rfl, hmb⟩ := hvs _ _ hv'
  exact h b n0 t1 t2 hmb
end
inductive ShrN : Nat → List Trip → List Trip → Prop
  | zero {R : List Trip} : ShrN 0 R R
  | succ {n : Nat} {R S T : List Trip} : ShrN n R S → Shr S T → ShrN (n + 1) R T
end Mine
namespace Mine
theorem TripAt.of {led : List (Addr × Obj)} {b : Addr} {d x z p : Int} {t1 t2 t3 : Tok} {n : Nat} (h : (b, ({ cls := .type "tuple", data := .seq #[.int d t1, .int x t2, .int z t3] n } : Obj)) ∈ led) (hz : z = p) : TripAt led (.ref b) (d, x, p) := by
  subst hz
  exact ⟨b, n, t1, t2, t3, rfl, h⟩
theorem UnrShrN {h₀ : Heap} {L I : Addr} {x left : Int} {P : (Str → Option Value) → List (Addr × Obj) → Prop} {s₁ : Shared} {h' : Heap} {tk : Nat} {m' : Str → Option Value} {tl news' : List (Addr × Obj)}
    (F : Fr h₀ L h' m') (N : News h₀ L h' (tl ++ (I, itR x left) :: news')) (off : ∀ p ∈ news', p.1 ≠ I) (hs : ∀ p ∈ tl, ∃ xs n, p.2.data = Data.seq xs n) (h : P m' (tl ++ news')) : UnrEnd h₀ L s₁ I (itR x left) P { s₁ with heap := h', toks := tk } :=
  UnrEnd.intro F N (tl ++ news') (fun p hp => by
    rcases List.mem_cons.mp hp with rfl | hp
    · exact List.mem_append_right _ (.head _)
    · rcases List.mem_append.mp hp with hp | hp
      · exact List.mem_append_left _ hp
      · exact List.mem_append_right _ (.tail _ hp)) (fun p hp e => by
    rcases List.mem_append.mp hp with hp | hp
    · have h1 := (N p (List.mem_append_left _ hp)).1
      have h2 := (N (I, itR x left) (List.mem_append_right _ (.head _))).1
      obtain ⟨xs, n, h3⟩ := hs p hp
      rw [e, h2] at h1
      rw [← Option.some.inj h1] at h3
      cases h3
    · exact off p hp e) h
end Mine
namespace Mine
theorem RingAt.less {tl news : List (Addr × Obj)} {I a : Addr} {x l : Int} {R : List Trip} (h : RingAt (tl ++ (I, itR x l) :: news) a R) : RingAt (tl ++ news) a R := by
  have drop : ∀ (p : Addr × Obj) (xs : Array Value) (n : Nat), p.2.data = Data.seq xs n → p ∈ tl ++ (I, itR x l) :: news → p ∈ tl ++ news := fun p xs n e hp => by
    rcases List.mem_append.mp hp with hp | hp
    · exact List.mem_append_left _ hp
    · rcases List.mem_cons.mp hp with rfl | hp
      · cases e
      · exact List.mem_append_right _ hp
  obtain ⟨vs, n, hm, ht⟩ := h
  refine ⟨vs, n, drop _ _ _ rfl hm, ht.1, fun k v r hv hr => ?_⟩
  obtain ⟨b, n1, t1, t2, t3, e, hb⟩ := ht.2 k v r hv hr
  exact ⟨b, n1, t1, t2, t3, e, drop _ _ _ rfl hb⟩
section
variable {prog : Program} {w : World} {A : Around} {E : Value → Shared → Prop} {s : Shared} {h₀ : Heap} {L : Addr} {m : Str → Option Value} {news news' : List (Addr × Obj)}
theorem mul_none {l : Addr} {u : Tok} {n : Nat} {Q : Value → Shared → Prop} (F : Fr h₀ L s.heap m) (N : News h₀ L s.heap news) (hm : (l, W.listOf [Value.none].toArray n) ∈ news)
    (h : ∀ D h', Fr h₀ L h' m → News h₀ L h' ((D, W.listOf (List.replicate 8 Value.none).toArray 0) :: news) → (∀ p ∈ news, p.1 < D) → Q (.ref D) { s with heap := h' }) : wpAny (model prog w) A (binaryOp .Mult (.ref l) (.int 8 u)) Q E s :=
  KMa.mul F N (News.isList N hm) (by decide) (by decide) (by decide) rfl h
theorem set_led {D : Addr} {vs : List Value} {n i : Nat} {k : Int} {t : Tok} {v : Value} {Q : Unit → Shared → Prop} (F : Fr h₀ L s.heap m) (N : News h₀ L s.heap news) (U : Upd D (W.listOf vs.toArray n) (W.listOf (vs.set i v).toArray n) news news') (hk : k = (i : Int)) (h1 : i < vs.length) (hl : vs.length ≤ 100)
    (h : ∀ h', Fr h₀ L h' m → News h₀ L h' news' → Q () { s with heap := h' }) : wpAny (model prog w) A (setItem (.ref D) (.int k t) v) Q E s := by
  obtain ⟨pre, post, rfl, rfl, a, b⟩ := U.split
  have z := N (D, W.listOf vs.toArray n) (List.mem_append.mpr (.inr (.head _)))
  refine ki_setAt z.1 (by omega) (by omega) (by simp; omega) (h _ (F.change (Heap.SameBut.update ..) z.2.1 z.2.2) (ki_turn _ N a b ?_ ?_))
  · show vs.toArray.setIfInBounds k.toNat v = (vs.set i v).toArray
    apply Array.toList_inj.mp
    have e : k.toNat = i := by omega
    simp [e]
  · simp
end
end Mine
namespace Mine
theorem eq_nil {prog : Program} {w : World} {A : Around} {E : Value → Shared → Prop} {s : Shared} {h₀ : Heap} {L l1 l2 : Addr} {news : List (Addr × Obj)} {Q : Value → Shared → Prop} {n1 n2 : Nat} (N : News h₀ L s.heap news) (m1 : (l1, W.listOf ([] : List Value).toArray n1) ∈ news) (m2 : (l2, W.listOf ([] : List Value).toArray n2) ∈ news) (hu : A.units + 1 < cLine)
    (h : Q (.bool true) s) : wpAny (model prog w) A (compareOp .Eq (.ref l1) (.ref l2)) Q E s :=
  SeqAt.eq_listAt (e := fun _ => true) (News.isList N m1) (News.isList N m2) rfl (by omega) (fun j h1 _ => absurd h1 (Nat.not_lt_zero _)) h
end Mine
namespace Mine
theorem ret1 {h₀ h : Heap} {L : Addr} {all news : List (Addr × Obj)} {p : Addr × Obj} (N : News h₀ L h all) (h1 : p ∈ all) (h3 : ∀ x ∈ news, x ∈ all) : News h₀ L h ([p] ++ news) := fun x hx => by
  rcases List.mem_cons.mp hx with rfl | hx
  · exact N _ h1
  · exact N _ (h3 _ hx)
end Mine
end
section
open PySem PySem.W PyProof.Rows
set_option maxRecDepth 100000
namespace Mine
def dAt (D : List (Int × Int)) (i : Nat) : Int × Int := D.getD (i % 8) (4, 0)
def runS (D : List (Int × Int)) (a : Nat) : Nat → List Int → Option (List Int)
  | 0, S => some S
  | n + 1, S => (runS D a n S).bind (stepD (dAt D (a + n)).1 (dAt D (a + n)).2)
theorem runN_eq (D : List (Int × Int)) (t n : Nat) : runN D t n = runS D t n [] := by
  induction n with
  | zero => rfl
  | succ n ih => unfold runN runS; rw [ih]; rfl
theorem runS_add (D : List (Int × Int)) (a n m : Nat) (S : List Int) : runS D a (n + m) S = (runS D a n S).bind (runS D (a + n) m) := by
  induction m with
  | zero => cases h : runS D a n S <;> simp [runS]
  | succ m ih =>
    show (runS D a (n + m) S).bind _ = _
    rw [ih, Option.bind_assoc]
    congr 1
    funext T
    show _ = (runS D (a + n) m T).bind (stepD (dAt D (a + n + m)).1 (dAt D (a + n + m)).2)
    rw [Nat.add_assoc]
    rfl
theorem dAt_per (D : List (Int × Int)) (i : Nat) : dAt D (i + 8) = dAt D i := by unfold dAt; rw [Nat.add_mod_right]
theorem runS_per (D : List (Int × Int)) (a n : Nat) (S : List Int) : runS D (a + 8) n S = runS D a n S := by
  induction n with
  | zero => rfl
  | succ n ih =>
    unfold runS
    rw [ih, show a + 8 + n = a + n + 8 by omega, dAt_per]
theorem runS_mod (D : List (Int × Int)) (a n : Nat) (S : List Int) : runS D (a % 8) n S = runS D a n S := by
  have : ∀ c, runS D (a % 8 + 8 * c) n S = runS D (a % 8) n S := by
    intro c
    induction c with
    | zero => rfl
    | succ c ih => rw [show a % 8 + 8 * (c + 1) = a % 8 + 8 * c + 8 by omega, runS_per, ih]
  rw [← this (a / 8), Nat.mod_add_div]

/-- the l deeds from place a on do what the thing r does, and none of their ends stands alone -/
structure Blk (D : List (Int × Int)) (a l : Nat) (r : Trip) : Prop where
  pos : 0 < l
  run : ∀ S, runS D a l S = stepD r.1 r.2.1 S
  mid : ∀ j, 0 < j → j < l → runS D (a + j) (l - j) [] = none
  d0 : 0 ≤ r.1
  d4 : r.1 ≤ 4
  bd : r.2.1.natAbs ≤ 10 ^ (7 * l)
  place : r.2.2 = (((a + l + 7) % 8 : Nat) : Int)
theorem Blk.shift {D : List (Int × Int)} {a l : Nat} {r : Trip} (h : Blk D a l r) : Blk D (a + 8) l r :=
  ⟨h.pos, fun S => by rw [runS_per]; exact h.run S, fun j h1 h2 => by rw [show a + 8 + j = a + j + 8 by omega, runS_per]; exact h.mid j h1 h2, h.d0, h.d4, h.bd, by rw [h.place, show a + 8 + l + 7 = a + l + 7 + 8 by omega, Nat.add_mod_right]⟩
theorem stepD_four (v : Int) (S : List Int) : stepD 4 v S = some (v :: S) := rfl
theorem step_val {D : List (Int × Int)} {a l : Nat} {r : Trip} (h : Blk D a l r) (h4 : r.1 = 4) (S : List Int) : runS D a l S = some (r.2.1 :: S) := by rw [h.run, h4, stepD_four]
theorem runS_cut {D : List (Int × Int)} {a n m : Nat} {S : List Int} (h : runS D a n S = none) (k : n ≤ m) : runS D a m S = none := by
  obtain ⟨c, rfl⟩ := Nat.le.dest k
  rw [runS_add, h]; rfl
theorem stepD_two {d v r l : Int} {S : List Int} (h0 : 0 ≤ d) (h2 : d ≤ 2) : stepD d v (r :: l :: S) = some (opVal d l r :: S) := by
  unfold stepD opVal
  rw [if_neg (by omega), if_neg (by omega)]
  dsimp only
  by_cases e0 : d = 0
  · simp [e0]
  · by_cases e1 : d = 1
    · simp [e1]
    · have e2 : d = 2 := by omega
      simp [e2]
theorem stepD_short {d v : Int} {S : List Int} (h2 : d ≤ 2) (h : S.length ≤ 1) : stepD d v S = none := by
  unfold stepD
  rw [if_neg (by omega), if_neg (by omega)]
  match S, h with
  | [], _ => rfl
  | [_], _ => rfl
theorem opVal_bd {d l r : Int} {m n : Nat} (hl : l.natAbs ≤ 10 ^ m) (hr : r.natAbs ≤ 10 ^ n) : (opVal d l r).natAbs ≤ 10 ^ (m + n + 1) := by
  have p1 : 10 ^ m ≤ 10 ^ (m + n) := Nat.pow_le_pow_right (by decide) (Nat.le_add_right _ _)
  have p2 : 10 ^ n ≤ 10 ^ (m + n) := Nat.pow_le_pow_right (by decide) (Nat.le_add_left _ _)
  have p4 : (l * r).natAbs ≤ 10 ^ (m + n) := by
    rw [Int.natAbs_mul, Nat.pow_add]
    exact Nat.mul_le_mul hl hr
  have hX : ∀ z : Nat, z ≤ 10 ^ (m + n) + 10 ^ (m + n) → z ≤ 10 ^ (m + n + 1) := fun z h => by
    rw [Nat.pow_succ, Nat.mul_comm, show 10 = 8 + 2 from rfl, Nat.add_mul, Nat.two_mul]
    exact Nat.le_trans h (Nat.le_add_left _ _)
  have h2 := Nat.add_le_add (Nat.le_trans hl p1) (Nat.le_trans hr p2)
  unfold opVal
  split
  · exact hX _ (Nat.le_trans (Int.natAbs_add_le _ _) h2)
  · split
    · exact hX _ (Nat.le_trans (Int.natAbs_sub_le _ _) h2)
    · split
      · exact hX _ (Nat.le_trans p4 (Nat.le_add_left _ _))
      · rw [Int.natAbs_neg]
        exact hX _ (Nat.le_trans (Nat.le_trans hr p2) (Nat.le_add_left _ _))
theorem Blk.two {D : List (Int × Int)} {a m n l : Nat} {x y r : Trip} (hx : Blk D a m x) (hy : Blk D (a + m) n y) (hr : Blk D (a + m + n) l r) (x4 : x.1 = 4) (y4 : y.1 = 4) (r2 : r.1 ≤ 2) :
    Blk D a (m + n + l) (4, opVal r.1 x.2.1 y.2.1, r.2.2) := by
  have := hx.pos
  have := hy.pos
  have := hr.pos
  refine ⟨by omega, fun S => ?_, fun j h1 h2 => ?_, (by decide : (0 : Int) ≤ 4), (by decide : (4 : Int) ≤ 4), ?_, ?_⟩
  · rw [runS_add, runS_add, step_val hx x4]
    show ((runS D (a + m) n (x.2.1 :: S)).bind (runS D (a + (m + n)) l)) = _
    rw [step_val hy y4]
    show runS D (a + (m + n)) l _ = _
    rw [← Nat.add_assoc, hr.run, stepD_two hr.d0 r2]
    rfl
  · rcases Nat.lt_trichotomy j m with h | rfl | h
    · exact runS_cut (hx.mid j h1 h) (by omega)
    · rw [show j + n + l - j = n + l by omega, runS_add, step_val hy y4]
      show runS D (a + j + n) l [y.2.1] = _
      rw [hr.run]
      exact stepD_short r2 (by simp)
    · rcases Nat.lt_trichotomy j (m + n) with h' | rfl | h'
      · have := hy.mid (j - m) (by omega) (by omega)
        rw [show a + m + (j - m) = a + j by omega] at this
        exact runS_cut this (by omega)
      · rw [show m + n + l - (m + n) = l by omega, ← Nat.add_assoc, hr.run]
        exact stepD_short r2 (by simp)
      · have := hr.mid (j - (m + n)) (by omega) (by omega)
        rw [show a + m + n + (j - (m + n)) = a + j by omega] at this
        exact runS_cut this (by omega)
  · exact Nat.le_trans (opVal_bd hx.bd hy.bd) (Nat.pow_le_pow_right (by decide) (by omega))
  · rw [hr.place, ← Nat.add_assoc a (m + n) l, ← Nat.add_assoc a m n]
theorem Blk.one {D : List (Int × Int)} {a n l : Nat} {y r : Trip} (hy : Blk D a n y) (hr : Blk D (a + n) l r) (y4 : y.1 = 4) (r3 : r.1 = 3) :
    Blk D a (n + l) (4, -y.2.1, r.2.2) := by
  have := hy.pos
  have := hr.pos
  refine ⟨by omega, fun S => ?_, fun j h1 h2 => ?_, (by decide : (0 : Int) ≤ 4), (by decide : (4 : Int) ≤ 4), ?_, ?_⟩
  · rw [runS_add, step_val hy y4]
    show runS D (a + n) l _ = _
    rw [hr.run, r3]
    rfl
  · rcases Nat.lt_trichotomy j n with h | rfl | h
    · exact runS_cut (hy.mid j h1 h) (by omega)
    · rw [show j + l - j = l by omega, hr.run, r3]
      rfl
    · have := hr.mid (j - n) (Nat.sub_pos_of_lt h) (by omega)
      rw [show a + n + (j - n) = a + j by omega] at this
      exact runS_cut this (by omega)
  · show (-y.2.1).natAbs ≤ _
    rw [Int.natAbs_neg]
    exact Nat.le_trans hy.bd (Nat.pow_le_pow_right (by decide) (by omega))
  · rw [hr.place, ← Nat.add_assoc a n l]

inductive Tiled (D : List (Int × Int)) : Nat → List Trip → Nat → Prop
  | nil (a : Nat) : Tiled D a [] a
  | cons {a l : Nat} {r : Trip} {X : List Trip} {N : Nat} : Blk D a l r → Tiled D (a + l) X N → Tiled D a (r :: X) N
theorem Tiled.append {D : List (Int × Int)} {a M N : Nat} {X Y : List Trip} (h : Tiled D a X M) (k : Tiled D M Y N) : Tiled D a (X ++ Y) N := by
  induction h with
  | nil => exact k
  | cons b _ ih => exact .cons b (ih k)
theorem Tiled.split {D : List (Int × Int)} {Y : List Trip} : ∀ {X : List Trip} {a N : Nat}, Tiled D a (X ++ Y) N → ∃ M, Tiled D a X M ∧ Tiled D M Y N
  | [], a, _, h => ⟨a, .nil a, h⟩
  | _ :: X, a, N, h => by
    cases h with
    | cons b h =>
      obtain ⟨M, h1, h2⟩ := Tiled.split h
      exact ⟨M, .cons b h1, h2⟩
theorem Tiled.shift {D : List (Int × Int)} {a N : Nat} {X : List Trip} (h : Tiled D a X N) : Tiled D (a + 8) X (N + 8) := by
  induction h with
  | nil a => exact .nil _
  | @cons a l r X N b _ ih =>
    refine .cons b.shift ?_
    rw [show a + 8 + l = a + l + 8 by omega]
    exact ih
theorem Tiled.rot {D : List (Int × Int)} {a : Nat} {X Y : List Trip} (h : Tiled D a (X ++ Y) (a + 8)) : ∃ M, Tiled D a X M ∧ Tiled D M (Y ++ X) (M + 8) := by
  obtain ⟨M, h1, h2⟩ := h.split
  exact ⟨M, h1, h2.append h1.shift⟩
theorem Tiled.le {D : List (Int × Int)} {a N : Nat} {X : List Trip} (h : Tiled D a X N) : a + X.length ≤ N := by
  induction h with
  | nil => simp
  | cons b _ ih => have := b.pos; simp only [List.length_cons]; omega
def foldT : List Trip → List Int → Option (List Int)
  | [], S => some S
  | r :: X, S => (stepD r.1 r.2.1 S).bind (foldT X)
theorem Tiled.run {D : List (Int × Int)} {a N : Nat} {X : List Trip} (h : Tiled D a X N) : ∀ n, N = a + n → ∀ S, runS D a n S = foldT X S := by
  induction h with
  | nil a => intro n e S; obtain rfl : n = 0 := by omega
             rfl
  | @cons a l r X N b h ih =>
    intro n e S
    have := h.le
    obtain ⟨c, rfl⟩ := Nat.le.dest (show l ≤ n by omega)
    rw [runS_add, b.run]
    show _ = (stepD r.1 r.2.1 S).bind (foldT X)
    congr 1
    funext T
    exact ih c (by omega) T
theorem foldT_app (X Y : List Trip) (S : List Int) : foldT (X ++ Y) S = (foldT X S).bind (foldT Y) := by
  induction X generalizing S with
  | nil => rfl
  | cons r X ih =>
    show (stepD r.1 r.2.1 S).bind (foldT (X ++ Y)) = ((stepD r.1 r.2.1 S).bind (foldT X)).bind (foldT Y)
    rw [Option.bind_assoc]
    congr 1
    funext T
    exact ih T
theorem foldT_vals {X : List Trip} (h : ∀ r ∈ X, r.1 = 4) (S : List Int) : foldT X S = some ((X.map (·.2.1)).reverse ++ S) := by
  induction X generalizing S with
  | nil => rfl
  | cons r X ih =>
    show (stepD r.1 r.2.1 S).bind (foldT X) = _
    rw [h r (.head _), stepD_four]
    show foldT X (r.2.1 :: S) = _
    rw [ih fun x hx => h x (.tail _ hx)]
    simp
/-- where a place of the ring lies: at a block's beginning, or within one -/
theorem Tiled.find {D : List (Int × Int)} {a N : Nat} {X : List Trip} (h : Tiled D a X N) : ∀ t, a ≤ t → t < N → ∃ (Y : List Trip) (r : Trip) (Z : List Trip) (b l : Nat), X = Y ++ r :: Z ∧ Tiled D a Y b ∧ Blk D b l r ∧ Tiled D (b + l) Z N ∧ b ≤ t ∧ t < b + l := by
  induction h with
  | nil a => intro t h1 h2; omega
  | @cons a l r X N b h ih =>
    intro t h1 h2
    rcases Nat.lt_or_ge t (a + l) with h3 | h3
    · exact ⟨[], r, X, a, l, rfl, .nil a, b, h, h1, h3⟩
    · obtain ⟨Y, r', Z, b', l', rfl, hY, hb, hZ, h4, h5⟩ := ih t h3 h2
      exact ⟨r :: Y, r', Z, b', l', rfl, .cons b hY, hb, hZ, h4, h5⟩
theorem Tiled.last {D : List (Int × Int)} {a N : Nat} {X : List Trip} {r : Trip} (h : Tiled D a (X ++ [r]) N) : r.2.2 = (((N + 7) % 8 : Nat) : Int) := by
  obtain ⟨M, _, h2⟩ := h.split
  cases h2 with
  | cons b h => cases h with | nil => exact b.place

def lin (R : List Trip) (k : Nat) : List Trip := R.drop (k + 1) ++ R.take (k + 1)
/-- the turn that begins right behind the thing at k -/
def turnOf (R : List Trip) (k : Nat) : Nat := (((at' R k).2.2 + 1).fmod 8).toNat
structure RingInv (D : List (Int × Int)) (R : List Trip) : Prop where
  til : ∃ a, Tiled D a R (a + 8)
  nd : (R.map (·.2.2)).Nodup
theorem ring0_inv {D : List (Int × Int)} (hD : DeedsOk D) : RingInv D (ring0 D) := by
  have b : ∀ i, i < 8 → Blk D i 1 ((D.getD i (4, 0)).1, (D.getD i (4, 0)).2, (i : Int)) := fun i hi => by
    refine ⟨by decide, fun S => ?_, fun j h1 h2 => by omega, (hD i).1, (hD i).2.1, (hD i).2.2, ?_⟩
    · show stepD (dAt D i).1 (dAt D i).2 S = _
      unfold dAt
      rw [Nat.mod_eq_of_lt hi]
    · show (i : Int) = _
      congr 1
      omega
  refine ⟨⟨0, .cons (b 0 (by decide)) (.cons (b 1 (by decide)) (.cons (b 2 (by decide)) (.cons (b 3 (by decide)) (.cons (b 4 (by decide)) (.cons (b 5 (by decide)) (.cons (b 6 (by decide)) (.cons (b 7 (by decide)) (.nil _))))))))⟩, ?_⟩
  have e : (ring0 D).map (·.2.2) = (List.range 8).map fun (i : Nat) => (i : Int) := by
    unfold ring0
    rw [List.map_map]
    rfl
  rw [e]
  decide
theorem split_at {R : List Trip} {k : Nat} (h : k < R.length) : R = R.take k ++ at' R k :: R.drop (k + 1) := by
  have : at' R k = R[k] := by unfold at'; rw [List.getD_eq_getElem?_getD, List.getElem?_eq_getElem h]; rfl
  rw [this, List.getElem_cons_drop, List.take_append_drop]
/-- the things ahead of the one at k, round the ring -/
theorem ahead_get {R : List Trip} {k i : Nat} (hk : k < R.length) (hi : i + 2 ≤ R.length) : (R.drop (k + 1) ++ R.take k)[R.length - 2 - i]? = some (hand R k i) := by
  unfold hand at' handIx
  have hd : (R.drop (k + 1)).length = R.length - (k + 1) := List.length_drop
  by_cases h : i + 1 ≤ k
  · rw [if_pos h, List.getElem?_append_right (by omega), hd, show R.length - 2 - i - (R.length - (k + 1)) = k - 1 - i by omega, List.getElem?_take, if_pos (by omega), List.getD_eq_getElem?_getD, List.getElem?_eq_getElem (by omega)]
    rfl
  · rw [if_neg h, List.getElem?_append_left (by omega), List.getElem?_drop, show k + 1 + (R.length - 2 - i) = R.length + k - 1 - i by omega, List.getD_eq_getElem?_getD, List.getElem?_eq_getElem (by omega)]
    rfl
theorem ahead_one {R : List Trip} {k : Nat} (hk : k < R.length) (h2 : 2 ≤ R.length) : ∃ Z, R.drop (k + 1) ++ R.take k = Z ++ [hand R k 0] := by
  have hl : (R.drop (k + 1) ++ R.take k).length = R.length - 1 := by rw [List.length_append, List.length_drop, List.length_take]; omega
  refine ⟨(R.drop (k + 1) ++ R.take k).take (R.length - 2), ?_⟩
  have := ahead_get (i := 0) hk (by omega)
  conv => lhs; rw [← List.take_append_drop (R.length - 2) (R.drop (k + 1) ++ R.take k)]
  congr 1
  rw [Nat.sub_zero, List.getElem?_eq_getElem (by omega)] at this
  rw [List.drop_eq_getElem_cons (by omega), Option.some.inj this, List.drop_of_length_le (by omega)]
theorem ahead_two {R : List Trip} {k : Nat} (hk : k < R.length) (h3 : 3 ≤ R.length) : ∃ Z, R.drop (k + 1) ++ R.take k = Z ++ [hand R k 1, hand R k 0] := by
  have hl : (R.drop (k + 1) ++ R.take k).length = R.length - 1 := by rw [List.length_append, List.length_drop, List.length_take]; omega
  refine ⟨(R.drop (k + 1) ++ R.take k).take (R.length - 3), ?_⟩
  have h0 := ahead_get (i := 0) hk (by omega)
  have h1 := ahead_get (i := 1) hk (by omega)
  conv => lhs; rw [← List.take_append_drop (R.length - 3) (R.drop (k + 1) ++ R.take k)]
  congr 1
  rw [show R.length - 2 - 1 = R.length - 3 by omega, List.getElem?_eq_getElem (by omega)] at h1
  rw [show R.length - 2 - 0 = R.length - 3 + 1 by omega, List.getElem?_eq_getElem (by omega)] at h0
  rw [List.drop_eq_getElem_cons (by omega), Option.some.inj h1]
  rw [List.drop_eq_getElem_cons (by omega), Option.some.inj h0, List.drop_of_length_le (by omega)]
theorem RingInv.made {D : List (Int × Int)} {R : List Trip} {k : Nat} (h : RingInv D R) (hk : k < R.length) {Z H : List Trip} {v : Int} (p : Trip → Bool)
    (e : R.drop (k + 1) ++ R.take k = Z ++ H) (hp : ∀ t, p t = true ↔ t ∉ H)  (made : ∀ a N, Tiled D a (H ++ [at' R k]) N → Tiled D a [(4, v, (at' R k).2.2)] N) :
    RingInv D ((R.take k ++ (4, v, (at' R k).2.2) :: R.drop (k + 1)).filter p) := by
  obtain ⟨a, hT⟩ := h.til
  have eR := split_at hk
  have hT' : Tiled D a ((R.take k ++ [at' R k]) ++ R.drop (k + 1)) (a + 8) := by
    rw [List.append_assoc]
    show Tiled D a (R.take k ++ at' R k :: R.drop (k + 1)) (a + 8)
    exact eR ▸ hT
  obtain ⟨M, _, h1⟩ := hT'.rot
  rw [← List.append_assoc, e, List.append_assoc] at h1
  obtain ⟨M', h2, h3⟩ := h1.split
  have h4 := h2.append (made _ _ h3)
  -- the places differ
  have hnd : ((Z ++ H ++ [at' R k]).map (·.2.2)).Nodup := by
    rw [← e, List.append_assoc]
    have hp : (R.drop (k + 1) ++ (R.take k ++ [at' R k])).Perm R := by
      refine List.perm_append_comm.trans ?_
      rw [List.append_assoc]
      show (R.take k ++ at' R k :: R.drop (k + 1)).Perm R
      exact eR ▸ .refl _
    exact ((hp.map _).nodup_iff).mpr h.nd
  rw [List.map_append, List.map_append] at hnd
  have hnd1 := List.nodup_append.mp hnd
  have hZH := List.nodup_append.mp hnd1.1
  have fZ : Z.filter p = Z := List.filter_eq_self.mpr fun t ht => (hp t).mpr fun hh => hZH.2.2 _ (List.mem_map_of_mem ht) _ (List.mem_map_of_mem hh) rfl
  have fH : H.filter p = [] := List.filter_eq_nil_iff.mpr fun t ht hh => (hp t).mp hh ht
  have fM : p (4, v, (at' R k).2.2) = true := (hp _).mpr fun hh => hnd1.2.2 _ (List.mem_append_right _ (List.mem_map_of_mem (f := fun r : Trip => r.2.2) hh)) (at' R k).2.2 (by simp) rfl
  have fe : (R.drop (k + 1)).filter p ++ (R.take k).filter p = Z := by rw [← List.filter_append, e, List.filter_append, fZ, fH, List.append_nil]
  rw [← fe, List.append_assoc] at h4
  obtain ⟨M2, _, h5⟩ := h4.rot
  constructor
  · refine ⟨M2, ?_⟩
    rw [List.filter_append, List.filter_cons_of_pos fM]
    rw [List.append_assoc] at h5
    exact h5
  · have hs : ((R.take k ++ (4, v, (at' R k).2.2) :: R.drop (k + 1)).filter p).map (·.2.2) |>.Sublist (R.map (·.2.2)) := by
      have : R.map (·.2.2) = (R.take k ++ (4, v, (at' R k).2.2) :: R.drop (k + 1)).map (·.2.2) := by
        conv => lhs; rw [eR]
        simp
      rw [this]
      exact List.Sublist.map _ List.filter_sublist
    exact h.nd.sublist hs

theorem Tiled.one_of {D : List (Int × Int)} {a N l : Nat} {r : Trip} (h : Blk D a l r) (e : N = a + l) : Tiled D a [r] N := by
  subst e
  exact .cons h (.nil _)
theorem RingInv.shr {D : List (Int × Int)} {R R' : List Trip} (h : RingInv D R) (s : Shr R R') : RingInv D R' := by
  rcases s with ⟨rfl, _⟩ | ⟨k, hk, hf, rfl⟩
  · exact h
  · unfold after
    rcases hf with ⟨d3, h2, y4⟩ | ⟨d2, h3, y4, x4⟩
    · rw [if_pos d3]
      obtain ⟨Z, e⟩ := ahead_one hk h2
      refine h.made hk _ e (fun t => by simp) fun a N hT => ?_
      cases hT with
      | cons by_ hT =>
        cases hT with
        | cons br hT =>
          cases hT
          exact .one_of (by_.one br y4 d3) (by omega)
    · rw [if_neg (by omega)]
      obtain ⟨Z, e⟩ := ahead_two hk h3
      refine h.made hk _ e (fun t => by simp [or_comm]) fun a N hT => ?_
      cases hT with
      | cons bx hT =>
        cases hT with
        | cons by_ hT =>
          cases hT with
          | cons br hT =>
            cases hT
            exact .one_of (bx.two by_ br x4 y4 d2) (by omega)
theorem RingInv.shrN {D : List (Int × Int)} {n : Nat} {R S : List Trip} (h : RingInv D R) (s : ShrN n R S) : RingInv D S := by
  induction s with
  | zero => exact h
  | succ _ s ih => exact (ih h).shr s
theorem Tiled.mem {D : List (Int × Int)} {a N : Nat} {X : List Trip} (h : Tiled D a X N) : ∀ r ∈ X, ∃ b l, Blk D b l r ∧ b + l ≤ N ∧ a ≤ b := by
  induction h with
  | nil => intro r hr; cases hr
  | cons b h ih =>
    intro r hr
    have := h.le
    rcases List.mem_cons.mp hr with rfl | hr
    · exact ⟨_, _, b, by omega, Nat.le_refl _⟩
    · obtain ⟨b', l', h1, h2, h3⟩ := ih r hr
      exact ⟨b', l', h1, h2, by omega⟩
theorem RingInv.len {D : List (Int × Int)} {R : List Trip} (h : RingInv D R) : R.length ≤ 8 := by
  obtain ⟨a, hT⟩ := h.til
  have := hT.le
  omega
theorem at_mem {R : List Trip} {k : Nat} (h : k < R.length) : at' R k ∈ R := by
  have : at' R k = R[k] := by unfold at'; rw [List.getD_eq_getElem?_getD, List.getElem?_eq_getElem h]; rfl
  rw [this]
  exact List.getElem_mem h
theorem RingInv.ok {D : List (Int × Int)} {R : List Trip} (h : RingInv D R) : RingOk R := by
  intro k
  rcases Nat.lt_or_ge k R.length with hk | hk
  · obtain ⟨a, hT⟩ := h.til
    obtain ⟨b, l, hb, h1, h2⟩ := hT.mem _ (at_mem hk)
    exact ⟨hb.d0, hb.d4, Nat.le_trans hb.bd (Nat.pow_le_pow_right (by decide) (by omega))⟩
  · have : at' R k = (4, 0, 0) := by unfold at'; rw [List.getD_eq_getElem?_getD, List.getElem?_eq_none hk]; rfl
    rw [this]
    exact ⟨by decide, by decide, by decide⟩
theorem RingInv.turn {D : List (Int × Int)} {R : List Trip} (h : RingInv D R) {k : Nat} (hk : k < R.length) : ∃ M, Tiled D M (lin R k) (M + 8) ∧ turnOf R k = M % 8 := by
  obtain ⟨a, hT⟩ := h.til
  rw [← List.take_append_drop (k + 1) R] at hT
  obtain ⟨M, h0, h1⟩ := hT.rot
  refine ⟨M, h1, ?_⟩
  have e : R.take (k + 1) = R.take k ++ [at' R k] := by
    have : at' R k = R[k] := by unfold at'; rw [List.getD_eq_getElem?_getD, List.getElem?_eq_getElem hk]; rfl
    rw [this, List.take_add_one, List.getElem?_eq_getElem hk]
    rfl
  rw [e] at h0
  have := h0.last
  unfold turnOf
  rw [this, Int.fmod_eq_emod_of_nonneg _ (by decide)]
  omega
theorem place_lt {D : List (Int × Int)} {R : List Trip} (h : RingInv D R) {k : Nat} (hk : k < R.length) : ∃ n : Nat, n < 8 ∧ (at' R k).2.2 = (n : Int) := by
  obtain ⟨a, hT⟩ := h.til
  obtain ⟨b, l, hb, _, _⟩ := hT.mem _ (at_mem hk)
  exact ⟨_, Nat.mod_lt _ (by decide), hb.place⟩
theorem RingInv.inj {D : List (Int × Int)} {R : List Trip} (h : RingInv D R) (j k : Nat) (hj : j < R.length) (hk : k < R.length) (e : turnOf R j = turnOf R k) : j = k := by
  obtain ⟨x, hx, ex⟩ := place_lt h hj
  obtain ⟨y, hy, ey⟩ := place_lt h hk
  unfold turnOf at e
  rw [ex, ey, Int.fmod_eq_emod_of_nonneg _ (by decide), Int.fmod_eq_emod_of_nonneg _ (by decide)] at e
  have exy : x = y := by omega
  have nd := h.nd
  rw [List.nodup_iff_pairwise_ne, List.pairwise_iff_getElem] at nd
  have gj : (R.map (·.2.2))[j]'(by simpa using hj) = (x : Int) := by
    rw [List.getElem_map, ← ex]; unfold at'; rw [List.getD_eq_getElem?_getD, List.getElem?_eq_getElem hj]; rfl
  have gk : (R.map (·.2.2))[k]'(by simpa using hk) = (y : Int) := by
    rw [List.getElem_map, ← ey]; unfold at'; rw [List.getD_eq_getElem?_getD, List.getElem?_eq_getElem hk]; rfl
  rcases Nat.lt_trichotomy j k with h1 | h1 | h1
  · exact absurd (by rw [gj, gk, exy]) (nd j k (by simpa using hj) (by simpa using hk) h1)
  · exact h1
  · exact absurd (by rw [gj, gk, exy]) (nd k j (by simpa using hk) (by simpa using hj) h1)
/-- each turn begins right behind a thing of the ring, or gives up -/
theorem RingInv.some_turn {D : List (Int × Int)} {R : List Trip} (h : RingInv D R) {t : Nat} (ht : t < 8) : (∃ k, k < R.length ∧ turnOf R k = t) ∨ runN D t 8 = none := by
  obtain ⟨a, hT⟩ := h.til
  obtain ⟨u, h1, h2, hu⟩ : ∃ u, a ≤ u ∧ u < a + 8 ∧ u % 8 = t := ⟨a + (t + 8 - a % 8) % 8, by omega, by omega, by omega⟩
  obtain ⟨Y, r, Z, b, l, eR, hY, hb, hZ, h3, h4⟩ := hT.find u h1 h2
  rcases Nat.lt_or_ge b u with h5 | h5
  · right
    have := hb.mid (u - b) (by omega) (by omega)
    rw [show b + (u - b) = u by omega] at this
    rw [runN_eq, ← hu, runS_mod]
    have := hY.le
    have := hZ.le
    exact runS_cut ‹_› (by omega)
  · left
    obtain rfl : b = u := by omega
    rcases List.eq_nil_or_concat Y with rfl | ⟨Y', y, rfl⟩
    · -- the ring's own beginning
      cases hY
      refine ⟨R.length - 1, ?_, ?_⟩
      · rw [eR]; simp
      · have hl : 0 < R.length := by rw [eR]; simp
        have e : R = R.take (R.length - 1) ++ [at' R (R.length - 1)] := by
          have h0 := split_at (R := R) (k := R.length - 1) (by omega)
          rw [List.drop_of_length_le (by omega)] at h0
          exact h0
        have hT2 := hT
        rw [e] at hT2
        have := hT2.last
        unfold turnOf
        rw [this, Int.fmod_eq_emod_of_nonneg _ (by decide)]
        omega
    · rw [List.concat_eq_append] at eR hY
      have := hY.last
      refine ⟨Y'.length, by rw [eR]; simp, ?_⟩
      have e : at' R Y'.length = y := by
        unfold at'
        rw [eR, List.getD_eq_getElem?_getD, List.append_assoc, List.getElem?_append_right (Nat.le_refl _)]
        simp
      unfold turnOf
      rw [e, this, Int.fmod_eq_emod_of_nonneg _ (by decide)]
      omega
/-- no deed of the ring finds its values -/
def Stuck (R : List Trip) : Prop := ∀ k, k < R.length → ¬ fires R k
theorem after_len {R : List Trip} {k : Nat} (hk : k < R.length) (hf : fires R k) : (after R k).length + 1 ≤ R.length := by
  have h2 : 2 ≤ R.length := by rcases hf with h | h <;> omega
  have hm : ∀ v : Trip, hand R k 0 ∈ R.take k ++ v :: R.drop (k + 1) := fun v => by
    obtain ⟨Z, e⟩ := ahead_one hk h2
    have : hand R k 0 ∈ R.drop (k + 1) ++ R.take k := by rw [e]; simp
    rcases List.mem_append.mp this with h | h
    · exact List.mem_append_right _ (.tail _ h)
    · exact List.mem_append_left _ h
  have hl : ∀ v : Trip, (R.take k ++ v :: R.drop (k + 1)).length = R.length := fun v => by
    rw [List.length_append, List.length_cons, List.length_take, List.length_drop]
    omega
  unfold after
  split
  · rw [← hl (4, -(hand R k 0).2.1, (at' R k).2.2)]
    exact List.length_filter_lt_length_iff_exists.mpr ⟨_, hm _, by simp⟩
  · rw [← hl (4, opVal (at' R k).1 (hand R k 1).2.1 (hand R k 0).2.1, (at' R k).2.2)]
    exact List.length_filter_lt_length_iff_exists.mpr ⟨_, hm _, by simp⟩
theorem shrN_stuck {n : Nat} {R S : List Trip} (h : ShrN n R S) : Stuck S ∨ S.length + n ≤ R.length := by
  induction h with
  | zero => exact .inr (by omega)
  | succ _ s ih =>
    rcases s with ⟨rfl, hs⟩ | ⟨k, hk, hf, rfl⟩
    · exact .inl hs
    · rcases ih with h1 | h1
      · exact absurd hf (h1 k hk)
      · right
        have := after_len hk hf
        omega
theorem lin_get {R : List Trip} {k j : Nat} (hk : k < R.length) (hj : j < R.length) : (lin R k)[j]? = some (at' R (if k + 1 + j < R.length then k + 1 + j else k + 1 + j - R.length)) := by
  unfold lin at'
  have hd : (R.drop (k + 1)).length = R.length - (k + 1) := List.length_drop
  by_cases h : k + 1 + j < R.length
  · rw [if_pos h, List.getElem?_append_left (by omega), List.getElem?_drop, List.getD_eq_getElem?_getD, List.getElem?_eq_getElem h]
    rfl
  · rw [if_neg h, List.getElem?_append_right (by omega), hd, List.getElem?_take, if_pos (by omega), show j - (R.length - (k + 1)) = k + 1 + j - R.length by omega, List.getD_eq_getElem?_getD, List.getElem?_eq_getElem (by omega)]
    rfl
theorem lin_ix {n k i d : Nat} (hj : i + 1 + d < n) : (if k + 1 + d < n then k + 1 + d else k + 1 + d - n) = handIx n (if k + 1 + (i + 1 + d) < n then k + 1 + (i + 1 + d) else k + 1 + (i + 1 + d) - n) i := by
  unfold handIx
  have e1 : k + 1 + (i + 1 + d) = k + 1 + d + (i + 1) := by rw [Nat.add_comm (i + 1) d, ← Nat.add_assoc]
  rw [e1]
  by_cases h : k + 1 + d + (i + 1) < n
  · rw [if_pos h, if_pos (Nat.lt_of_le_of_lt (Nat.le_add_right _ _) h), if_pos (Nat.le_add_left _ _), Nat.sub_sub, Nat.add_comm 1 i, Nat.add_sub_cancel]
  · rw [if_neg h]
    by_cases h2 : k + 1 + d < n
    · rw [if_pos h2, if_neg (by clear e1; omega)]
      clear e1
      omega
    · rw [if_neg h2, if_pos (by clear e1; omega)]
      clear e1
      omega
theorem lin_hand {R : List Trip} {k j i : Nat} (hk : k < R.length) (hj : j < R.length) (hi : i < j) : (lin R k)[j - 1 - i]? = some (hand R (if k + 1 + j < R.length then k + 1 + j else k + 1 + j - R.length) i) := by
  obtain ⟨d, rfl⟩ := Nat.le.dest hi
  have e : i + 1 + d - 1 - i = d := by rw [Nat.sub_sub, Nat.add_comm 1 i, Nat.add_sub_cancel_left]
  rw [e, lin_get hk (Nat.lt_of_le_of_lt (Nat.le_add_left _ _) hj)]
  unfold hand
  congr 2
  exact lin_ix hj
theorem first_deed : ∀ {X : List Trip}, ¬ (∀ r ∈ X, r.1 = 4) → ∃ P r Q, X = P ++ r :: Q ∧ (∀ x ∈ P, x.1 = 4) ∧ r.1 ≠ 4
  | [], h => absurd (fun r hr => nomatch hr) h
  | x :: X, h => by
    by_cases e : x.1 = 4
    · have : ¬ (∀ r ∈ X, r.1 = 4) := fun hx => h fun r hr => by
        rcases List.mem_cons.mp hr with rfl | hr
        · exact e
        · exact hx r hr
      obtain ⟨P, r, Q, rfl, h1, h2⟩ := first_deed this
      refine ⟨x :: P, r, Q, rfl, fun y hy => ?_, h2⟩
      rcases List.mem_cons.mp hy with rfl | hy
      · exact e
      · exact h1 y hy
    · exact ⟨[], x, X, rfl, ⟨(fun y hy => nomatch hy), e⟩⟩
theorem lin_len {R : List Trip} {k : Nat} (hk : k < R.length) : (lin R k).length = R.length := by
  unfold lin
  rw [List.length_append, List.length_drop, List.length_take]
  omega
theorem lin_mem {R : List Trip} {k : Nat} {r : Trip} : r ∈ lin R k ↔ r ∈ R := by
  unfold lin
  conv => rhs; rw [← List.take_append_drop (k + 1) R]
  rw [List.mem_append, List.mem_append, or_comm]
theorem stuck_none {D : List (Int × Int)} {R : List Trip} (h : RingInv D R) (hs : Stuck R) (h4 : ¬ (∀ r ∈ R, r.1 = 4)) {k : Nat} (hk : k < R.length) : foldT (lin R k) [] = none := by
  obtain ⟨P, r, Q, e, hP, hr⟩ := first_deed (X := lin R k) fun hx => h4 fun r hr => hx r (lin_mem.mpr hr)
  have hl := lin_len hk
  rw [e, List.length_append, List.length_cons] at hl
  have hj : P.length < R.length := by omega
  have gr := lin_get hk hj
  have er : (lin R k)[P.length]? = some r := by rw [e, List.getElem?_append_right (Nat.le_refl _)]; simp
  rw [er] at gr
  have gr := Option.some.inj gr
  have hq : ∀ i, i < P.length → (hand R (if k + 1 + P.length < R.length then k + 1 + P.length else k + 1 + P.length - R.length) i).1 = 4 := fun i hi => by
    have := lin_hand hk hj hi
    rw [e, List.getElem?_append_left (by omega)] at this
    exact hP _ (List.mem_of_getElem? this)
  have hix : (if k + 1 + P.length < R.length then k + 1 + P.length else k + 1 + P.length - R.length) < R.length := by split <;> omega
  generalize (if k + 1 + P.length < R.length then k + 1 + P.length else k + 1 + P.length - R.length) = z at *
  have hz := hs z hix
  have hok := h.ok z
  rw [e, foldT_app, foldT_vals hP]
  show (stepD r.1 r.2.1 _).bind _ = none
  have : stepD r.1 r.2.1 ((P.map (·.2.1)).reverse ++ []) = none := by
    rw [← gr] at hok
    rcases Int.lt_or_le r.1 3 with h3 | h3
    · refine stepD_short (by omega) ?_
      rw [List.append_nil, List.length_reverse, List.length_map]
      rcases Nat.lt_or_ge 1 P.length with h5 | h5
      · exact absurd (.inr ⟨by rw [← gr]; omega, by omega, hq 0 (by omega), hq 1 h5⟩) hz
      · exact h5
    · have e3 : r.1 = 3 := by omega
      rcases Nat.eq_zero_or_pos P.length with h5 | h5
      · rw [List.length_eq_zero_iff.mp h5, e3]
        rfl
      · exact absurd (.inl ⟨by rw [← gr]; exact e3, by omega, hq 0 h5⟩) hz
  rw [this]
  rfl
theorem ring_ok {D : List (Int × Int)} (hD : DeedsOk D) {n : Nat} {R : List Trip} (h : ShrN n (ring0 D) R) : RingOk R ∧ R.length ≤ 8 ∧ ∀ j k, j < R.length → k < R.length → turnOf R j = turnOf R k → j = k :=
  have i := (ring0_inv hD).shrN h
  ⟨i.ok, i.len, i.inj⟩
/-- what the ring alone tells of the eight turns -/
theorem ring_tells {D : List (Int × Int)} (hD : DeedsOk D) {R : List Trip} (h : ShrN 7 (ring0 D) R) :
    ((∀ r ∈ R, r.1 = 4) → ∀ t, t < 8 → (∀ k, k < R.length → turnOf R k = t → runN D t 8 = some ((lin R k).map (·.2.1)).reverse) ∧ ((∀ k, k < R.length → turnOf R k ≠ t) → runN D t 8 = none)) ∧
    (¬ (∀ r ∈ R, r.1 = 4) → ∀ t, t < 8 → runN D t 8 = none) := by
  have i := (ring0_inv hD).shrN h
  have run : ∀ k, k < R.length → runN D (turnOf R k) 8 = foldT (lin R k) [] := fun k hk => by
    obtain ⟨M, hM, e⟩ := i.turn hk
    rw [e, runN_eq, runS_mod]
    exact hM.run 8 rfl []
  refine ⟨fun h4 t ht => ⟨fun k hk e => ?_, fun hn => ?_⟩, fun h4 t ht => ?_⟩
  · rw [← e, run k hk, foldT_vals fun r hr => h4 r (lin_mem.mp hr), List.append_nil]
  · rcases i.some_turn ht with ⟨k, hk, e⟩ | e
    · exact absurd e (hn k hk)
    · exact e
  · have hs : Stuck R := by
      rcases shrN_stuck h with hs | hs
      · exact hs
      · rw [ring0_len] at hs
        exact fun k _ => fires_len (by omega)
    rcases i.some_turn ht with ⟨k, hk, e⟩ | e
    · rw [← e, run k hk]
      exact stuck_none i hs h4 hk
    · exact e
end Mine
end
section
open PySem PySem.W PyProof.Rows PySem.Builtin PySem.Builtin.Str
namespace Mine
def dueText (R : List Trip) (k : Nat) : Str := textOf ((lin R k).map (·.2.1)).reverse
def dots (l : List Trip) : List Str := l.map fun r => Str.ofString "." ++ Str.ofString (toString r.2.1)
theorem rend_snoc (a : List Int) (v : Int) : rend (a ++ [v]) = 67 :: 46 :: digs v ++ (rend a).tail := by
  induction a with
  | nil => simp [rend]
  | cons x r ih =>
    show rend (r ++ [v]) ++ 46 :: digs x = _
    rw [ih]
    have : rend r ≠ [] := by cases r <;> simp [rend]
    show _ = 67 :: 46 :: digs v ++ (rend r ++ 46 :: digs x).tail
    rw [List.tail_append_of_ne_nil this]
    simp
theorem join_codes (ys : List Str) : (Txt.join (Str.ofString "") ys).cps.toList = ys.flatMap fun y => y.cps.toList := by
  show (glued (Str.ofString "") ys).cps.toList = _
  rw [StrLaws.glued_eq_join]
  have e0 : (Str.ofString "").cps.toList = [] := by decide +kernel
  induction ys with
  | nil => exact e0
  | cons y r ih =>
    cases r with
    | nil => simp [Str.join]
    | cons z r =>
      show (y ++ Str.ofString "" ++ Str.join (Str.ofString "") (z :: r)).cps.toList = _
      rw [Str.cps_append, Str.cps_append, Array.toList_append, Array.toList_append, e0, ih]
      simp
theorem dots_codes (l : List Trip) : (dots l).flatMap (fun y => y.cps.toList) = (rend (l.map (·.2.1)).reverse).tail := by
  have h : (Str.ofString ".").cps.toList = [46] := by decide +kernel
  induction l with
  | nil => rfl
  | cons r l ih =>
    show (Str.ofString "." ++ Str.ofString (toString r.2.1)).cps.toList ++ (dots l).flatMap (fun y => y.cps.toList) = _
    rw [ih, List.map_cons, List.reverse_cons, rend_snoc, Str.cps_append, Array.toList_append, h]
    rfl
theorem due_text (l : List Trip) : Str.ofString "C" ++ Txt.join (Str.ofString "") (dots l) = textOf (l.map (·.2.1)).reverse := by
  refine Str.ext' (Array.ext' ?_)
  have h : (Str.ofString "C").cps.toList = [67] := by decide +kernel
  rw [Str.cps_append, Array.toList_append, h, join_codes, dots_codes]
  show _ = rend (l.map (·.2.1)).reverse
  generalize (l.map (·.2.1)).reverse = S
  induction S with
  | nil => rfl
  | cons v S ih =>
    show [67] ++ (rend S ++ 46 :: digs v).tail = rend S ++ 46 :: digs v
    rw [List.tail_append_of_ne_nil (by cases S <;> simp [rend]), ← List.append_assoc, ih]
theorem dots_len {l : List Trip} (h : ∀ r ∈ l, r.2.1.natAbs ≤ 10 ^ 60) (hl : l.length ≤ 8) : ((dots l).map (·.length)).sum + (dots l).length * (Str.ofString "").length ≤ 16777216 ∧ (Txt.join (Str.ofString "") (dots l)).length < 2 ^ 20 := by
  have e0 : (Str.ofString "").length = 0 := by decide +kernel
  have e1 : (Str.ofString ".").length = 1 := by decide +kernel
  have hs : ((dots l).map (·.length)).sum ≤ l.length * 64 := by
    clear hl
    induction l with
    | nil => simp [dots]
    | cons r l ih =>
      have h1 := ih fun x hx => h x (.tail _ hx)
      have h2 : (digs r.2.1).length ≤ 62 := digs_len (n := 61) (by decide) (Nat.lt_of_le_of_lt (h r (.head _)) (Nat.pow_lt_pow_right (by decide) (by decide)))
      have h3 : (Str.ofString (toString r.2.1)).length = (digs r.2.1).length := by simp [Str.length, digs]
      have h4 : (Str.ofString "." ++ Str.ofString (toString r.2.1)).length = (Str.ofString ".").length + (Str.ofString (toString r.2.1)).length := Str.length_append ..
      show (Str.ofString "." ++ Str.ofString (toString r.2.1)).length + ((dots l).map (·.length)).sum ≤ _
      simp only [List.length_cons]
      omega
  have hj : (Txt.join (Str.ofString "") (dots l)).length = ((dots l).map (·.length)).sum := by
    have := congrArg List.length (join_codes (dots l))
    rw [List.length_flatMap] at this
    have h5 : (Txt.join (Str.ofString "") (dots l)).length = (Txt.join (Str.ofString "") (dots l)).cps.toList.length := by simp [Str.length]
    rw [h5, this]
    congr 1
  rw [e0, hj]
  omega
def DuesAt (R : List Trip) (i : Nat) (dv : List Value) : Prop := dv.length = 8 ∧ ∀ t, t < 8 → (∀ k, k < i → turnOf R k = t → ∃ tok, dv[t]? = some (.str (dueText R k) tok)) ∧ ((∀ k, k < i → turnOf R k ≠ t) → dv[t]? = some .none)
theorem DuesAt.zero (R : List Trip) : DuesAt R 0 (List.replicate 8 Value.none) :=
  ⟨rfl, fun t ht => ⟨fun k hk => absurd hk (Nat.not_lt_zero _), fun _ => by rw [List.getElem?_replicate]; simp [ht]⟩⟩
theorem turnOf_lt (R : List Trip) (k : Nat) : turnOf R k < 8 := by
  unfold turnOf
  have := Int.fmod_lt_of_pos ((at' R k).2.2 + 1) (show (0 : Int) < 8 by decide)
  have := Int.fmod_nonneg_of_pos ((at' R k).2.2 + 1) (show (0 : Int) < 8 by decide)
  omega
theorem DuesAt.succ {R : List Trip} {i : Nat} {dv : List Value} {tok : Tok} (h : DuesAt R i dv) (hi : i < R.length) (inj : ∀ j k, j < R.length → k < R.length → turnOf R j = turnOf R k → j = k) : DuesAt R (i + 1) (dv.set (turnOf R i) (.str (dueText R i) tok)) := by
  refine ⟨by rw [List.length_set]; exact h.1, fun t ht => ?_⟩
  have hl := h.1
  rw [List.getElem?_set]
  refine ⟨fun k hk e => ?_, fun hn => ?_⟩
  · by_cases e2 : k = i
    · subst e2
      rw [if_pos e, if_pos (by omega)]
      exact ⟨tok, rfl⟩
    · rw [if_neg (fun e3 => e2 (inj k i (by omega) hi (by rw [e, e3])))]
      exact (h.2 t ht).1 k (by omega) e
  · rw [if_neg (hn i (by omega))]
    exact (h.2 t ht).2 fun k hk => hn k (by omega)
/-- a due is what the turn gives back -/
def DueAt (v : Value) (o : Option (List Int)) : Prop := match o with | some S => ∃ t', v = .str (textOf S) t' | none => v = .none
end Mine
namespace Mine
theorem strs_snoc {vs : List Value} {ys : List Str} {y : Str} {t : Tok} (h : StrsAre vs ys) : StrsAre (vs ++ [.str y t]) (ys ++ [y]) := by
  induction h with
  | nil => exact .cons y t .nil
  | cons z u _ ih => exact .cons z u ih
theorem lin_trips {led : List (Addr × Obj)} {vs : List Value} {R : List Trip} (h : TripsAt led vs R) (i : Nat) : TripsAt led (vs.drop (i + 1) ++ vs.take (i + 1)) (lin R i) := (h.drop (i + 1)).append (h.take (i + 1))
theorem dots_take (l : List Trip) {j : Nat} {r : Trip} (h : l[j]? = some r) : (dots l).take (j + 1) = (dots l).take j ++ [Str.ofString "." ++ Str.ofString (toString r.2.1)] := by
  have : (dots l)[j]? = some (Str.ofString "." ++ Str.ofString (toString r.2.1)) := by unfold dots; rw [List.getElem?_map, h]; rfl
  rw [List.take_add_one, this]; rfl
end Mine
namespace Mine
section
variable {prog : Program} {w : World} {A : Around} {E : Value → Shared → Prop} {s : Shared}
theorem item_trip {h₀ : Heap} {L : Addr} {news : List (Addr × Obj)} {value slice : PySem.Expr} {l : Addr} {vs : List Value} {R : List Trip} {n k : Nat} {z : Int} {u : Tok} {Q : Value → Shared → Prop}
    (N : News h₀ L s.heap news) (hm : (l, W.listOf vs.toArray n) ∈ news) {base : List (Addr × Obj)} (ht : TripsAt base vs R) (hk : k < R.length) (hl : R.length ≤ 8) (hz : z = (k : Int))
    (h : ∀ (b : Addr) (n0 : Nat) (t1 t2 t3 : Tok), (b, ({ cls := .type "tuple", data := .seq #[.int (at' R k).1 t1, .int (at' R k).2.1 t2, .int (at' R k).2.2 t3] n0 } : Obj)) ∈ base → Q (.ref b) s)
    (hs : subscripted slice false (.ref l) (.int z u) = operate [.ref l, .int z u] (getItem (.ref l) (.int z u)) := by with_unfolding_all rfl) :
    wpAny (model prog w) A (subscriptTail value slice (.ref l) (.int z u)) Q E s := by
  have e := ht.1
  refine item_list0 N hm (by omega) (by omega) (by omega) (fun v hv => ?_) hs
  have hv' : vs[k]? = some v := by
    rw [← hv]
    congr 1
    omega
  obtain ⟨⟨b, n0, t1, t2, t3, rfl, hmb⟩, _⟩ := ht.get hv'
  exact h b n0 t1 t2 t3 hmb
theorem turnOf_eq (R : List Trip) (k : Nat) : ((at' R k).2.2 + 1).fmod 8 = (turnOf R k : Int) := by
  unfold turnOf
  have := Int.fmod_nonneg_of_pos ((at' R k).2.2 + 1) (show (0 : Int) < 8 by decide)
  omega
end
end Mine
end
section
open PySem PySem.W PyProof.Rows
set_option Elab.async false
set_option maxRecDepth 100000
set_option maxHeartbeats 8000000
namespace Mine
set_option maxHeartbeats 2000000
theorem rows_dues_0 : True := by
  k_with_none
  (k_with "my enter" => ((case kA => exact rfl); (case kF => exact rfl); (case kK => assumption); (case k1 => k_asm); (case k2 => k_asm); (case k3 => k_asm); (case k4 => k_asm); (case k5 => k_asm); (case k6 => k_is); (case k7 => k_is); (case k8 => ktr_room); (case k9 => exact BindsTo.of_eq rfl); (case c5 => decide); (case kB => exact rfl); (case c2 => exact rfl); (case c3 => exact rfl); (case c4 => exact rfl); k_whole; intro g' L' h' tk0 FG' F' N' B' X' T'; (try dsimp only [List.reverse_cons, List.reverse_nil, List.nil_append, List.cons_append] at F'); (try dsimp only); (try k_lift B'); (try k_fold)))
  (k_with "my sub" => (intro p hp; repeat (first | exact hp | refine List.mem_cons_of_mem _ ?_ | refine List.mem_append_right _ ?_)))
  (k_with "my use" => ((case k1 => k_asm); (case k2 => k_asm); (case k3 => k_asm); (case k4 => k_asm); (case k5 => k_asm); (case kK => first | exact rfl | assumption); (case kd => ktr_room); (case ku => ktr_units)))
  (k_with "my got str" => (intro r9 tl9 h9 tk9 F9 N9 p9; obtain ⟨e9, t9, e8⟩ := p9; subst e9; subst e8; simp only [List.nil_append] at N9; (try dsimp only); (try k_fold)))
  (k_with "my enterC" => ((case kA => exact rfl); (case kF => exact rfl); (case kK => assumption); (case k1 => k_asm); (case k2 => k_asm); (case k3 => k_asm); (case k4 => k_asm); (case k5 => k_asm); (case k6 => k_is); (case k7 => k_is); (case k8 => ktr_room); (case k9 => exact BindsTo.of_eq rfl); (case kB => exact rfl); (case kD => decide +kernel); (case c2 => exact rfl); (case c3 => exact rfl); (case c4 => exact rfl); k_whole; intro g' L' h' tk' cells' FG' F' N' Y' B' X' T' l1; (try k_lt l1); k_cells Y'; (try simp only [List.cons_append, List.nil_append] at N'); (try dsimp only); (try k_lift B'); (try k_fold)))
  (k_with "subscriptTail" => (k_here; (with_reducible show wpAny _ _ (subscriptTail _ _ (Value.ref _) (Value.int _ _)) _ _ _); k_dflt (with_unfolding_all refine' item_lit ?iN ?im ?ia ?ib ?ic ?_ ?id; (case iN => k_asm); (case im => k_mem); (case ia => decide); (case ib => decide); (case ic => exact rfl); (case id => with_unfolding_all rfl); k_whole)))
  (k_with "subscriptTail Name Constant ref int" => (k_here; (with_reducible show wpAny _ _ (subscriptTail _ _ (Value.ref _) (Value.int _ _)) _ _ _); k_dflt (with_unfolding_all refine' item_lit ?iN ?im ?ia ?ib ?ic ?_ ?id; (case iN => k_asm); (case im => k_mem); (case ia => decide); (case ib => decide); (case ic => exact rfl); (case id => with_unfolding_all rfl); k_whole)))
  (k_with "subscriptTail" => (k_here; (with_reducible show wpAny _ _ (subscriptTail _ _ (Value.ref _) (Value.int d _)) _ _ _); k_dflt (refine' item_two ?jN ?jm ?ja ?jb ?_ ?jd; (case jN => k_asm); (case jm => k_mem); (case ja => omega); (case jb => omega); (case jd => with_unfolding_all rfl); intro t₅)))
  (k_with "call ref" => (k_here; (with_reducible show wpAny _ _ (call (Value.ref 82) [Value.ref _]) _ _ _); refine Stop.go ?_))
  (k_with "subscriptTail" => (k_here; (with_reducible show wpAny _ _ (subscriptTail (PySem.Expr.Name (Str.ofString "deeds") _) _ (Value.ref _) (Value.int _ _)) _ _ _); k_dflt (with_unfolding_all refine item_deed (by k_asm) (by k_mem) hvl hvs hj (by omega) ?_); intro b n0 t1 t2 hmb; replace hmb := hnw _ hmb))
  (k_with "binaryOp Mult ref int" => (k_here; (with_reducible show wpAny _ _ (binaryOp Operator.Mult (Value.ref _) (Value.int _ _)) _ _ _); k_dflt (with_unfolding_all refine mul_none (by k_asm) (by k_asm) (by k_mem) ?_); intro Dd hd₁ Fd₁ Nd₁ ld; (try k_lt ld)))
  (k_with "compareOp Eq ref ref" => (k_here; (with_reducible show wpAny _ _ (compareOp CmpOp.Eq (Value.ref _) (Value.ref _)) _ _ _); k_dflt (first | (with_unfolding_all refine eq_nil (by k_asm) (by k_mem) (by k_mem) (by ktr_units) ?_) | (with_unfolding_all refine eq_lens (by k_asm) (by k_mem) (by k_mem) (by ktr_units) (by rfl) ?_))))
  (k_with "subscriptTail" => (k_here; (with_reducible show wpAny _ _ (subscriptTail (PySem.Expr.Name (Str.ofString "ring") _) _ (Value.ref _) (Value.int _ _)) _ _ _); k_dflt (with_unfolding_all refine item_trip (k := i) (by k_asm) (by k_mem) ht2 hi hOk.2.1 (by omega) ?_); intro b9 n9 t91 t92 t93 hmb9))
  (k_with "setItem ref int" => (k_here; k_dflt (refine' set_led (i := turnOf R' i) ?stF ?stN ?stU ?stk ?st1 ?stl ?_; (case stF => k_asm); (case stN => k_asm); (case stU => k_upd); (case stk => exact turnOf_eq _ _); (case st1 => (rw [hdv.1]; exact turnOf_lt _ _)); (case stl => (rw [hdv.1]; decide))); intro h₆ F₆₆ N₆₆))
  (k_with "exec For Name Call cons nil" => (k_here; k_dflt (refine For_C ?_)))
  (k_with "pyIter ref" => (k_here; refine Stop.go ?_))
  (k_with "CompEnd" => (k_here; k_dflt (refine CompEnd1 (by k_asm) (by k_asm) ⟨by k_ne, by k_ne, by k_ne⟩ (by assumption) True.intro ?_)))
  (k_with "CompEnd" => (k_here; k_dflt (refine CompEnd0 (by k_asm) (by k_asm) (by assumption) (by lcg_src) ?_)))
  (k_with "call builtin:len" => (k_here; (with_reducible show wpAny _ _ (call (Value.builtin "len") [Value.ref aR]) _ _ _); k_dflt (refine' len_led ?nN ?nm ht2.1 ?nf ?_; (case nN => k_asm); (case nm => k_mem); (case nf => omega))))
  (k_with "subscriptTail Name Slice ref ref" => (k_here; (with_reducible show wpAny _ _ (subscriptTail _ (PySem.Expr.Slice none (some _) none _) (Value.ref _) (Value.ref _)) _ _ _); k_dflt (refine' slice_to (i := i + 1) ?saF ?saN ?sal ?sap ?saq ?_ ?sas ?sat; (case saF => k_asm); (case saN => k_asm); (case sal => k_mem); (case sap => omega); (case saq => omega); (case sas => with_unfolding_all rfl); (case sat => kmk_pure)); intro D₁ h₁ F₁ N₁ l₁; (try k_lt l₁)))
  (k_with "subscriptTail Name Slice ref ref" => (k_here; (with_reducible show wpAny _ _ (subscriptTail _ (PySem.Expr.Slice (some _) none none _) (Value.ref _) (Value.ref _)) _ _ _); k_dflt (refine' slice_fr (i := i + 1) ?sbF ?sbN ?sbl ?sbp ?sbq ?_ ?sbs ?sbt; (case sbF => k_asm); (case sbN => k_asm); (case sbl => k_mem); (case sbp => omega); (case sbq => omega); (case sbs => with_unfolding_all rfl); (case sbt => kmk_pure)); intro D₂ h₂ F₂ N₂ l₂; (try k_lt l₂)))
  (k_with "binaryOp Add ref ref" => (k_here; (with_reducible show wpAny _ _ (binaryOp _ (Value.ref _) (Value.ref _)) _ _ _); k_dflt (with_unfolding_all refine' add_ll ?scF ?scN ?sca ?scb ?scp ?scq ?_; (case scF => k_asm); (case scN => k_asm); (case sca => k_mem); (case scb => k_mem); (case scp => (simp only [List.length_append, List.length_take, List.length_drop, List.length_cons, List.length_nil]; omega)); (case scq => (simp only [List.length_append, List.length_take, List.length_drop, List.length_cons, List.length_nil]; omega))); intro D₃ h₃ F₃ N₃ l₃; (try k_lt l₃)))
  (k_with "CompSrc" => (k_here; refine Stop.go ?_))
  (k_with "CompSrcT" => (k_here; refine Stop.go ?_))
  trivial
theorem con_dues (w mean mg mb) (a : Addr) (D : List (Int × Int)) (hD : DeedsOk D) : Con w mean mg mb 87 [.ref a] 6 80
    (fun news => DeedsAt news a D) (fun news tl r => ∃ (a' : Addr) (dv : List Value) (n : Nat), r = .ref a' ∧ (a', W.listOf dv.toArray n) ∈ tl ++ news ∧ dv.length = 8 ∧ ∀ t, t < 8 → ∀ v, dv[t]? = some v → DueAt v (runN D t 8)) := by
  unfold Con
  k_fill
  intro dp un gd cn cs a' ccd cl outer A₀ base h₀ L m news s Q E B F X N T hk hp hd' hu hret
  obtain ⟨vs, nn, hmem, hvl, hvs⟩ := hp
  refine wpAny_call ?_
  k_dflt (refine' enter_defC [("deeds", .ref a)] ?k1 ?k2 ?k3 ?k4 ?k5 ?kA ?kF ?kK ?k6 ?k7 ?k8 ?k9 ?kB ?kD ?c2 ?c3 ?c4 ?_)
  walk_at "my enterC"
  rename_i o1 d1
  have d1' : o1.data = Data.cell (some (Value.ref a)) := d1
  k_steps
  refine Stop.on ?_
  refine LCg.CompSrc.range (n := 8) (by rfl) (by k_asm) (by k_asm) (by assumption) (by first | decide | rfl) (by first | rfl | decide) (by first | size_fits | exact Nat.le_of_ble_eq_true rfl) (fun g => ?_)
  refine rest_indU (fun j ys nw => TripsAt nw ys ((ring0 D).take j) ∧ (∀ p ∈ (L' + 1, o1) :: news, p ∈ nw)) ⟨by simpa using TripsAt.nil, fun p hp => hp⟩ ?_ ?_
  · intro j ys nw v I oI C oC Dd m₂ h₅ tk₅ E' K1 hj hg hP hC hx F₅ N₅ off ne hK
    obtain ⟨t5, rfl⟩ := hP
    obtain ⟨hg1, hbm⟩ := hg
    have hcell : (L' + 1, o1) ∈ nw := hbm _ (.head _)
    have hmem' : (a, W.listOf vs.toArray nn) ∈ nw := hbm _ (.tail _ hmem)
    have hnw : ∀ p ∈ news, p ∈ nw := fun p hp => hbm _ (.tail _ hp)
    have hbm' : ∀ p ∈ (L' + 1, o1) :: news, p ∈ (I, oI) :: (C, oC) :: (Dd, LCg.lst ys) :: nw := fun p hp => .tail _ (.tail _ (.tail _ (hbm p hp)))
    k_steps
    refine hK _ _ ⟨?_, fun p hp => .tail _ (hbm p hp)⟩
    rw [ring0_take D hj]
    refine (hg1.mono fun p hp => .tail _ hp).append (.one (.of (.head _) (by omega)))
  · intro ys nw hg
    obtain ⟨hg1, hbm⟩ := hg
    k_steps
    refine Stop.on ?_
    (rename Fr g' _ _ _ => lF'); (rename News g' _ _ _ => lN'); (rename IsRange _ _ _ _ _ _ _ _ => lR')
    refine iter_rangeC (n := 7) (fun i m' news' => (∀ p ∈ (L' + 1, o1) :: news, p ∈ news') ∧ ∃ R' aR, ShrN i (ring0 D) R' ∧ m' (Str.ofString "ring") = some (.ref aR) ∧ RingAt news' aR R') (by rfl) lR' (by decide) (by decide) lF' lN' (by passes_own) ⟨fun p hp => .tail _ (hbm p hp), _, _, .zero, rfl, ys, _, .head _, ?z⟩ (fun I i m' news' h tk t' hI hi hP F₆ N₆ off => ?_) (fun m' news' h tk hP F₆ N₆ => ?_)
    (case z => rw [List.take_of_length_le (by rw [ring0_len]; omega)] at hg1; exact hg1.mono fun p hp => .tail _ hp)
    clear lF' lN' lR'
    · obtain ⟨hb2, R', aR, hS, hmr, hra⟩ := hP
      rw [map_at hmr] at F₆
      clear hmr
      k_steps
      refine Stop.on ?_
      refine' Con.use (con_shr w mean mg mb aR R' (ring_ok hD hS).1 (ring_ok hD hS).2.1) ?k1 ?k2 ?k3 ?k4 ?k5 ?kK ?kp ?kd ?ku ?_
      walk_at "my use"
      (case kp => (obtain ⟨vs', n', hm', ht'⟩ := hra; exact ⟨vs', n', .tail _ hm', ht'.mono fun p hp => .tail _ hp⟩))
      rintro r9 tl9 h9 tk9 F9 N9 ⟨hseq, R'', a'', rfl, hshr, vs'', n'', hm'', ht''⟩
      (try dsimp only)
      k_steps
      refine UnrShrN (tl := tl9) (by k_asm) (by k_asm) off hseq ⟨fun p hp => List.mem_append_right _ (hb2 p hp), R'', a'', .succ hS hshr, by with_unfolding_all rfl, RingAt.less ⟨vs'', n'', hm'', ht''⟩⟩
    · obtain ⟨hb2, R', aR, hS, hmr, vs2, n2, hm2, ht2⟩ := hP
      rw [map_at hmr] at F₆
      clear hmr
      have hOk := ring_ok hD hS
      have hv2 : vs2.length ≤ 8 := ht2.1 ▸ hOk.2.1
      k_steps
      refine Stop.on ?_
      refine LCt.CompSrcT.ledger (its := vs2.toArray) (by rfl) (by k_asm) (by k_asm) (by k_mem) (by rw [List.size_toArray, sizeLine_eq]; omega) (fun g => ?_)
      refine restT_ind (fun j ys => ys = [] ↔ ∀ r ∈ R'.take j, r.1 = 4) (by simp) ?_ ?_
      · intro j ys v I oI C oC Dd m₂ h₅ tk₅ E' K1 K2 hj hg hP hC hx F₅ N₅ off ne hK1 hK2
        have hj' : j < vs2.length := by simpa using hj
        have hv : vs2[j]? = some v := by rw [← List.getElem?_toArray]; exact hP
        obtain ⟨⟨b, n5, t51, t52, t53, rfl, hmb⟩, hjR⟩ := ht2.get hv
        have ht : R'.take (j + 1) = R'.take j ++ [at' R' j] := by
          rw [List.take_add_one, List.getElem?_eq_getElem hjR]
          show _ = _ ++ [R'.getD j (4, 0, 0)]
          rw [List.getD_eq_getElem?_getD, List.getElem?_eq_getElem hjR]; rfl
        rw [show R'.getD j (4, 0, 0) = at' R' j from rfl] at hmb
        k_steps
        · have h4 : ¬ (at' R' j).1 = 4 := by first | assumption | simp_all
          refine hK1 _ ⟨fun h => absurd h (by simp), fun h => absurd (h (at' R' j) (by rw [ht]; simp)) h4⟩
        · have h4 : (at' R' j).1 = 4 := by first | assumption | simp_all
          refine hK2 ⟨fun h r hr => ?_, fun h => hg.mpr fun r hr => h r (by rw [ht]; exact List.mem_append_left _ hr)⟩
          rw [ht] at hr
          rcases List.mem_append.mp hr with hr | hr
          · exact hg.mp h r hr
          · rw [List.mem_singleton.mp hr]; exact h4
      · intro ys hg
        rw [List.take_of_length_le (by simp [ht2.1])] at hg
        by_cases h4 : ∀ r ∈ R', r.1 = 4
        · have hys := hg.mpr h4
          subst hys
          k_steps
          refine Stop.on ?_
          (rename Fr g' _ _ _ => lF'); (rename News g' _ _ _ => lN'); (rename IsRange _ _ 0 (Nat.cast (List.length R')) _ _ _ _ => lR')
          refine iter_rangeC (n := R'.length) (news := (Dd, W.listOf (List.replicate 8 Value.none).toArray 0) :: news') (fun i m₇ nw => ∃ dv n, nw = (Dd, W.listOf dv.toArray n) :: news' ∧ DuesAt R' i dv ∧ m₇ (Str.ofString "dues") = some (.ref Dd) ∧ m₇ (Str.ofString "ring") = some (.ref aR)) (by rfl) lR' (rng8 _ (by omega)).2 (rng8 _ (by omega)).1 lF' (fun p hp => lN' p (by rcases List.mem_cons.mp hp with rfl | hp <;> (repeat (first | exact hp | exact List.Mem.head _ | refine List.Mem.tail _ ?_)))) (by passes_own) ⟨_, _, rfl, DuesAt.zero R', by with_unfolding_all rfl, by with_unfolding_all rfl⟩ (fun I i m₇ nw h tk t' hI hi hP F₇ N₇ off => ?_) (fun m₇ nw h tk hP F₇ N₇ => ?_)
          clear lF' lN' lR'
          · obtain ⟨dv, n7, rfl, hdv, hm1, hm2'⟩ := hP
            rw [map_at hm1, map_at hm2'] at F₇
            dsimp only at F₇
            clear hm1 hm2'
            have lI := allLt_of hI
            simp only [AllLt] at lI
            have hle := lin_trips ht2 i
            have hln : (lin R' i).length ≤ 8 := by unfold lin; simp only [List.length_append, List.length_drop, List.length_take]; omega
            have hlb : ∀ r ∈ lin R' i, r.2.1.natAbs ≤ 10 ^ 60 := fun r hr => by
              have hr' : r ∈ R' := by
                rcases List.mem_append.mp hr with hr | hr
                · exact List.mem_of_mem_drop hr
                · exact List.mem_of_mem_take hr
              obtain ⟨q, hq, e⟩ := List.getElem_of_mem hr'
              have := (hOk.1 q).2.2
              rw [show at' R' q = r by unfold at'; rw [List.getD_eq_getElem?_getD, List.getElem?_eq_getElem hq, e]; rfl] at this
              exact this
            have hdl := dots_len hlb hln
            k_steps
            refine Stop.on ?_
            refine LCg.CompSrc.ledger (its := (vs2.drop (i + 1) ++ vs2.take (i + 1)).toArray) (by rfl) (by k_asm) (by k_asm) (by k_mem) (by rw [List.size_toArray, hle.1, sizeLine_eq]; omega) (fun g => ?_)
            have hsz : (vs2.drop (i + 1) ++ vs2.take (i + 1)).toArray.size = (lin R' i).length := by rw [List.size_toArray]; exact hle.1
            rw [hsz]
            refine rest_indU (fun j ys nw => nw = _ ∧ StrsAre ys ((dots (lin R' i)).take j)) ⟨rfl, .nil⟩ ?_ ?_
            · rintro j ys nw v I₈ oI oC C Dd₈ m₈ h₈ tk₈ E' K1 hj ⟨rfl, hg⟩ hP hC hx F₈ N₈ off₈ ne hK
              have hv : (vs2.drop (i + 1) ++ vs2.take (i + 1))[j]? = some v := by rw [← List.getElem?_toArray]; exact hP
              have hrj : (lin R' i)[j]? = some (lin R' i)[j] := List.getElem?_eq_getElem hj
              have hdt := dots_take _ hrj
              obtain ⟨b8, n8, t81, t82, t83, rfl, hmb⟩ := hle.2 j v _ hv hrj
              have hbd := hlb _ (List.getElem_mem hj)
              generalize (lin R' i)[j] = rj at *
              obtain ⟨dj, xj, pj⟩ := rj
              dsimp only at hmb hbd hdt
              have hnl := num_len hbd (Nat.le_refl _)
              k_steps
              refine hK _ _ ⟨rfl, ?_⟩
              rw [hdt]
              exact strs_snoc hg
            · rintro ys nw ⟨rfl, hg⟩
              rw [List.take_of_length_le (by simp [dots])] at hg
              k_steps
              refine join_list (items := ys.toArray) (News.isList (by assumption) (List.Mem.head _)) hg hdl.1 (fun t₉ k₉ => ?_)
              have hdl2 := hdl.2
              k_steps
              have hds : ∀ tok, DuesAt R' (i + 1) (dv.set (turnOf R' i) (.str (Str.ofString "C" ++ Txt.join (Str.ofString "") (dots (lin R' i))) tok)) := fun tok => by
                rw [due_text]
                exact DuesAt.succ hdv hi hOk.2.2
              obtain ⟨tok, N77⟩ : ∃ tok, News g' L' h₆ ((I, itR (0 + ((i + 1 : Nat) : Int)) ((R'.length : Int) - ((i + 1 : Nat) : Int))) :: (Dd, W.listOf (dv.set (turnOf R' i) (.str (Str.ofString "C" ++ Txt.join (Str.ofString "") (dots (lin R' i))) tok)).toArray n7) :: news') :=
                ⟨_, fun p hp => N₆₆ p (by
                  rcases List.mem_cons.mp hp with rfl | hp
                  · k_mem
                  · rcases List.mem_cons.mp hp with rfl | hp
                    · k_mem
                    · (repeat (first | exact hp | refine List.Mem.tail _ ?_)))⟩
              refine UnrEnd.intro (by assumption) N77 _ (fun p hp => hp) (fun p hp => ?_) ⟨_, _, rfl, hds _, by with_unfolding_all rfl, by with_unfolding_all rfl⟩
              rcases List.mem_cons.mp hp with rfl | hp
              · exact off (Dd, W.listOf dv.toArray n7) (.head _)
              · exact off p (.tail _ hp)
          · obtain ⟨dv, n7, rfl, hdv, hm1, hm2'⟩ := hP
            rw [map_at hm1, map_at hm2'] at F₇
            dsimp only at F₇
            k_steps
            refine hret _ [(_, W.listOf dv.toArray n7)] _ _ (by assumption) (ret1 (by assumption) (by k_mem) (fun p hp => .tail _ (hb2 p (.tail _ hp)))) ⟨_, _, _, rfl, .head _, hdv.1, fun t ht v hv => ?_⟩
            have hrt := (ring_tells hD hS).1 h4 t ht
            by_cases hk : ∃ k, k < R'.length ∧ turnOf R' k = t
            · obtain ⟨k, hk1, hk2⟩ := hk
              rw [hrt.1 k hk1 hk2]
              obtain ⟨tok, e⟩ := (hdv.2 t ht).1 k hk1 hk2
              rw [e] at hv
              exact ⟨tok, (Option.some.inj hv).symm⟩
            · rw [hrt.2 fun k hk1 hk2 => hk ⟨k, hk1, hk2⟩]
              rw [(hdv.2 t ht).2 fun k hk1 hk2 => hk ⟨k, hk1, hk2⟩] at hv
              exact (Option.some.inj hv).symm
        · obtain ⟨y0, yr, hys⟩ : ∃ y0 yr, ys = y0 :: yr := by
            cases ys with
            | nil => exact absurd (hg.mp rfl) h4
            | cons y0 yr => exact ⟨y0, yr, rfl⟩
          subst hys
          k_steps
          exact hret _ [(_, W.listOf (List.replicate 8 Value.none).toArray 0)] _ _ (by assumption) (ret1 (by assumption) (by k_mem) (fun p hp => by (repeat (first | exact hb2 p (.tail _ hp) | refine List.mem_cons_of_mem _ ?_)))) ⟨_, _, _, rfl, .head _, rfl, fun t ht v hv => by
            rw [(ring_tells hD hS).2 h4 t ht]
            rw [List.getElem?_replicate, if_pos ht] at hv
            exact (Option.some.inj hv).symm⟩
end Mine
end
section
open PySem PySem.W PyProof.Rows PySem.Calls PySem.Spec
set_option maxRecDepth 100000
namespace Mine
section
variable {prog : Program} {w : World} {A : Around} {E : Value → Shared → Prop} {s : Shared} {env : Env} {h₀ : Heap} {target : PySem.Expr} {body : List Stmt} {Q : Flow → Shared → Prop}
theorem allObj_mono {k k' : List (Addr × Obj) → Prop} (h : ∀ its, k its → k' its) : ∀ {ws : List (Addr × String)}, AllObj ws k → AllObj ws k'
  | [], x => h _ x
  | _ :: _, x => fun o ho => allObj_mono (fun its hk => h _ hk) (x o ho)
theorem unrPostW_mono {L : Addr} {s₁ : Shared} {its : List (Addr × Obj)} {r r' : (Str → Option Value) → List (Addr × Obj) → Prop} {f : Flow} {s₂ : Shared} (h : ∀ m n, r m n → r' m n) : UnrPostW h₀ L s₁ its r Q f s₂ → UnrPostW h₀ L s₁ its r' Q f s₂ := by
  have e : UnrEndW h₀ L s₁ its r s₂ → UnrEndW h₀ L s₁ its r' s₂ := by
    rintro ⟨h', tk, m', n', e, F, N, o, hr⟩
    exact ⟨h', tk, m', n', e, F, N, o, h _ _ hr⟩
  cases f with
  | ret v => exact id
  | brk => exact id
  | next => exact e
  | cont => exact e
/-- a loop over an enumerated list by what holds between the turns -/
theorem enum_ind {vs : List Value} {ws : List (Addr × String)} {keep : List (Addr × Obj)} {m₀ : Str → Option Value} {news : List (Addr × Obj)} (P : Nat → (Str → Option Value) → List (Addr × Obj) → Prop) (hk : ∀ i m nw, P i m nw → SubL keep nw) (h0 : P 0 m₀ news)
    (turn : ∀ i x m nw T t h tk, vs[i]? = some x → P i m nw → IsTup h T #[.int (i : Int) t, x] → Fr h₀ env.locals h m → AllObj ws (fun its => News h₀ env.locals h (its ++ nw) →
      wpAny (model prog w) A (assign target env (.ref T)) (fun _ s₂ => wpAny (model prog w) A (execs body env) (UnrPostW h₀ env.locals { s with heap := h, toks := tk } its (P (i + 1)) Q) E s₂) E { s with heap := h, toks := tk }))
    (done : ∀ m nw h tk, P vs.length m nw → Fr h₀ env.locals h m → News h₀ env.locals h nw → Q .next { s with heap := h, toks := tk }) :
    ItemsRest prog w A E h₀ env target body Q s ws keep (enumItems 0 vs) m₀ news := by
  have key : ∀ k i m nw, i + k = vs.length → P i m nw → ItemsRest prog w A E h₀ env target body Q s ws keep ((enumItems 0 vs).drop i) m nw := by
    intro k
    induction k with
    | zero =>
      intro i m nw e hP
      have : (enumItems 0 vs).drop i = [] := List.drop_eq_nil_iff.mpr (by rw [enumItems_length]; omega)
      rw [this]
      exact ItemsRest.zero fun h tk F N => done m nw h tk ((by omega : i = vs.length) ▸ hP) F N
    | succ k ih =>
      intro i m nw e hP
      have hi : i < vs.length := by omega
      have hx : vs[i]? = some vs[i] := List.getElem?_eq_getElem hi
      have hg := enumItems_get vs 0 i hx
      have hd : (enumItems 0 vs).drop i = .pair (fun t => .int ((0 + i : Nat) : Int) t) vs[i] :: (enumItems 0 vs).drop (i + 1) := by
        have hlt : i < (enumItems 0 vs).length := by rw [enumItems_length]; exact hi
        rw [List.drop_eq_getElem_cons hlt]
        congr 1
        exact Option.some.inj ((List.getElem?_eq_getElem hlt).symm.trans hg)
      rw [hd]
      refine ItemsRest.pair fun T t h tk hT F => ?_
      have e0 : ((0 + i : Nat) : Int) = (i : Int) := by omega
      rw [e0] at hT
      refine allObj_mono (fun its q N => ?_) (turn i vs[i] m nw T t h tk hx hP hT F)
      refine wpAny_mono (q N) (fun _ s₂ h₂ => ?_) fun _ _ x => x
      refine wpAny_mono h₂ (fun f s₃ h₃ => ?_) fun _ _ x => x
      exact unrPostW_mono (fun m' n' hP' => ⟨hk _ _ _ hP', ih (i + 1) m' n' (by omega) hP'⟩) h₃
  simpa using key vs.length 0 m₀ news (by omega) h0
end
/-- as «Con», and of the heap below too -/
def ConH (w : World) (mean : ExcName → Option Value) (mg mb : Str → Option Value) (f : Addr) (vs : List Value) (d u : Nat) (pre : Heap → List (Addr × Obj) → Prop) (post : List (Addr × Obj) → List (Addr × Obj) → Value → Prop) : Prop :=
  ∀ (dp un : Nat) (gd : Option (List Code)) (cn : Str) (cs : Scope) (a : Addr) (ccd : Value) (cl : List (Str × Addr)) (outer : List Env) (A₀ : Around) (base h₀ : Heap) (L : Addr) (m : Str → Option Value) (news : List (Addr × Obj)) (s : Shared) (Q E : Value → Shared → Prop),
    Below A₀ base outer h₀ → Fr h₀ L s.heap m → (hd.heap_39 w.params).In h₀ → News h₀ L s.heap news → Top hd.view_39 (looseW hd.view_39 []) mean mg mb h₀ → cs.kind = .function →
    pre h₀ news → dp + d < recursionLimit → un + u < cLine →
    (∀ r tl h' tk', Fr h₀ L h' m → News h₀ L h' (tl ++ news) → post news tl r → Q r { s with heap := h', toks := tk' }) →
    wpAny (model PySem.Challenge.rw_xr0001_01.row.prog w) (ktrTop dp un gd cn cs L a ccd cl outer) (call (.ref f) vs) Q E s
end Mine
namespace Mine
def Ints8 (dv : List Value) : Prop := ∃ is, IntsAre dv is ∧ is.length = 8
section
variable {prog : Program} {w : World} {A : Around} {E : Value → Shared → Prop} {s : Shared} {env : Env} {h₀ : Heap} {body : List Stmt} {Q : Flow → Shared → Prop}
theorem enum_drawn {elts : List PySem.Expr} {k : Nat} {pos : Pos} {l D : Addr} {ws dv0 : List Value} {n1 n2 : Nat} {m₀ : Str → Option Value} {news : List (Addr × Obj)} {nums : List Int}
    (hh : A.handled = none) (F : Fr h₀ env.locals s.heap m₀) (N : News h₀ env.locals s.heap ((D, W.listOf ws.toArray n1) :: (l, W.listOf dv0.toArray n2) :: news)) (hI : IntsAre ws nums) (h8 : Ints8 dv0) (hm : m₀ (Str.ofString "drawn") = some (.ref l))
    (turn : ∀ (I : Addr) (o1 o2 : Obj) (i : Nat) (x : Int) (tx : Tok) m dv n T t h tk, o1.cls = .type "enumerate" → o2.cls = .type "list_iterator" → (∀ p ∈ (D, W.listOf ws.toArray n1) :: (l, W.listOf dv0.toArray n2) :: news, p.1 < I) → Ints8 dv → m (Str.ofString "drawn") = some (.ref l) →
      IsTup h T #[.int (i : Int) t, .int x tx] → Fr h₀ env.locals h m → News h₀ env.locals h ((I + 1, o1) :: (I, o2) :: (D, W.listOf ws.toArray n1) :: (l, W.listOf dv.toArray n) :: news) →
      wpAny (model prog w) A (assign (.Tuple elts k pos) env (.ref T)) (fun _ s₂ => wpAny (model prog w) A (execs body env) (UnrPostW h₀ env.locals { s with heap := h, toks := tk } [(I + 1, o1), (I, o2)] (fun m' nw' => ∃ dv' n', nw' = (D, W.listOf ws.toArray n1) :: (l, W.listOf dv'.toArray n') :: news ∧ Ints8 dv' ∧ m' (Str.ofString "drawn") = some (.ref l)) Q) E s₂) E { s with heap := h, toks := tk })
    (done : ∀ m dv n h tk, Ints8 dv → m (Str.ofString "drawn") = some (.ref l) → Fr h₀ env.locals h m → News h₀ env.locals h ((D, W.listOf ws.toArray n1) :: (l, W.listOf dv.toArray n) :: news) → Q .next { s with heap := h, toks := tk }) :
    wpAny (model prog w) A (call (.type "enumerate") [.ref D]) (fun xv s₁ => wpAny (model prog w) A (pyIter xv) (fun it s₂ => TurnsAt prog w A h₀ env (.Tuple elts k pos) body Q E it s₂) E s₁) E s := by
  refine ktu_enum (lo := W.listOf ws.toArray n1) hh F N (.head _) rfl rfl rfl fun I hIlt => ?_
  refine enum_ind (fun _ m nw => ∃ dv n, nw = (D, W.listOf ws.toArray n1) :: (l, W.listOf dv.toArray n) :: news ∧ Ints8 dv ∧ m (Str.ofString "drawn") = some (.ref l)) (fun i m nw hP => by obtain ⟨dv, n, rfl, _⟩ := hP; exact ⟨.head _, trivial⟩) ⟨dv0, n2, rfl, h8, hm⟩ ?_ ?_
  · rintro i x m nw T t h tk hx ⟨dv, n, rfl, h8', hm'⟩ hT F'
    have hxi : ∃ x' tx, x = .int x' tx := by
      obtain ⟨hi, e⟩ := List.getElem?_eq_some_iff.mp hx
      obtain ⟨t', e'⟩ := hI.get i (nums[i]'(by rw [← hI.length]; exact hi)) (List.getElem?_eq_getElem _)
      rw [hx] at e'
      exact ⟨_, _, Option.some.inj e'⟩
    obtain ⟨x', tx, rfl⟩ := hxi
    exact AllObj.cons fun o1 h1 => AllObj.cons fun o2 h2 => AllObj.nil fun N' => turn I o1 o2 i x' tx m dv n T t h tk h1 h2 hIlt h8' hm' hT F' N'
  · rintro m nw h tk ⟨dv, n, rfl, h8', hm'⟩ F' N'
    exact done m dv n h tk h8' hm' F' N'
end
end Mine
namespace Mine
/-- deeds so far -/
def PairsAt (news : List (Addr × Obj)) (vs : List Value) (D : List (Int × Int)) : Prop :=
  vs.length = D.length ∧ ∀ (k : Nat) (v : Value) (r : Int × Int), vs[k]? = some v → D[k]? = some r → ∃ (b : Addr) (n : Nat) (t u : Tok), v = Value.ref b ∧ (b, ({ cls := .type "tuple", data := .seq #[.int r.1 t, .int r.2 u] n } : Obj)) ∈ news
theorem PairsAt.snoc {news : List (Addr × Obj)} {vs : List Value} {D : List (Int × Int)} {b : Addr} {n : Nat} {d x : Int} {t u : Tok} (h : PairsAt news vs D) : PairsAt ((b, ({ cls := .type "tuple", data := .seq #[.int d t, .int x u] n } : Obj)) :: news) (vs ++ [.ref b]) (D ++ [(d, x)]) := by
  refine ⟨by simp [h.1], fun k v r hv hr => ?_⟩
  rcases Nat.lt_or_ge k vs.length with hk | hk
  · rw [List.getElem?_append_left hk] at hv
    rw [List.getElem?_append_left (h.1 ▸ hk)] at hr
    obtain ⟨b', n', t', u', e, hm⟩ := h.2 k v r hv hr
    exact ⟨b', n', t', u', e, .tail _ hm⟩
  · rw [List.getElem?_append_right hk] at hv
    rw [List.getElem?_append_right (h.1 ▸ hk), ← h.1] at hr
    match hj : k - vs.length, hv, hr with
    | 0, hv, hr => cases hv; cases hr; exact ⟨b, n, t, u, rfl, .head _⟩
theorem PairsAt.deeds {news news' : List (Addr × Obj)} {a : Addr} {n : Nat} {vs : List Value} {D : List (Int × Int)} (h : PairsAt news vs D) (h8 : D.length = 8) (hm : (a, W.listOf vs.toArray n) ∈ news') (hs : ∀ p ∈ news, p ∈ news') : DeedsAt news' a D := by
  refine ⟨vs, n, hm, by rw [h.1, h8], fun k v hv => ?_⟩
  obtain ⟨hk, _⟩ := List.getElem?_eq_some_iff.mp hv
  have hkD : k < D.length := h.1 ▸ hk
  obtain ⟨b, n1, t, u, e, hb⟩ := h.2 k v _ hv (List.getElem?_eq_getElem hkD)
  refine ⟨b, n1, t, u, e, hs _ ?_⟩
  rw [List.getD_eq_getElem?_getD, List.getElem?_eq_getElem hkD]
  exact hb
def PairOk (r : Int × Int) : Prop := 0 ≤ r.1 ∧ r.1 ≤ 4 ∧ r.2.natAbs ≤ 10 ^ 7
theorem pairs_ok {D : List (Int × Int)} (h : ∀ r ∈ D, PairOk r) : DeedsOk D := fun k => by
  rw [List.getD_eq_getElem?_getD]
  cases e : D[k]? with
  | none => exact ⟨by decide, by decide, by decide⟩
  | some r => exact h r (List.mem_of_getElem? e)
section
variable {prog : Program} {w : World} {A : Around} {E : Value → Shared → Prop} {s : Shared} {env : Env} {h₀ : Heap} {target : PySem.Expr} {body : List Stmt} {Q : Flow → Shared → Prop}
theorem vals_ind {vs : List Value} {ws : List (Addr × String)} {keep : List (Addr × Obj)} {m₀ : Str → Option Value} {news : List (Addr × Obj)} (P : Nat → (Str → Option Value) → List (Addr × Obj) → Prop) (hk : ∀ i m nw, P i m nw → SubL keep nw) (h0 : P 0 m₀ news)
    (turn : ∀ i x m nw h tk, vs[i]? = some x → P i m nw → Fr h₀ env.locals h m → AllObj ws (fun its => News h₀ env.locals h (its ++ nw) →
      wpAny (model prog w) A (assign target env x) (fun _ s₂ => wpAny (model prog w) A (execs body env) (UnrPostW h₀ env.locals { s with heap := h, toks := tk } its (P (i + 1)) Q) E s₂) E { s with heap := h, toks := tk }))
    (done : ∀ m nw h tk, P vs.length m nw → Fr h₀ env.locals h m → News h₀ env.locals h nw → Q .next { s with heap := h, toks := tk }) :
    ItemsRest prog w A E h₀ env target body Q s ws keep (vs.map Itm.val) m₀ news := by
  have key : ∀ k i m nw, i + k = vs.length → P i m nw → ItemsRest prog w A E h₀ env target body Q s ws keep ((vs.drop i).map Itm.val) m nw := by
    intro k
    induction k with
    | zero =>
      intro i m nw e hP
      rw [List.drop_of_length_le (by omega)]
      exact ItemsRest.zero fun h tk F N => done m nw h tk ((by omega : i = vs.length) ▸ hP) F N
    | succ k ih =>
      intro i m nw e hP
      have hi : i < vs.length := by omega
      rw [List.drop_eq_getElem_cons hi]
      refine ItemsRest.val fun h tk F => ?_
      refine allObj_mono (fun its q N => ?_) (turn i vs[i] m nw h tk (List.getElem?_eq_getElem hi) hP F)
      refine wpAny_mono (q N) (fun _ s₂ h₂ => ?_) fun _ _ x => x
      refine wpAny_mono h₂ (fun f s₃ h₃ => ?_) fun _ _ x => x
      exact unrPostW_mono (fun m' n' hP' => ⟨hk _ _ _ hP', ih (i + 1) m' n' (by omega) hP'⟩) h₃
  exact key vs.length 0 m₀ news (by omega) h0
end
end Mine
namespace Mine
section
variable {prog : Program} {w : World} {A : Around} {E : Value → Shared → Prop} {s : Shared} {env : Env} {h₀ : Heap} {target : PySem.Expr} {body : List Stmt} {Q : Flow → Shared → Prop}
theorem iter_drawn {ax dd : Addr} {dv : List Value} {n nd : Nat} {rest : List (Addr × Obj)} {m₀ : Str → Option Value} (hh : A.handled = none) (F : Fr h₀ env.locals s.heap m₀) (N : News h₀ env.locals s.heap ((dd, W.listOf ([] : List Value).toArray nd) :: rest)) (hm : (ax, W.listOf dv.toArray n) ∈ rest)
    (hmd : m₀ (Str.ofString "deeds") = some (.ref dd)) (hoff : ∀ p ∈ rest, p.1 < dd) (h8 : Ints8 dv)
    (turn : ∀ (I : Addr) (o : Obj) (x : Int) (tx : Tok) m tsv nt rest' Dl h tk, dd < I → (∀ p ∈ rest', p.1 ≠ dd) → (∀ p ∈ rest', p.1 ≠ I) → m (Str.ofString "deeds") = some (.ref dd) → PairsAt rest' tsv Dl → Dl.length ≤ 8 → Fr h₀ env.locals h m → News h₀ env.locals h ((I, o) :: (dd, W.listOf tsv.toArray nt) :: rest') →
      wpAny (model prog w) A (assign target env (.int x tx)) (fun _ s₂ => wpAny (model prog w) A (execs body env) (UnrPostW h₀ env.locals { s with heap := h, toks := tk } [(I, o)] (fun m' nw' => ∃ (r : Int × Int) (tsv' : List Value) (nt' : Nat) (rest'' : List (Addr × Obj)), PairOk r ∧ nw' = (dd, W.listOf tsv'.toArray nt') :: rest'' ∧ (∀ p ∈ rest'', p.1 ≠ dd) ∧ (∀ p ∈ rest'', p.1 ≠ I) ∧ m' (Str.ofString "deeds") = some (.ref dd) ∧ PairsAt rest'' tsv' (Dl ++ [r]) ∧ ∀ p ∈ rest', p ∈ rest'') Q) E s₂) E { s with heap := h, toks := tk })
    (done : ∀ m tsv nt rest' Dl h tk, Dl.length = 8 → (∀ r ∈ Dl, PairOk r) → m (Str.ofString "deeds") = some (.ref dd) → PairsAt rest' tsv Dl → (∀ p ∈ rest, p ∈ rest') → Fr h₀ env.locals h m → News h₀ env.locals h ((dd, W.listOf tsv.toArray nt) :: rest') → Q .next { s with heap := h, toks := tk }) :
    wpAny (model prog w) A (pyIter (.ref ax)) (fun it s₂ => TurnsAt prog w A h₀ env target body Q E it s₂) E s := by
  obtain ⟨is, hia, hl8⟩ := h8
  refine iter_listTurns (lo := W.listOf dv.toArray n) hh F N (.tail _ hm) rfl rfl fun I hI => ?_
  have hlen : dv.length = 8 := by rw [hia.length]; exact hl8
  refine vals_ind (fun i m nw => ∃ (tsv : List Value) (nt : Nat) (rest' : List (Addr × Obj)) (Dl : List (Int × Int)), nw = (dd, W.listOf tsv.toArray nt) :: rest' ∧ (∀ p ∈ rest', p.1 ≠ dd) ∧ (∀ p ∈ rest', p.1 ≠ I) ∧ m (Str.ofString "deeds") = some (.ref dd) ∧ PairsAt rest' tsv Dl ∧ (∀ p ∈ rest, p ∈ rest') ∧ Dl.length = i ∧ i ≤ 8 ∧ ∀ r ∈ Dl, PairOk r)
    (fun i m nw hP => by obtain ⟨tsv, nt, rest', Dl, rfl, _, _, _, _, hs, _⟩ := hP; exact ⟨.tail _ (hs _ hm), trivial⟩)
    ⟨[], nd, rest, [], rfl, fun p hp => Nat.ne_of_lt (hoff p hp), fun p hp => Nat.ne_of_lt (hI p (.tail _ hp)), hmd, ⟨rfl, fun _ _ _ h _ => nomatch h⟩, fun _ h => h, rfl, by omega, fun _ h => nomatch h⟩ ?_ ?_
  · rintro i x m nw h tk hx ⟨tsv, nt, rest', Dl, rfl, h1, h2, h3, h4, h5, h6, h7, h9⟩ F'
    have hi : i < dv.length := (List.getElem?_eq_some_iff.mp hx).1
    have hxi : ∃ x' tx, x = .int x' tx := by
      obtain ⟨t', e'⟩ := hia.get i (is[i]'(by omega)) (List.getElem?_eq_getElem _)
      rw [hx] at e'
      exact ⟨_, _, Option.some.inj e'⟩
    obtain ⟨x', tx, rfl⟩ := hxi
    refine AllObj.cons fun o ho => AllObj.nil fun N' => ?_
    refine wpAny_mono (turn I o x' tx m tsv nt rest' Dl h tk (hI _ (.head _)) h1 h2 h3 h4 (by omega) F' N') (fun _ s₂ h₂ => ?_) fun _ _ e => e
    refine wpAny_mono h₂ (fun f s₃ h₃ => ?_) fun _ _ e => e
    refine unrPostW_mono (fun m' n' hP' => ?_) h₃
    obtain ⟨r, tsv', nt', rest'', hr, e, g1, g2, g3, g4, g5⟩ := hP'
    refine ⟨tsv', nt', rest'', Dl ++ [r], e, g1, g2, g3, g4, fun p hp => g5 p (h5 p hp), by simp [h6], by omega, fun q hq => ?_⟩
    rcases List.mem_append.mp hq with hq | hq
    · exact h9 q hq
    · rw [List.mem_singleton.mp hq]; exact hr
  · rintro m nw h tk ⟨tsv, nt, rest', Dl, rfl, h1, h2, h3, h4, h5, h6, h7, h9⟩ F' N'
    exact done m tsv nt rest' Dl h tk (by omega) h9 h3 h4 h5 F' N'
end
end Mine
namespace Mine
section
variable {prog : Program} {w : World} {A : Around} {E : Value → Shared → Prop} {s : Shared} {h₀ : Heap} {L : Addr} {m : Str → Option Value} {news news' : List (Addr × Obj)}
theorem append_led {D : Addr} {vs : List Value} {n : Nat} {x : Value} {Q : Value → Shared → Prop} (F : Fr h₀ L s.heap m) (N : News h₀ L s.heap news) (U : Upd D (W.listOf vs.toArray n) (W.listOf (vs ++ [x]).toArray (n + 1)) news news') (hz : vs.length ≤ 1000)
    (h : ∀ h', Fr h₀ L h' m → News h₀ L h' news' → Q .none { s with heap := h' }) : wpAny (model prog w) A (call (.builtin "list.append") [.ref D, x]) Q E s := by
  rw [← List.push_toArray] at U
  exact append_K F N U h (by rw [List.size_toArray, sizeLine_eq]; omega)
theorem UnrEndW1 {I dd T : Addr} {o : Obj} {tsv : List Value} {nt n : Nat} {d y : Int} {t u : Tok} {rest' : List (Addr × Obj)} {Dl : List (Int × Int)} {s₁ : Shared} {h' : Heap} {tk : Nat} {m' : Str → Option Value}
    (F : Fr h₀ L h' m') (N : News h₀ L h' ((T, ({ cls := .type "tuple", data := .seq #[.int d t, .int y u] n } : Obj)) :: (I, o) :: (dd, W.listOf (tsv ++ [Value.ref T]).toArray nt) :: rest')) (hT1 : I < T) (hT2 : dd < T) (hdI : dd < I) (hno : ∀ p ∈ rest', p.1 ≠ dd) (hnI : ∀ p ∈ rest', p.1 ≠ I) (hPA : PairsAt rest' tsv Dl) (hr : PairOk (d, y)) (hm : m' (Str.ofString "deeds") = some (.ref dd)) :
    UnrEndW h₀ L s₁ [(I, o)] (fun m' nw' => ∃ (r : Int × Int) (tsv' : List Value) (nt' : Nat) (rest'' : List (Addr × Obj)), PairOk r ∧ nw' = (dd, W.listOf tsv'.toArray nt') :: rest'' ∧ (∀ p ∈ rest'', p.1 ≠ dd) ∧ (∀ p ∈ rest'', p.1 ≠ I) ∧ m' (Str.ofString "deeds") = some (.ref dd) ∧ PairsAt rest'' tsv' (Dl ++ [r]) ∧ ∀ p ∈ rest', p ∈ rest'') { s₁ with heap := h', toks := tk } := by
  have hTI : T ≠ I := Nat.ne_of_gt hT1
  have hTd : T ≠ dd := Nat.ne_of_gt hT2
  refine ⟨h', tk, m', (dd, W.listOf (tsv ++ [Value.ref T]).toArray nt) :: (T, ({ cls := .type "tuple", data := .seq #[.int d t, .int y u] n } : Obj)) :: rest', rfl, F, fun p hp => N p ?_, fun p hp q hq => ?_, (d, y), _, _, _, hr, rfl, fun p hp => ?_, fun p hp => ?_, hm, hPA.snoc, fun p hp => .tail _ hp⟩
  · rcases List.mem_cons.mp hp with rfl | hp
    · exact .tail _ (.head _)
    · rcases List.mem_cons.mp hp with rfl | hp
      · exact .tail _ (.tail _ (.head _))
      · rcases List.mem_cons.mp hp with rfl | hp
        · exact .head _
        · exact .tail _ (.tail _ (.tail _ hp))
  · rw [List.mem_singleton.mp hq]
    rcases List.mem_cons.mp hp with rfl | hp
    · exact Nat.ne_of_lt hdI
    · rcases List.mem_cons.mp hp with rfl | hp
      · exact hTI
      · exact hnI p hp
  · rcases List.mem_cons.mp hp with rfl | hp
    · exact hTd
    · exact hno p hp
  · rcases List.mem_cons.mp hp with rfl | hp
    · exact hTI
    · exact hnI p hp
end
end Mine
namespace Mine
theorem pairOk1 (x : Int) : PairOk (if 4 < x.fmod 8 then 4 else x.fmod 8, (x.fdiv 8).fmod (10 ^ Int.toNat 6)) := by
  have e6 : (10 : Int) ^ Int.toNat 6 = 1000000 := by decide
  have h1 := Int.fmod_nonneg_of_pos x (show (0 : Int) < 8 by decide)
  have h3 := Int.fmod_nonneg_of_pos (x.fdiv 8) (show (0 : Int) < 1000000 by decide)
  have h4 := Int.fmod_lt_of_pos (x.fdiv 8) (show (0 : Int) < 1000000 by decide)
  refine ⟨?_, ?_, ?_⟩
  · dsimp only; split <;> omega
  · dsimp only; split <;> omega
  · dsimp only; rw [e6]; omega
theorem pairOk2 (x : Int) : PairOk (if 4 < x.fmod 8 then 4 else x.fmod 8, -(-x.fdiv 8).fmod (10 ^ Int.toNat 6)) := by
  have e6 : (10 : Int) ^ Int.toNat 6 = 1000000 := by decide
  have h1 := Int.fmod_nonneg_of_pos x (show (0 : Int) < 8 by decide)
  have h3 := Int.fmod_nonneg_of_pos (-x.fdiv 8) (show (0 : Int) < 1000000 by decide)
  have h4 := Int.fmod_lt_of_pos (-x.fdiv 8) (show (0 : Int) < 1000000 by decide)
  refine ⟨?_, ?_, ?_⟩
  · dsimp only; split <;> omega
  · dsimp only; split <;> omega
  · dsimp only; rw [e6]; omega
end Mine
end
section
open PySem PySem.W PyProof.Rows
set_option Elab.async false
set_option maxRecDepth 100000
set_option maxHeartbeats 8000000
namespace Mine
/-- how many hands a deed takes -/
def needs (d : Int) : Nat := if d = 4 then 0 else if d = 3 then 1 else 2
theorem needs_le (d : Int) : needs d ≤ 2 := by
  unfold needs
  by_cases h : d = 4
  · rw [if_pos h]; decide
  · rw [if_neg h]
    by_cases h : d = 3
    · rw [if_pos h]; decide
    · rw [if_neg h]; exact Nat.le_refl _
theorem stepD_few {d x : Int} {S : List Int} (h : S.length < needs d) : stepD d x S = none := by
  unfold needs at h
  unfold stepD
  by_cases h4 : d = 4
  · rw [if_pos h4] at h; exact absurd h (Nat.not_lt_zero _)
  · rw [if_neg h4] at h ⊢
    by_cases h3 : d = 3
    · rw [if_pos h3] at h ⊢
      match S, h with
      | [], _ => rfl
      | _ :: S, h => exact absurd h (Nat.not_lt.mpr (Nat.succ_le_succ (Nat.zero_le _)))
    · rw [if_neg h3] at h ⊢
      match S, h with
      | [], _ => rfl
      | [_], _ => rfl
      | _ :: _ :: S, h => exact absurd h (Nat.not_lt.mpr (Nat.succ_le_succ (Nat.succ_le_succ (Nat.zero_le _))))
theorem Bd.suffix {n : Nat} {S : List Int} : ∀ {P : List Int}, Bd (P ++ S) n → Bd S n
  | [], h => h
  | _ :: P, h => Bd.suffix (P := P) h.tail
section
variable {prog : Program} {w : World} {A : Around} {E : Value → Shared → Prop} {s : Shared}
theorem item_needs {h₀ : Heap} {L : Addr} {news : List (Addr × Obj)} {value slice : PySem.Expr} {l : Addr} {t0 t1 t2 t3 t4 : Tok} {n : Nat} {k : Int} {u : Tok} {Q : Value → Shared → Prop}
    (N : News h₀ L s.heap news) (hm : (l, W.listOf #[.int 2 t0, .int 2 t1, .int 2 t2, .int 1 t3, .int 0 t4] n) ∈ news) (h0 : 0 ≤ k) (h1 : k ≤ 4) (h : ∀ t, Q (.int (needs k : Int) t) s)
    (hs : subscripted slice false (.ref l) (.int k u) = operate [.ref l, .int k u] (getItem (.ref l) (.int k u)) := by with_unfolding_all rfl) :
    wpAny (model prog w) A (subscriptTail value slice (.ref l) (.int k u)) Q E s := by
  have hk : k = 0 ∨ k = 1 ∨ k = 2 ∨ k = 3 ∨ k = 4 := by omega
  rcases hk with rfl | rfl | rfl | rfl | rfl <;>
    exact item_lit (vs := [.int 2 t0, .int 2 t1, .int 2 t2, .int 1 t3, .int 0 t4]) N hm (by decide) (by decide) rfl (h _) hs
end
/-- where a turn stands when its value is made -/
def TurnMid (h₀ : Heap) (L I : Addr) (it : Obj) (news : List (Addr × Obj)) (a : Addr) (t : Int) (tt : Tok) (d x : Int) (S S' : List Int) (s₁ s' : Shared) : Prop :=
  ∃ (v : Int) (tv t' : Tok) (h : Heap) (tk : Nat) (m : Str → Option Value), s' = { s₁ with heap := h, toks := tk } ∧ Fr h₀ L h m ∧ News h₀ L h ((I, it) :: news) ∧
    m (Str.ofString "text") = some (.str (textOf S') t') ∧ m (Str.ofString "value") = some (.int v tv) ∧ m (Str.ofString "deeds") = some (.ref a) ∧ m (Str.ofString "turn") = some (.int t tt) ∧ stepD d x S = some (v :: S') ∧ v.natAbs ≤ 10 ^ 60
theorem TurnMid.intro {h₀ : Heap} {L I : Addr} {it : Obj} {news all : List (Addr × Obj)} {a : Addr} {t : Int} {tt : Tok} {d x v : Int} {tv t' : Tok} {S S' : List Int} {s₁ : Shared} {h : Heap} {tk : Nat} {m : Str → Option Value}
    (F : Fr h₀ L h m) (N : News h₀ L h all) (sub : ∀ p ∈ (I, it) :: news, p ∈ all) (h1 : m (Str.ofString "text") = some (.str (textOf S') t')) (h2 : m (Str.ofString "value") = some (.int v tv)) (h3 : m (Str.ofString "deeds") = some (.ref a)) (h4 : m (Str.ofString "turn") = some (.int t tt))
    (h5 : stepD d x S = some (v :: S')) (hB : Bd (v :: S') 60) : TurnMid h₀ L I it news a t tt d x S S' s₁ { s₁ with heap := h, toks := tk } :=
  ⟨v, tv, t', h, tk, m, rfl, F, fun p hp => N p (sub p hp), h1, h2, h3, h4, h5, hB.val⟩
section
variable {prog : Program} {w : World} {A : Around} {E : Value → Shared → Prop} {s : Shared} {env : Env} {h₀ : Heap} {target : PySem.Expr} {body : List Stmt} {Q : Flow → Shared → Prop}
/-- how many hands are drawn, and what is left of the text -/
def HandsAt (lH : Addr) (rest : List (Addr × Obj)) (S : List Int) (K : (Str → Option Value) → Prop) (j : Nat) (m : Str → Option Value) (nw : List (Addr × Obj)) : Prop :=
  ∃ (P S' : List Int) (hs : List Value) (n : Nat) (tx : Tok), S = P ++ S' ∧ P.length = j ∧ IntsAre hs P ∧ nw = (lH, W.listOf hs.toArray n) :: rest ∧ m (Str.ofString "text") = some (.str (textOf S') tx) ∧ m (Str.ofString "hands") = some (.ref lH) ∧ K m
theorem HandsAt.turn {L lH I : Addr} {it : Obj} {rest all : List (Addr × Obj)} {S P S' : List Int} {hs : List Value} {n : Nat} {K : (Str → Option Value) → Prop} {j : Nat} {p : Int} {tp tx : Tok} {s₁ : Shared} {h' : Heap} {tk : Nat} {m' : Str → Option Value}
    (F : Fr h₀ L h' m') (N : News h₀ L h' all) (sub : ∀ q ∈ (I, it) :: (lH, W.listOf (hs ++ [Value.int p tp]).toArray n) :: rest, q ∈ all) (hlI : lH ≠ I) (hoff : ∀ q ∈ rest, q.1 ≠ I)
    (h1 : S = P ++ p :: S') (h2 : P.length = j) (h3 : IntsAre hs P) (h4 : m' (Str.ofString "text") = some (.str (textOf S') tx)) (h5 : m' (Str.ofString "hands") = some (.ref lH)) (h6 : K m') :
    UnrEnd h₀ L s₁ I it (HandsAt lH rest S K (j + 1)) { s₁ with heap := h', toks := tk } :=
  UnrEnd.intro F N _ sub (fun q hq => by
    rcases List.mem_cons.mp hq with rfl | hq
    · exact hlI
    · exact hoff q hq) ⟨P ++ [p], S', _, _, tx, by rw [h1]; simp, by simp [h2], intsAre_append h3 (.cons p tp .nil), rfl, h4, h5, h6⟩
theorem iter_hands {lH lr r : Addr} {nH : Nat} {o : Obj} {rest : List (Addr × Obj)} {c : Nat} {t u v tx : Tok} {m : Str → Option Value} (S : List Int) (K : (Str → Option Value) → Prop)
    (hh : A.handled = none) (R : IsRange s.heap r 0 (c : Int) 1 t u v) (hc : c ≤ 2) (F : Fr h₀ env.locals s.heap m) (N : News h₀ env.locals s.heap ((lr, o) :: (lH, W.listOf ([] : List Value).toArray nH) :: rest)) (hlt : ∀ p ∈ rest, p.1 ≠ lH)
    (hE : PassesOwn (model prog w) A env E) (h1 : m (Str.ofString "text") = some (.str (textOf S) tx)) (h2 : m (Str.ofString "hands") = some (.ref lH)) (h3 : K m)
    (turn : ∀ (I : Addr) (j : Nat) (m' : Str → Option Value) (P S' : List Int) (hs : List Value) (n : Nat) (tx : Tok) h tk t', lH < I → (∀ p ∈ rest, p.1 ≠ I) → j < c → S = P ++ S' → P.length = j → IntsAre hs P → m' (Str.ofString "text") = some (.str (textOf S') tx) → m' (Str.ofString "hands") = some (.ref lH) → K m' → Fr h₀ env.locals h m' →
      News h₀ env.locals h ((I, itR (0 + ((j + 1 : Nat) : Int)) ((c : Int) - ((j + 1 : Nat) : Int))) :: (lH, W.listOf hs.toArray n) :: rest) →
      wpAny (model prog w) A (assign target env (.int (0 + (j : Int)) t')) (fun _ s₂ => wpAny (model prog w) A (execs body env) (UnrPost h₀ env.locals { s with heap := h, toks := tk } I (itR (0 + ((j + 1 : Nat) : Int)) ((c : Int) - ((j + 1 : Nat) : Int))) (HandsAt lH rest S K (j + 1)) Q) E s₂) E { s with heap := h, toks := tk })
    (done : ∀ (m' : Str → Option Value) (P S' : List Int) (hs : List Value) (n : Nat) (tx : Tok) h tk, S = P ++ S' → P.length = c → IntsAre hs P → m' (Str.ofString "text") = some (.str (textOf S') tx) → m' (Str.ofString "hands") = some (.ref lH) → K m' → Fr h₀ env.locals h m' → News h₀ env.locals h ((lH, W.listOf hs.toArray n) :: rest) → Q .next { s with heap := h, toks := tk })
    (ht : ∀ it v, letOwnedTupleGo target it v = pure () := by intro _ _; rfl) :
    wpAny (model prog w) A (pyIter (.ref r)) (fun it s₂ => codeAny (model prog w) A (.forLoop target it body [] env) (fun r s' => match r with | .ok f => Q f s' | .error e => cameBackBy (model prog w) A env E e s') s₂) E s := by
  refine iter_rangeC (n := c) (HandsAt lH rest S K) hh R (rng8 _ (by omega)).2 (rng8 _ (by omega)).1 F (fun p hp => N p (.tail _ hp)) hE ⟨[], S, [], nH, tx, rfl, rfl, .nil, rfl, h1, h2, h3⟩ (fun I i m' nw h tk t' hI hi hP F' N' off => ?_) (fun m' nw h tk hP F' N' => ?_) ht
  · obtain ⟨P, S', hs, n, tx, e1, e2, e3, rfl, e5, e6, e7⟩ := hP
    exact turn I i m' P S' hs n tx h tk t' (hI _ (.head _)) (fun p hp => off p (.tail _ hp)) hi e1 e2 e3 e5 e6 e7 F' N'
  · obtain ⟨P, S', hs, n, tx, e1, e2, e3, rfl, e5, e6, e7⟩ := hP
    exact done m' P S' hs n tx h tk e1 e2 e3 e5 e6 e7 F' N'
end
theorem seq_turn {prog : Program} {w : World} {A : Around} {E : Value → Shared → Prop} {s : Shared} {env : Env} {st : Stmt} {more : List Stmt} {Q : Flow → Shared → Prop} {h₀ : Heap} {L lH I : Addr} {o it : Obj} {news : List (Addr × Obj)}
    (N : News h₀ L s.heap ((lH, o) :: (I, it) :: news)) (a : Addr) (t : Int) (tt : Tok) (d x : Int) (S S' : List Int)
    (h1 : wpAny (model prog w) A (exec st env) (fun f s' => match f with | .next => TurnMid h₀ L I it news a t tt d x S S' s s' | f => Q f s') E s)
    (h2 : ∀ s', TurnMid h₀ L I it news a t tt d x S S' s s' → wpAny (model prog w) A (execs more env) Q E s') : wpAny (model prog w) A (execs (st :: more) env) Q E s :=
  wpAny_execs_cons (wpAny_mono h1 (fun f s' h => by
    cases f <;> first | exact h2 _ h | exact h) fun _ _ e => e)


local macro_rules | `(tactic| k_all) => `(tactic| assumption)
theorem rows_T1_0 : True := by
  k_with_none
  (k_with "my enter" => ((case kA => exact rfl); (case kF => exact rfl); (case kK => assumption); (case k1 => k_asm); (case k2 => k_asm); (case k3 => k_asm); (case k4 => k_asm); (case k5 => k_asm); (case k6 => k_is); (case k7 => k_is); (case k8 => ktr_room); (case k9 => exact BindsTo.of_eq rfl); (case c5 => decide); (case kB => exact rfl); (case c2 => exact rfl); (case c3 => exact rfl); (case c4 => exact rfl); k_whole; intro g' L' h' tk0 FG' F' N' B' X' T'; (try dsimp only [List.reverse_cons, List.reverse_nil, List.nil_append, List.cons_append] at F'); (try dsimp only); (try k_lift B'); (try k_fold)))
  (k_with "my sub" => (intro p hp; repeat (first | exact hp | refine List.mem_cons_of_mem _ ?_ | refine List.mem_append_right _ ?_)))
  (k_with "my use" => ((case k1 => k_asm); (case k2 => k_asm); (case k3 => k_asm); (case k4 => k_asm); (case k5 => k_asm); (case kK => first | exact rfl | assumption); (case kd => ktr_room); (case ku => ktr_units)))
  (k_with "my got str" => (intro r9 tl9 h9 tk9 F9 N9 p9; obtain ⟨e9, t9, e8⟩ := p9; subst e9; subst e8; simp only [List.nil_append] at N9; (try dsimp only); (try k_fold)))
  (k_with "call ref" => (k_here; (with_reducible show wpAny _ _ (call (Value.ref 28) [Value.ref _]) _ _ _); k_dflt (refine' Con.use (con_build_nn w mean mg mb _ _) ?k1 ?k2 ?k3 ?k4 ?k5 ?kK ?kp ?kd ?ku ?_; walk_at "my use"; (case kp => (try dsimp only); k_mem); walk_at "my got str")))
  (k_with "call ref" => (k_here; (with_reducible show wpAny _ _ (call (Value.ref 28) [Value.ref _]) _ _ _); k_dflt (refine' Con.use (con_push w mean mg mb _ _ _ _ _ ?hx ?hv _) ?k1 ?k2 ?k3 ?k4 ?k5 ?kK ?kp ?kd ?ku ?_; walk_at "my use"; (case kp => (try dsimp only); k_mem); (case hx => assumption); (case hv => assumption); walk_at "my got str")))
  (k_with "call ref" => (k_here; (with_reducible show wpAny _ _ (call (Value.ref 28) [Value.ref _]) _ _ _); k_dflt (refine' Con.use (con_push0 w mean mg mb _ _ _ ?hv _) ?k1 ?k2 ?k3 ?k4 ?k5 ?kK ?kp ?kd ?ku ?_; walk_at "my use"; (case kp => (try dsimp only); k_mem); (case hv => assumption); walk_at "my got str")))
  (k_with "call ref" => (k_here; (with_reducible show wpAny _ _ (call (Value.ref 28) [Value.ref _]) _ _ _); k_dflt (refine' Con.use (con_build_sn w mean mg mb _ _ _ _) ?k1 ?k2 ?k3 ?k4 ?k5 ?kK ?kp ?kd ?ku ?_; walk_at "my use"; (case kp => (try dsimp only); k_mem); walk_at "my got str"; (try rw [textOf_cut]))))
  (k_with "call ref" => (k_here; (with_reducible show wpAny _ _ (call (Value.ref 70) [Value.str (textOf (_ :: _)) _, Value.int _ _]) _ _ _); k_dflt (refine' Con.use (con_last_cons w mean mg mb _ _ _ _ _ ?lx ?l0 ?lk) ?k1 ?k2 ?k3 ?k4 ?k5 ?kK ?kp ?kd ?ku ?_; walk_at "my use"; (case kp => exact True.intro); (case lx => assumption); (case l0 => omega); (case lk => omega); walk_at "my got str")))
  (k_with "call ref" => (k_here; (with_reducible show wpAny _ _ (call (Value.ref 70) [Value.str (textOf []) _, Value.int _ _]) _ _ _); k_dflt (refine' Con.use (con_last_nil w mean mg mb _ _ _ ?l0 ?lk) ?k1 ?k2 ?k3 ?k4 ?k5 ?kK ?kp ?kd ?ku ?_; walk_at "my use"; (case kp => exact True.intro); (case l0 => omega); (case lk => omega); walk_at "my got str")))
  (k_with "call ref" => (k_here; (with_reducible show wpAny _ _ (call (Value.ref 35) [Value.int _ _, Value.int _ _]) _ _ _); (have hd0 : d = 0 := by omega); (subst hd0); k_dflt (refine' Con.use (con_add w mean mg mb _ _ _ _) ?k1 ?k2 ?k3 ?k4 ?k5 ?kK ?kp ?kd ?ku ?_; walk_at "my use"; (case kp => exact True.intro); walk_at "my got str")))
  (k_with "call ref" => (k_here; (with_reducible show wpAny _ _ (call (Value.ref 56) [Value.int _ _, Value.int _ _]) _ _ _); (have hd0 : d = 1 := by omega); (subst hd0); k_dflt (refine' Con.use (con_sub w mean mg mb _ _ _ _) ?k1 ?k2 ?k3 ?k4 ?k5 ?kK ?kp ?kd ?ku ?_; walk_at "my use"; (case kp => exact True.intro); walk_at "my got str")))
  (k_with "call ref" => (k_here; (with_reducible show wpAny _ _ (call (Value.ref 42) [Value.int _ _, Value.int _ _]) _ _ _); (have hd0 : d = 2 := by omega); (subst hd0); k_dflt (refine' Con.use (con_mul w mean mg mb _ _ _ _ ?ha ?hb) ?k1 ?k2 ?k3 ?k4 ?k5 ?kK ?kp ?kd ?ku ?_; walk_at "my use"; (case kp => exact True.intro); (case ha => assumption); (case hb => assumption); walk_at "my got str")))
  (k_with "call ref" => (k_here; (with_reducible show wpAny _ _ (call (Value.ref 49) [Value.int _ _]) _ _ _); k_dflt (refine' Con.use (con_neg w mean mg mb _ _) ?k1 ?k2 ?k3 ?k4 ?k5 ?kK ?kp ?kd ?ku ?_; walk_at "my use"; (case kp => exact True.intro); walk_at "my got str")))
  (k_with "call ref" => (k_here; (with_reducible show wpAny _ _ (call (Value.ref 49) [Value.int _ _]) _ _ _); exfalso; omega))
  (k_with "compareOp Eq str str" => (k_here; (with_reducible show wpAny _ _ (compareOp CmpOp.Eq (Value.str (textOf (_ :: _)) _) (Value.str _ _)) _ _ _); k_dflt (refine eqC_cons ?_)))
  (k_with "compareOp Eq str str" => (k_here; (with_reducible show wpAny _ _ (compareOp CmpOp.Eq (Value.str (Str.mk (List.toArray (digs _))) _) (Value.str _ _)) _ _ _); k_dflt (refine eqC_digs ?_)))
  (k_with "compareOp Eq str str" => (k_here; (with_reducible show wpAny _ _ (compareOp CmpOp.Eq (Value.str (textOf []) _) (Value.str _ _)) _ _ _); k_dflt (refine eqC_nil ?_)))
  (k_with "compareOp Eq str str" => (k_here; (with_reducible show wpAny _ _ (compareOp CmpOp.Eq (Value.str (Str.ofString "C") _) (Value.str _ _)) _ _ _); k_dflt (refine eqC_C ?_)))
  (k_with "call type:int" => (k_here; (with_reducible show wpAny _ _ (call (Value.type _) [Value.str (Str.mk (List.toArray (digs _))) _]) _ _ _); k_dflt (refine int_digs (by assumption) ?_)))
  (k_with "subscriptTail" => (k_here; (with_reducible show wpAny _ _ (subscriptTail _ _ (Value.ref _) (Value.int _ _)) _ _ _); k_dflt (with_unfolding_all refine' item_lit ?iN ?im ?ia ?ib ?ic ?_ ?id; (case iN => k_asm); (case im => k_mem); (case ia => decide); (case ib => decide); (case ic => exact rfl); (case id => with_unfolding_all rfl); k_whole)))
  (k_with "subscriptTail Name Constant ref int" => (k_here; (with_reducible show wpAny _ _ (subscriptTail _ _ (Value.ref _) (Value.int _ _)) _ _ _); k_dflt (with_unfolding_all refine' item_lit ?iN ?im ?ia ?ib ?ic ?_ ?id; (case iN => k_asm); (case im => k_mem); (case ia => decide); (case ib => decide); (case ic => exact rfl); (case id => with_unfolding_all rfl); k_whole)))
  (k_with "call builtin:len" => (k_here; (with_reducible show wpAny _ _ (call (Value.builtin "len") [Value.str _ _]) _ _ _); k_dflt (refine SBL.len (by omega) ?_)))
  (k_with "subscriptTail" => (k_here; (with_reducible show wpAny _ _ (subscriptTail (Expr.Name (Str.ofString "deeds") _) _ (Value.ref _) (Value.int _ _)) _ _ _); refine Stop.go ?_))
  (k_with "pyIter ref" => (k_here; (with_reducible show wpAny _ _ (pyIter (Value.ref _)) (fun it s₂ => LoopAtV _ _ _ _ _ (Str.ofString "step") _ _ _ it s₂) _ _); refine Stop.go ?_))
  (k_with "subscriptTail" => (k_here; (with_reducible show wpAny _ _ (subscriptTail _ _ (Value.ref _) (Value.int d _)) _ _ _); k_dflt (refine' item_needs ?jN ?jm ?ja ?jb ?_ ?jd; (case jN => k_asm); (case jm => k_mem); (case ja => exact hd.1); (case jb => exact hd.2.1); (case jd => with_unfolding_all rfl); intro t₅)))
  (k_with "subscriptTail" => (k_here; (with_reducible show wpAny _ _ (subscriptTail (Expr.Name (Str.ofString "deeds") _) _ (Value.ref _) (Value.int _ _)) _ _ _); refine Stop.go ?_))
  (k_with "exec For Name Call cons nil" => (k_here; (with_reducible show wpAny _ _ (exec (Stmt.For (Expr.Name (Str.ofString "hand") _) _ _ _ _) _) _ _ _); k_dflt (refine For_C ?_)))
  (k_with "pyIter ref" => (k_here; (with_reducible show wpAny _ _ (pyIter (Value.ref _)) (fun it s₂ => codeAny _ _ _ _ _) _ _); refine Stop.go ?_))
  (k_with "UnrEnd" => (k_here; refine Stop.go ?_))
  (k_with "TurnMid" => (k_here; refine Stop.go ?_))
  (k_with "call builtin:list.append" => (k_here; (with_reducible show wpAny _ _ (call (Value.builtin _) [Value.ref _, Value.int _ _]) _ _ _); k_dflt (refine append_led (by k_asm) (by k_asm) (by k_upd) hz7 ?_); intro hz₁ Fz₁ Nz₁))
  trivial
theorem con_turn (w mean mg mb) (a : Addr) (t : Int) (tt : Tok) (D : List (Int × Int)) (hD : DeedsOk D) (ht0 : 0 ≤ t) (ht1 : t < 8) : Con w mean mg mb 77 [.ref a, .int t tt] 3 40
    (fun news => DeedsAt news a D) (fun _ tl r => tl = [] ∧ (match runN D t.toNat 8 with | some S => ∃ t', r = .str (textOf S) t' | none => r = .none)) := by
  unfold Con
  k_fill
  intro dp un gd cn cs a' ccd cl outer A₀ base h₀ L m news s Q E B F X N T hk hp hd' hu hret
  refine wpAny_call ?_
  k_dflt (refine' enter_def [("deeds", .ref a), ("turn", .int t tt)] ?k1 ?k2 ?k3 ?k4 ?k5 ?kA ?kF ?kK ?k6 ?k7 ?k8 ?k9 ?kB ?c2 ?c3 ?c4 ?c5 ?_)
  walk_at "my enter"
  k_steps
  refine Stop.on ?_
  (rename Fr _ _ _ _ => lF'); (rename News _ _ _ _ => lN'); (rename IsRange _ _ _ _ _ _ _ _ => lR')
  (with_unfolding_all refine iter_rangeUnr (n := 8) (by rfl) lR' (by first | decide | rfl) (by first | decide | rfl) lF' lN' ?_)
  clear lF' lN'
  intro i' l1
  have hoff := fun p hp => Nat.ne_of_lt (l1 p hp)
  (try k_lt l1)
  refine rest_ind (fun i m => ∃ S, runN D t.toNat i = some S ∧ (∃ t', m (Str.ofString "text") = some (.str (textOf S) t')) ∧ m (Str.ofString "deeds") = some (.ref a) ∧ m (Str.ofString "turn") = some (.int t tt)) ⟨[], rfl, ⟨_, congrArg (fun x => some (Value.str x _)) textOf_nil.symm⟩, rfl, rfl⟩ (fun i m t₂ h₂ tk₂ rest it hi hP F₂ N₂ hrest => ?_) (fun m h₂ tk₂ hP F₂ N₂ => ?_)
  rotate_left
  · obtain ⟨S, hS, ⟨t', hm⟩, h1, h2⟩ := hP
    rw [map_at hm] at F₂
    (try dsimp only)
    k_steps
    refine hret _ [] _ _ (by assumption) (cb_drop (by assumption) (by walk_at "my sub")) ⟨rfl, ?_⟩
    rw [hS]
    exact ⟨_, rfl⟩
  · obtain ⟨S, hS, ⟨t', hm⟩, h1, h2⟩ := hP
    obtain ⟨vs, nn, hmem, hvl, hvs⟩ := hp
    clear lR'
    rw [map_at h2, map_at h1, map_at hm] at F₂
    dsimp only at F₂
    clear hm h1 h2
    have hb := runN_bd (fun k => (hD k).2.2) hS
    have hb60 : Bd S 60 := hb.1.mono (by omega)
    have hl8 : S.length ≤ 8 := Nat.le_trans hb.2 (by omega)
    k_steps
    refine Stop.on ?_
    have km1 : 0 ≤ (t + (0 + (i : Int))).fmod 8 := Int.fmod_nonneg_of_pos _ (by decide)
    have km2 : (t + (0 + (i : Int))).fmod 8 < 8 := Int.fmod_lt_of_pos _ (by decide)
    have km3 : ((t + (0 + (i : Int))).fmod 8).toNat = (t.toNat + i) % 8 := by
      rw [Int.fmod_eq_emod_of_nonneg _ (by decide)]; omega
    with_unfolding_all refine item_list0 (by assumption) (List.Mem.tail _ (List.Mem.tail _ hmem)) km1 (by omega) (by omega) ?_
    intro v hv
    obtain ⟨b, n', t1, t2, rfl, hmb⟩ := hvs _ _ hv
    rw [km3] at hmb
    have hd := hD ((t.toNat + i) % 8)
    have hE : ∀ S', stepD (D.getD ((t.toNat + i) % 8) (4, 0)).1 (D.getD ((t.toNat + i) % 8) (4, 0)).2 S = S' → runN D t.toNat (i + 1) = S' := fun S' e => by
      show (runN D t.toNat i).bind _ = _
      rw [hS]; exact e
    clear hv km1 km2 km3
    generalize (D.getD ((t.toNat + i) % 8) (4, 0)).1 = d at *
    generalize (D.getD ((t.toNat + i) % 8) (4, 0)).2 = x at *
    have hx : x.natAbs ≤ 10 ^ 60 := Nat.le_trans hd.2.2 (Nat.pow_le_pow_right (by decide) (by decide))
    have hS' : ∀ S', stepD d x S = some S' → Bd S' 60 := fun S' e => (stepD_bd hb.1 hd.2.2 e).1.mono (by omega)
    have hT1 := text_len hb60 (by decide) (by decide) hl8
    clear hS hvs hvl
    have hn2 := needs_le d
    k_steps
    refine Stop.on ?_
    refine iter_hands S (fun m => (∃ t, m (Str.ofString "deed") = some (.int d t)) ∧ (∃ t, m (Str.ofString "value") = some (.int x t)) ∧ m (Str.ofString "deeds") = some (.ref a) ∧ m (Str.ofString "turn") = some (.int t tt) ∧ ∃ u, m (Str.ofString "step") = some (.int (0 + (i : Int)) u)) (by rfl) (by assumption) hn2 (by k_asm) (by k_asm) (allLt_ne (by assumption)) (by passes_own) (by with_unfolding_all rfl) (by with_unfolding_all rfl) ⟨⟨_, by with_unfolding_all rfl⟩, ⟨_, by with_unfolding_all rfl⟩, by with_unfolding_all rfl, by with_unfolding_all rfl, _, by with_unfolding_all rfl⟩
      (fun I j m₃ P S' hs n₃ tx₃ h₃ tk₃ t₃ hlI hoI hj hSP hPl hIA e1 e2 hK F₃ N₃ => ?_) (fun m₃ P S' hs n₃ tx₃ h₃ tk₃ hSP hPl hIA e1 e2 hK F₃ N₃ => ?_)
    · obtain ⟨k1, k2, k3, k4, u, k5⟩ := hK
      rw [map_at k5, map_at k4, map_at e2, map_at e1] at F₃
      dsimp only at F₃
      cases S' with
      | nil =>
        k_steps
        all_goals (refine hret _ [] _ _ (by assumption) (cb_drop (by assumption) (by walk_at "my sub")) ⟨rfl, ?_⟩; rw [runN_dead8 (hE none (stepD_few (by rw [hSP, List.append_nil, hPl]; exact hj))) (by omega)])
      | cons p S' =>
        have hb' : Bd (p :: S') 60 := Bd.suffix (P := P) (hSP ▸ hb60)
        have hl' : (p :: S').length ≤ 8 := by have := congrArg List.length hSP; rw [List.length_append] at this; omega
        have hv1 := hb'.val
        have hG1 := digs_le hv1 (Nat.le_refl _)
        have hlI2 := ltN hlI
        have hz7 : hs.length ≤ 1000 := by have := IntsAre.length hIA; omega
        have hT2 := text_len hb' (by decide) (by decide) hl'
        k_steps
        refine Stop.on ?_
        refine HandsAt.turn (by assumption) (by assumption) (by walk_at "my sub") (Nat.ne_of_lt hlI) hoI hSP hPl hIA (by with_unfolding_all rfl) (by with_unfolding_all rfl) ?_
        with_unfolding_all exact ⟨k1, k2, k3, rfl, _, rfl⟩
    · obtain ⟨⟨u1, k1⟩, ⟨u2, k2⟩, k3, k4, _⟩ := hK
      rw [map_at k4, map_at k3, map_at k2, map_at k1, map_at e2, map_at e1] at F₃
      dsimp only at F₃
      refine seq_turn N₃ a t tt d x S S' ?_ ?_
      · have hlP := congrArg List.length hSP
        have hd5 : d = 4 ∨ d = 3 ∨ (0 ≤ d ∧ d ≤ 2) := by omega
        rcases hd5 with rfl | rfl | hd2
        · obtain rfl := List.eq_nil_of_length_eq_zero hPl
          obtain rfl : S = S' := hSP
          k_steps
          refine Stop.on ?_
          exact TurnMid.intro (by assumption) (by assumption) (by walk_at "my sub") (by with_unfolding_all rfl) (by with_unfolding_all rfl) (by with_unfolding_all rfl) (by with_unfolding_all rfl) rfl (hS' _ rfl)
        · obtain ⟨p, rfl⟩ := List.length_eq_one_iff.mp hPl
          obtain rfl : S = p :: S' := hSP
          cases hIA with | cons _ tp hIA => ?_
          cases hIA
          k_steps
          refine Stop.on ?_
          exact TurnMid.intro (by assumption) (by assumption) (by walk_at "my sub") (by with_unfolding_all rfl) (by with_unfolding_all rfl) (by with_unfolding_all rfl) (by with_unfolding_all rfl) rfl (hS' _ rfl)
        · have hn2 : needs d = 2 := by unfold needs; rw [if_neg (by omega), if_neg (by omega)]
          rw [hn2] at hPl
          obtain ⟨p, q, rfl⟩ : ∃ p q, P = [p, q] := (match P, hPl with | [p, q], _ => ⟨p, q, rfl⟩)
          obtain rfl : S = p :: q :: S' := hSP
          cases hIA with | cons _ tp hIA => ?_
          cases hIA with | cons _ tq hIA => ?_
          cases hIA
          have hv1 := hb60.val
          have hv2 := hb60.tail.val
          k_steps
          all_goals
            refine Stop.on ?_
            exact TurnMid.intro (by assumption) (by assumption) (by walk_at "my sub") (by with_unfolding_all rfl) (by with_unfolding_all rfl) (by with_unfolding_all rfl) (by with_unfolding_all rfl) rfl (hS' _ rfl)
      · rintro s' ⟨v, tv, t₆, h₆, tk₆, m₆, rfl, F₆, N₆, f1, f2, f3, f4, f5, f6⟩
        rw [map_at f4, map_at f3, map_at f2, map_at f1] at F₆
        dsimp only at F₆
        have hT2 := text_len (Bd.suffix (P := P) (hSP ▸ hb60)) (by decide) (by decide) (by have := congrArg List.length hSP; rw [List.length_append] at this; omega)
        cases S'
        all_goals
          k_steps
          refine Stop.on ?_
          refine' UnrEnd.intro (by assumption) (by assumption) _ (by walk_at "my sub") hoff (hrest _ ⟨_, hE _ f5, ⟨_, ?r1⟩, ?r2, ?r3⟩)
          (case r1 => with_unfolding_all rfl)
          (case r2 => with_unfolding_all rfl)
          (case r3 => with_unfolding_all rfl)
end Mine
end
section
open PySem PySem.W PyProof.Rows
set_option Elab.async false
set_option maxRecDepth 100000
set_option maxHeartbeats 8000000
namespace Mine
set_option maxHeartbeats 2000000
local macro_rules | `(tactic| k_all) => `(tactic| assumption)
theorem rows_deeds_0 : True := by
  k_with_none
  (k_with "my enter" => ((case kA => exact rfl); (case kF => exact rfl); (case kK => assumption); (case k1 => k_asm); (case k2 => k_asm); (case k3 => k_asm); (case k4 => k_asm); (case k5 => k_asm); (case k6 => k_is); (case k7 => k_is); (case k8 => ktr_room); (case k9 => exact BindsTo.of_eq rfl); (case c5 => decide); (case kB => exact rfl); (case c2 => exact rfl); (case c3 => exact rfl); (case c4 => exact rfl); k_whole; intro g' L' h' tk0 FG' F' N' B' X' T'; (try dsimp only [List.reverse_cons, List.reverse_nil, List.nil_append, List.cons_append] at F'); (try dsimp only); (try k_lift B'); (try k_fold)))
  (k_with "my sub" => (intro p hp; repeat (first | exact hp | refine List.mem_cons_of_mem _ ?_ | refine List.mem_append_right _ ?_)))
  (k_with "my use" => ((case k1 => k_asm); (case k2 => k_asm); (case k3 => k_asm); (case k4 => k_asm); (case k5 => k_asm); (case kK => first | exact rfl | assumption); (case kd => ktr_room); (case ku => ktr_units)))
  (k_with "my got str" => (intro r9 tl9 h9 tk9 F9 N9 p9; obtain ⟨e9, t9, e8⟩ := p9; subst e9; subst e8; simp only [List.nil_append] at N9; (try dsimp only); (try k_fold)))
  (k_with "my enterC" => ((case kA => exact rfl); (case kF => exact rfl); (case kK => assumption); (case k1 => k_asm); (case k2 => k_asm); (case k3 => k_asm); (case k4 => k_asm); (case k5 => k_asm); (case k6 => k_is); (case k7 => k_is); (case k8 => ktr_room); (case k9 => exact BindsTo.of_eq rfl); (case kB => exact rfl); (case kD => decide +kernel); (case c2 => exact rfl); (case c3 => exact rfl); (case c4 => exact rfl); k_whole; intro g' L' h' tk' cells' FG' F' N' Y' B' X' T' l1; (try k_lt l1); k_cells Y'; (try simp only [List.cons_append, List.nil_append] at N'); (try dsimp only); (try k_lift B'); (try k_fold)))
  (k_with "subscriptTail" => (k_here; (with_reducible show wpAny _ _ (subscriptTail _ _ (Value.ref _) (Value.int _ _)) _ _ _); k_dflt (with_unfolding_all refine' item_lit ?iN ?im ?ia ?ib ?ic ?_ ?id; (case iN => k_asm); (case im => k_mem); (case ia => decide); (case ib => decide); (case ic => exact rfl); (case id => with_unfolding_all rfl); k_whole)))
  (k_with "subscriptTail Name Constant ref int" => (k_here; (with_reducible show wpAny _ _ (subscriptTail _ _ (Value.ref _) (Value.int _ _)) _ _ _); k_dflt (with_unfolding_all refine' item_lit ?iN ?im ?ia ?ib ?ic ?_ ?id; (case iN => k_asm); (case im => k_mem); (case ia => decide); (case ib => decide); (case ic => exact rfl); (case id => with_unfolding_all rfl); k_whole)))
  (k_with "subscriptTail" => (k_here; (with_reducible show wpAny _ _ (subscriptTail _ _ (Value.ref _) (Value.int d _)) _ _ _); k_dflt (refine' item_two ?jN ?jm ?ja ?jb ?_ ?jd; (case jN => k_asm); (case jm => k_mem); (case ja => omega); (case jb => omega); (case jd => with_unfolding_all rfl); intro t₅)))
  (k_with "call type:enumerate" => (k_here; refine Stop.go ?_))
  (k_with "exec For Tuple Call cons nil" => (k_here; (rename Fr _ _ _ _ => lF'); k_dflt (refine For_turns lF' ?_)))
  (k_with "exec For Name Name cons nil" => (k_here; (rename Fr _ _ _ _ => lF'); k_dflt (refine For_turns lF' ?_)))
  (k_with "pyIter ref" => (k_here; (with_reducible show wpAny _ _ (pyIter (Value.ref _)) (fun it s₂ => TurnsAt _ _ _ _ _ _ _ _ _ it s₂) _ _); refine Stop.go ?_))
  (k_with "getItem ref int" => (k_here; (with_reducible show wpAny _ _ (getItem (Value.ref _) (Value.int _ _)) _ _ _); k_dflt (refine ksa_get (by k_asm) (by k_mem) hia hf0 hf1 hf2 ?_); intro tg))
  (k_with "setItem ref int" => (k_here; (with_reducible show wpAny _ _ (setItem (Value.ref _) (Value.int _ _) (Value.int _ _)) _ _ _); k_dflt (refine ksa_set (by k_asm) (by k_asm) (by k_upd) hia hf0 hf1 hf2 ?_); intro hs₁ Fs₁ Ns₁ hIs hLs hSs))
  (k_with "call builtin:list.append" => (k_here; (with_reducible show wpAny _ _ (call (Value.builtin _) [Value.ref _, Value.ref _]) _ _ _); k_dflt (refine append_led (by k_asm) (by k_asm) (by k_upd) (by rw [hPA.1]; omega) ?_); intro hz₁ Fz₁ Nz₁))
  trivial
theorem con_deeds (w mean mg mb) (a : Addr) (vs : List Value) (ns : List Int) (hi : IntsAre vs ns) (hn : ns.length ≤ 1000) : ConH w mean mg mb 63 [.ref a] 6 80
    (fun h₀ news => h₀.IsList a vs.toArray) (fun news tl r => ∃ a' D, r = .ref a' ∧ DeedsOk D ∧ DeedsAt (tl ++ news) a' D) := by
  unfold ConH
  k_fill
  intro dp un gd cn cs a' ccd cl outer A₀ base h₀ L m news s Q E B F X N T hk hp hd' hu hret
  refine wpAny_call ?_
  k_dflt (refine' enter_def [("script", .ref a)] ?k1 ?k2 ?k3 ?k4 ?k5 ?kA ?kF ?kK ?k6 ?k7 ?k8 ?k9 ?kB ?c2 ?c3 ?c4 ?c5 ?_)
  walk_at "my enter"
  have hl' : g'.IsList a vs.toArray := hp.at fun o e => FG'.keep a o e
  k_steps
  refine Stop.on ?_
  refine enum_drawn (by rfl) (by k_asm) (by k_asm) (by assumption) ⟨_, .cons _ _ (.cons _ _ (.cons _ _ (.cons _ _ (.cons _ _ (.cons _ _ (.cons _ _ (.cons _ _ .nil))))))), rfl⟩ (by with_unfolding_all rfl) (fun I oa ob i x tx m₁ dv n₁ T₁ t h tk hc1 hc2 hI h8 hmd hT F₁ N₁ => ?_) (fun m₁ dv n₁ h tk h8 hmd F₁ N₁ => ?_)
  · rw [map_at hmd] at F₁
    have lI := allLt_of hI
    simp only [AllLt] at lI
    obtain ⟨is, hia, hl8⟩ := h8
    have hf0 : 0 ≤ ((i : Int)).fmod 8 := Int.fmod_nonneg_of_pos _ (by decide)
    have hf3 : ((i : Int)).fmod 8 < 8 := Int.fmod_lt_of_pos _ (by decide)
    have hf1 : ((i : Int)).fmod 8 < is.length := by omega
    have hf2 : ((i : Int)).fmod 8 < 2 ^ 63 := by omega
    k_steps
    refine ⟨_, _, _, _, rfl, Fs₁, Ns₁, fun p hp q hq => ?_, _, _, rfl, ⟨_, hIs, hLs.trans hl8⟩, by with_unfolding_all rfl⟩
    have hpI : p.1 < I := by
      rcases List.mem_cons.mp hp with rfl | hp
      · exact lI.1
      · rcases List.mem_cons.mp hp with rfl | hp
        · exact lI.2.1
        · exact allLt_mem lI.2.2 p hp
    rcases List.mem_cons.mp hq with rfl | hq
    · exact Nat.ne_of_lt (Nat.lt_succ_of_lt hpI)
    · rw [List.mem_singleton.mp hq]; exact Nat.ne_of_lt hpI
  · rw [map_at hmd] at F₁
    k_steps
    refine Stop.on ?_
    refine iter_drawn (by rfl) (by k_asm) (by k_asm) (by k_mem) (by with_unfolding_all rfl) (allLt_mem (by assumption)) h8 (fun I oI x tx m₂ tsv nt rest' Dl h tk hdI hno hnI hmd2 hPA hDl F₂ N₂ => ?_) (fun m₂ tsv nt rest' Dl h tk hDl hOk hmd2 hPA hsub F₂ N₂ => ?_)
    · rw [map_at hmd2] at F₂
      have hdI2 := ltN hdI
      k_steps
      all_goals (refine UnrEndW1 (by assumption) (by assumption) (by refine ltN ?_; (try dsimp only); omega) (by refine ltN ?_; (try dsimp only); omega) hdI hno hnI hPA (by first | exact pairOk1 x | exact pairOk2 x) (by with_unfolding_all rfl))
    · rw [map_at hmd2] at F₂
      k_steps
      (rename News h₀ L _ ((_, W.listOf tsv.toArray nt) :: rest') => kN9)
      refine hret _ ((_, W.listOf tsv.toArray nt) :: rest') _ _ (by assumption) (fun p hp => (List.mem_append.mp hp).elim (fun hx => ?_) (fun hx => ?_)) ⟨_, Dl, rfl, pairs_ok hOk, hPA.deeds hDl (.head _) (fun p hp => List.mem_append_left _ (.tail _ hp))⟩
      · exact kN9 p hx
      · exact kN9 p (.tail _ (hsub p (.tail _ (.tail _ hx))))
end Mine
end
section
open PySem PySem.W PyProof.Rows PySem.Calls PySem.Spec
set_option maxRecDepth 100000
namespace Mine
def dataOf (o : Option (List Int)) : PyData := match o with | some S => .str (textOf S) | none => .none
theorem DueAt.reads {h : Heap} {v : Value} {o : Option (List Int)} (x : DueAt v o) : Reads h v (dataOf o) [] := by
  cases o with
  | none => have e : v = .none := x; subst e; exact .none
  | some S => obtain ⟨t, e⟩ : ∃ t', v = .str (textOf S) t' := x; subst e; exact .str _ _
/-- a list of eight dues -/
def DuesList (dv : List Value) (D : List (Int × Int)) : Prop := dv.length = 8 ∧ ∀ t, t < 8 → ∀ v, dv[t]? = some v → DueAt v (runN D t 8)
theorem dues_reads {h : Heap} {os : List (Option (List Int))} : ∀ {dv : List Value}, dv.length = os.length → (∀ (t : Nat) (v : Value) (o : Option (List Int)), dv[t]? = some v → os[t]? = some o → DueAt v o) → ReadsAll h dv (os.map dataOf) [] := by
  induction os with
  | nil => intro dv e _; cases dv with | nil => exact .nil | cons _ _ => cases e
  | cons o os ih =>
    intro dv e hd
    cases dv with
    | nil => cases e
    | cons v dv =>
      exact readsAll_cons_val (hd 0 v o rfl rfl).reads (ih (by simpa using e) fun t v' o' h1 h2 => hd (t + 1) v' o' h1 h2)
theorem data_ok (os : List (Option (List Int))) : PyData.canLayAll0 (os.map dataOf) = true ∧ PyData.depthAll (os.map dataOf) = 0 := by
  induction os with
  | nil => exact ⟨rfl, rfl⟩
  | cons o os ih =>
    have h1 : PyData.canLay0 (dataOf o) = true ∧ PyData.depth (dataOf o) = 0 := by
      cases o with
      | none => exact ⟨rfl, rfl⟩
      | some S =>
        refine ⟨?_, rfl⟩
        show PySem.PyData.strOk (textOf S) = true
        unfold PySem.PyData.strOk
        rw [Array.all_eq_true']
        intro c hc
        have hr : c ∈ rend S := by simpa [textOf] using hc
        have : c < 1114112 := by
          clear hc
          induction S with
          | nil => have : c = 67 := by simpa [rend] using hr
                   omega
          | cons v S ihS =>
            rcases List.mem_append.mp hr with hr | hr
            · exact ihS hr
            · rcases List.mem_cons.mp hr with rfl | hr
              · decide
              · have := digs_code hr; omega
        simpa using this
    refine ⟨?_, ?_⟩
    · show (PyData.canLay0 (dataOf o) && PyData.canLayAll0 (os.map dataOf)) = true
      rw [h1.1, ih.1]; rfl
    · show max (PyData.depth (dataOf o)) (PyData.depthAll (os.map dataOf)) = 0
      rw [h1.2, ih.2]; rfl
section
variable {prog : Program} {w : World} {A : Around} {E : Value → Shared → Prop} {s : Shared} {h₀ : Heap} {L l1 l2 : Addr} {news : List (Addr × Obj)} {Q : Value → Shared → Prop}
theorem ne_dues {D : List (Int × Int)} {dv ew : List Value} {n1 n2 : Nat} (N : News h₀ L s.heap news) (m1 : (l1, W.listOf dv.toArray n1) ∈ news) (m2 : (l2, W.listOf ew.toArray n2) ∈ news) (d1 : DuesList dv D) (d2 : DuesList ew D) (hu : A.units + 64 < cLine)
    (h : Q (.bool false) s) : wpAny (model prog w) A (compareOp .NotEq (.ref l1) (.ref l2)) Q E s := by
  have key : ∀ {x : List Value}, DuesList x D → ∀ {l : Addr} {n : Nat}, (l, W.listOf x.toArray n) ∈ news → Reads s.heap (.ref l) (.list (((List.range 8).map fun t => runN D t 8).map dataOf)) [l] := by
    intro x hx l n hm
    refine reads_list_at (N _ hm).1 rfl rfl (dues_reads (by simpa using hx.1) fun t v o h1 h2 => ?_)
    have ht : t < 8 := by have := (List.getElem?_eq_some_iff.mp h1).1; have h8 := hx.1; simp at this; omega
    rw [List.getElem?_map, List.getElem?_range ht] at h2
    have e : o = runN D t 8 := by simpa using h2.symm
    rw [e]
    exact hx.2 t ht v (by simpa using h1)
  have ok := data_ok ((List.range 8).map fun t => runN D t 8)
  have sh : SeqAt.shaped (.list (((List.range 8).map fun t => runN D t 8).map dataOf)) = true := by
    unfold SeqAt.shaped
    rw [Bool.and_eq_true]
    refine ⟨ok.1, ?_⟩
    have e : PyData.depth (.list (((List.range 8).map fun t => runN D t 8).map dataOf)) = PyData.depthAll (((List.range 8).map fun t => runN D t 8).map dataOf) + 1 := rfl
    rw [e, ok.2]; rfl
  refine ne_dataH (key d1 m1) (key d2 m2) sh sh hu ?_
  rw [SeqAt.eqv_refl _ (SeqAt.canLay_of_shaped sh)]
  exact h
end
theorem ConH.use {w : World} {mean : ExcName → Option Value} {mg mb : Str → Option Value} {f : Addr} {vs : List Value} {d u : Nat} {pre : Heap → List (Addr × Obj) → Prop} {post : List (Addr × Obj) → List (Addr × Obj) → Value → Prop}
    (C : ConH w mean mg mb f vs d u pre post) {dp un : Nat} {gd : Option (List Code)} {cn : Str} {cs : Scope} {a : Addr} {ccd : Value} {cl : List (Str × Addr)} {outer : List Env} {A₀ : Around} {base h₀ : Heap} {L : Addr} {m : Str → Option Value} {news : List (Addr × Obj)} {s : Shared} {Q E : Value → Shared → Prop}
    (B : Below A₀ base outer h₀) (F : Fr h₀ L s.heap m) (X : (hd.heap_39 w.params).In h₀) (N : News h₀ L s.heap news) (T : Top hd.view_39 (looseW hd.view_39 []) mean mg mb h₀) (hk : cs.kind = .function)
    (hp : pre h₀ news) (hd' : dp + d < recursionLimit) (hu : un + u < cLine)
    (ret : ∀ r tl h' tk', Fr h₀ L h' m → News h₀ L h' (tl ++ news) → post news tl r → Q r { s with heap := h', toks := tk' }) :
    wpAny (model PySem.Challenge.rw_xr0001_01.row.prog w) (ktrTop dp un gd cn cs L a ccd cl outer) (call (.ref f) vs) Q E s :=
  C _ _ _ _ _ _ _ _ _ _ _ _ _ _ _ _ _ _ B F X N T hk hp hd' hu ret
end Mine
namespace Mine
theorem DeedsAt.keep {led led' : List (Addr × Obj)} {a : Addr} {D : List (Int × Int)} (h : DeedsAt led a D) (hk : ∀ p ∈ led, ∀ xs n, p.2.data = Data.seq xs n → p ∈ led') : DeedsAt led' a D := by
  obtain ⟨vs, n, hm, hl, hv⟩ := h
  refine ⟨vs, n, hk _ hm _ _ rfl, hl, fun k v e => ?_⟩
  obtain ⟨b, n1, t, u, e1, hb⟩ := hv k v e
  exact ⟨b, n1, t, u, e1, hk _ hb _ _ rfl⟩
theorem cell_first {h₀ h : Heap} {L c a : Addr} {tl : List (Addr × Obj)} {o : Obj} {v : Option Value} {D : List (Int × Int)} (N : News h₀ L h (tl ++ [(c, o)])) (hd : o.data = Data.cell v) (hD : DeedsAt (tl ++ [(c, o)]) a D) :
    ∃ led, News h₀ L h ((c, o) :: led) ∧ (∀ p ∈ led, p.1 ≠ c) ∧ DeedsAt led a D := by
  refine ⟨tl.filter fun p => decide (p.1 ≠ c), fun p hp => N p ?_, fun p hp => of_decide_eq_true (List.mem_filter.mp hp).2, hD.keep fun p hp xs n e => ?_⟩
  · rcases List.mem_cons.mp hp with rfl | hp
    · exact List.mem_append_right _ (.head _)
    · exact List.mem_append_left _ (List.mem_filter.mp hp).1
  · rcases List.mem_append.mp hp with hp | hp
    · refine List.mem_filter.mpr ⟨hp, decide_eq_true fun ec => ?_⟩
      have h1 := (N p (List.mem_append_left _ hp)).1
      have h2 := (N (c, o) (List.mem_append_right _ (.head _))).1
      rw [ec, h2] at h1
      rw [← Option.some.inj h1, hd] at e
      cases e
    · rw [List.mem_singleton.mp hp] at e
      dsimp only at e
      rw [hd] at e
      cases e
end Mine
namespace Mine
/-- the four tuples that are refused -/
inductive Thing : Array Value → Prop
  | a (t u : Tok) : Thing #[.str (Str.ofString "C") t, .int 5 u]
  | b (t u : Tok) : Thing #[.int 5 t, .str (Str.ofString "C") u]
  | c (t : Tok) : Thing #[.str (Str.ofString "C") t]
  | d (t u v : Tok) : Thing #[.str (Str.ofString "C") t, .str (Str.ofString "4") u, .str (Str.ofString "5") v]
def ThingAt (news : List (Addr × Obj)) (v : Value) : Prop := v = .none ∨ ∃ (b : Addr) (n : Nat) (xs : Array Value), v = .ref b ∧ Thing xs ∧ (b, ({ cls := .type "tuple", data := .seq xs n } : Obj)) ∈ news
theorem CompEndTl {h₀ : Heap} {L I C D : Addr} {m : Str → Option Value} {s₁ : Shared} {oI oC oD : Obj} {S : List (Addr × Obj) → Prop} {rest : Value → List (Addr × Obj) → Prop} {y : Value} {h' : Heap} {tk : Nat} {tl tail : List (Addr × Obj)}
    (F : Fr h₀ L h' m) (N : News h₀ L h' (tl ++ (I, oI) :: (C, oC) :: (D, oD) :: tail)) (off : LCg.Off3 I C D tail) (hS : S tail) (r : rest y tail) :
    LCg.CompEnd h₀ L m s₁ I oI C oC D oD S rest y { s₁ with heap := h', toks := tk } := LCg.CompEnd.intro F (fun p hp => N p (List.mem_append_right _ hp)) tail (fun _ hp => hp) off hS r
end Mine
namespace Mine
theorem news_nil {h₀ h : Heap} {L : Addr} {news : List (Addr × Obj)} (_ : News h₀ L h news) : News h₀ L h [] := fun _ h => nomatch h
end Mine
namespace Mine
theorem things_at {led : List (Addr × Obj)} {b1 b2 b3 b4 : Addr} {v : Value} {j n1 n2 n3 n4 : Nat} {x1 x2 x3 x4 : Array Value} (h : #[Value.ref b1, Value.ref b2, Value.ref b3, Value.ref b4, Value.none][j]? = some v) (t1 : Thing x1) (t2 : Thing x2) (t3 : Thing x3) (t4 : Thing x4)
    (m1 : (b1, ({ cls := .type "tuple", data := .seq x1 n1 } : Obj)) ∈ led) (m2 : (b2, ({ cls := .type "tuple", data := .seq x2 n2 } : Obj)) ∈ led) (m3 : (b3, ({ cls := .type "tuple", data := .seq x3 n3 } : Obj)) ∈ led) (m4 : (b4, ({ cls := .type "tuple", data := .seq x4 n4 } : Obj)) ∈ led) : ThingAt led v := by
  have hj : j < 5 := by
    have := (Array.getElem?_eq_some_iff.mp h).1
    simpa using this
  match j, hj, h with
  | 0, _, h => cases h; exact .inr ⟨_, _, _, rfl, t1, m1⟩
  | 1, _, h => cases h; exact .inr ⟨_, _, _, rfl, t2, m2⟩
  | 2, _, h => cases h; exact .inr ⟨_, _, _, rfl, t3, m3⟩
  | 3, _, h => cases h; exact .inr ⟨_, _, _, rfl, t4, m4⟩
  | 4, _, h => cases h; exact .inl rfl
end Mine
namespace Mine
def keptTexts : List Str := [Str.ofString "", Str.ofString ".", Str.ofString ".5", Str.ofString "4.", Str.ofString "p.T. x\rY "]
theorem pairs_con {led : List (Addr × Obj)} {b1 b2 b3 b4 b5 : Addr} {v : Value} {j n1 n2 n3 n4 n5 : Nat} {t1 t2 t3 t4 t5 t6 t7 t8 t9 : Tok} (w mean mg mb)
    (h : #[Value.ref b1, Value.ref b2, Value.ref b3, Value.ref b4, Value.ref b5][j]? = some v)
    (m1 : (b1, ({ cls := .type "tuple", data := .seq #[.str (Str.ofString "") t1, .none] n1 } : Obj)) ∈ led)
    (m2 : (b2, ({ cls := .type "tuple", data := .seq #[.str (Str.ofString "") t2, .str (Str.ofString "") t3] n2 } : Obj)) ∈ led)
    (m3 : (b3, ({ cls := .type "tuple", data := .seq #[.str (Str.ofString "") t4, .str (Str.ofString "5") t5] n3 } : Obj)) ∈ led)
    (m4 : (b4, ({ cls := .type "list", data := .seq #[.str (Str.ofString "4") t6, .str (Str.ofString "") t7] n4 } : Obj)) ∈ led)
    (m5 : (b5, ({ cls := .type "tuple", data := .seq #[.str (Str.ofString "p.T") t8, .str (Str.ofString " x\rY ") t9] n5 } : Obj)) ∈ led) :
    ∃ y, keptTexts[j]? = some y ∧ Con w mean mg mb 28 [v] 1 8 (fun news => ∀ p ∈ led, p ∈ news) (fun _ tl r => tl = [] ∧ ∃ t', r = .str y t') := by
  have hj : j < 5 := by
    have := (Array.getElem?_eq_some_iff.mp h).1
    simpa using this
  have e2 : Str.ofString "" ++ Str.ofString "." ++ Str.ofString "" = Str.ofString "." := by decide +kernel
  have e3 : Str.ofString "" ++ Str.ofString "." ++ Str.ofString "5" = Str.ofString ".5" := by decide +kernel
  have e4 : Str.ofString "4" ++ Str.ofString "." ++ Str.ofString "" = Str.ofString "4." := by decide +kernel
  have e5 : Str.ofString "p.T" ++ Str.ofString "." ++ Str.ofString " x\rY " = Str.ofString "p.T. x\rY " := by decide +kernel
  have l0 : (Str.ofString "").length < 2 ^ 20 := by decide +kernel
  have l5 : (Str.ofString "5").length < 2 ^ 20 := by decide +kernel
  have l4 : (Str.ofString "4").length < 2 ^ 20 := by decide +kernel
  have lp : (Str.ofString "p.T").length < 2 ^ 20 := by decide +kernel
  have lx : (Str.ofString " x\rY ").length < 2 ^ 20 := by decide +kernel
  match j, hj, h with
  | 0, _, h => cases h; exact ⟨_, rfl, (con_build_sn w mean mg mb b1 _ t1 n1).weaken (fun _ hp => hp _ m1) fun _ _ _ x => x⟩
  | 1, _, h => cases h; refine ⟨_, rfl, (con_build_ss w mean mg mb b2 _ t2 _ t3 l0 l0 n2).weaken (fun _ hp => hp _ m2) fun _ _ _ x => ?_⟩; rw [e2] at x; exact x
  | 2, _, h => cases h; refine ⟨_, rfl, (con_build_ss w mean mg mb b3 _ t4 _ t5 l0 l5 n3).weaken (fun _ hp => hp _ m3) fun _ _ _ x => ?_⟩; rw [e3] at x; exact x
  | 3, _, h => cases h; refine ⟨_, rfl, (con_build_list w mean mg mb b4 _ t6 _ t7 l4 l0 n4).weaken (fun _ hp => hp _ m4) fun _ _ _ x => ?_⟩; rw [e4] at x; exact x
  | 4, _, h => cases h; refine ⟨_, rfl, (con_build_ss w mean mg mb b5 _ t8 _ t9 lp lx n5).weaken (fun _ hp => hp _ m5) fun _ _ _ x => ?_⟩; rw [e5] at x; exact x
theorem kept_take {j : Nat} {y : Str} (h : keptTexts[j]? = some y) : keptTexts.take (j + 1) = keptTexts.take j ++ [y] := by rw [List.take_add_one, h]; rfl
end Mine
end
section
open PySem PySem.W PyProof.Rows PySem.Calls PySem.Spec
set_option maxRecDepth 100000
namespace Mine
/-- the locals of a comprehension whose one name lives in a cell -/
abbrev oDict : Obj := { cls := .type "dict", data := .dict #[] }
abbrev OffB (I C c D : Addr) (news : List (Addr × Obj)) : Prop := ∀ p ∈ news, @Ne Nat p.1 I ∧ @Ne Nat p.1 C ∧ @Ne Nat p.1 c ∧ @Ne Nat p.1 D
structure Four (I C c D : Addr) : Prop where
  ic : @Ne Nat I C
  ik : @Ne Nat I c
  id : @Ne Nat I D
  ck : @Ne Nat C c
  cd : @Ne Nat C D
  kd : @Ne Nat c D
/-- the turns that are left of a comprehension whose name lives in a cell -/
def CellRest (prog : Program) (w : World) (A : Around) (h₀ : Heap) (L : Addr) (m : Str → Option Value) (env : Env) (elt : PySem.Expr) (x : Str) (scope : Scope) (s : Shared) (src : Addr × Obj) (its : Array Value)
    (Fin : List Value → List (Addr × Obj) → Prop) : Nat → Nat → List Value → List (Addr × Obj) → Prop
  | 0, _, ys, news => Fin ys news
  | k + 1, i, ys, news => ∀ v I oI C c oc D h tk (E' : Value → Shared → Prop), its[i]? = some v → oc.data = .cell (some v) → Fr h₀ L h m → News h₀ L h ((I, oI) :: (C, oDict) :: (c, oc) :: (D, LCg.lst ys) :: news) → OffB I C c D news → Four I C c D →
      wpAny (model prog w) A (eval elt (compEnvC scope [(x, c)] C env)) (fun y s₂ => ∃ h' tk' news', s₂ = { s with heap := h', toks := tk' } ∧ Fr h₀ L h' m ∧ News h₀ L h' ((I, oI) :: (C, oDict) :: (c, oc) :: (D, LCg.lst ys) :: news') ∧ OffB I C c D news' ∧ src ∈ news' ∧
        CellRest prog w A h₀ L m env elt x scope s src its Fin k (i + 1) (ys ++ [y]) news') E' { s with heap := h, toks := tk }
section
variable {prog : Program} {w : World} {A : Around} {E : Value → Shared → Prop} {s : Shared} {h₀ : Heap} {L : Addr} {m : Str → Option Value} {env : Env}
theorem frame_cell {scope : Scope} {globals builtins : Addr} {qual : Str} {x : Str} {Q : Env → Shared → Prop} (hcf : ∀ n, cellsFrom n scope.names [] = [(x, n)]) (hpc : ∀ h, pushCells h scope.names = h.push { cls := .type "cell", data := .cell none })
    (h : Q { scope, locals := s.heap.objs.size, globals, cells := [(x, s.heap.objs.size + 1)], qual, func := none, code := env.code, frame := env.frame, builtins := env.builtins } { s with heap := (s.heap.push oDict).push { cls := .type "cell", data := .cell none } }) :
    wpAny (model prog w) A (newFunctionEnv scope globals [] [] qual none .none (some env) builtins) Q E s := by
  simp only [newFunctionEnv, Option.isSome_some, if_true]
  refine wpAny_bind (wpAny_alloc ?_)
  refine wpAny_bind (wpAny_layCells _ (fun name kind cells => by cases hkc : kind == NameKind.cell <;> simp [hkc]) _ _ _ _ ?_)
  rw [hcf, hpc]
  simp only [List.forIn_nil]
  refine wpAny_bind (wpAny_pure (wpAny_pure ?_))
  rw [Heap.size_push]
  exact h
/-- a list comprehension over a list of the ledger; its one name lives in a cell, which a block within it may read -/
theorem block_cell {elt iter : PySem.Expr} {x : Str} {px : Pos} {scope : Scope} {pos : Pos} {ax : Addr} {its : Array Value} {na : Nat} {news : List (Addr × Obj)} {Fin : List Value → List (Addr × Obj) → Prop} {RR : Value → Addr → Result → Shared → Prop}
    (hh : A.handled = none) (F : Fr h₀ L s.heap m) (N : News h₀ L s.heap news) (hm : (ax, W.listOf its na) ∈ news) (hsz : its.size ≤ sizeLine)
    (hcf : ∀ n, cellsFrom n scope.names [] = [(x, n)]) (hpc : ∀ h, pushCells h scope.names = h.push { cls := .type "cell", data := .cell none }) (hkind : scope.kind = .function)
    (hxc : ∀ C c, (compEnvC scope [(x, c)] C env).kindOf x = some .cell)
    (R : ∀ g, CellRest prog w A h₀ L m env elt x scope { s with heap := g } (ax, W.listOf its na) its Fin its.size 0 [] news)
    (hRR : ∀ D C h tk ys news', Fr h₀ L h m → News h₀ L h ((D, LCg.lst ys) :: news') → (∀ p ∈ (D, LCg.lst ys) :: news', p.1 ≠ C) → (∀ p ∈ news', p.1 ≠ D) → C ≠ L → h₀.get? C = none → h.get? C = some oDict → Fin ys news' → RR (.ref D) C (.ok .next) { s with heap := h, toks := tk }) :
    wpAny (model prog w) A (pyIter (.ref ax)) (fun it s₃ => wpAny (model prog w) A (newList []) (fun acc s₄ => wpAny (model prog w) A (newFunctionEnv scope env.globals [] [] env.qual none .none (some env)) (fun cenv s₅ =>
      codeAny (model prog w) A (.compStart (.ListComp elt [⟨.Name x px, iter, [], 0⟩] scope pos) 0 it acc { cenv with scope := relabel scope env }) (RR acc cenv.locals) s₅) E s₄) E s₃) E s := by
  have hl : s.heap.IsList ax its := News.isList N hm
  refine wpAny_pyIter_list hl ?_
  refine wpAny_newObj_type ?_
  refine frame_cell hcf hpc ?_
  obtain ⟨g0, sg, sd, st, so⟩ := s
  dsimp only at *
  simp only [Heap.size_push]
  generalize hI : g0.objs.size = I at *
  have z1 : (g0.push { cls := .type "list_iterator", data := .fields #[.ref ax, .int 0 0] }).objs.size = I + 1 := by rw [Heap.size_push, hI]
  have z2 : ((g0.push { cls := .type "list_iterator", data := .fields #[.ref ax, .int 0 0] }).push { cls := .type "list", data := .seq ([] : List Value).toArray }).objs.size = I + 1 + 1 := by rw [Heap.size_push, z1]
  have z3 : (((g0.push { cls := .type "list_iterator", data := .fields #[.ref ax, .int 0 0] }).push { cls := .type "list", data := .seq ([] : List Value).toArray }).push oDict).objs.size = I + 1 + 1 + 1 := by rw [Heap.size_push, z2]
  have p0 := Heap.get?_push_size g0 (o := { cls := .type "list_iterator", data := .fields #[.ref ax, .int 0 0] }) rfl
  have p1 := Heap.get?_push_size (g0.push { cls := .type "list_iterator", data := .fields #[.ref ax, .int 0 0] }) (o := { cls := .type "list", data := .seq ([] : List Value).toArray }) rfl
  have p2 := Heap.get?_push_size ((g0.push { cls := .type "list_iterator", data := .fields #[.ref ax, .int 0 0] }).push { cls := .type "list", data := .seq ([] : List Value).toArray }) (o := oDict) rfl
  have p3 := Heap.get?_push_size (((g0.push { cls := .type "list_iterator", data := .fields #[.ref ax, .int 0 0] }).push { cls := .type "list", data := .seq ([] : List Value).toArray }).push oDict) (o := { cls := .type "cell", data := .cell none }) rfl
  rw [hI] at p0
  rw [z1] at p1
  rw [z2] at p2
  rw [z3] at p3
  have old : ∀ b o, g0.get? b = some o → ((((g0.push { cls := .type "list_iterator", data := .fields #[.ref ax, .int 0 0] }).push { cls := .type "list", data := .seq ([] : List Value).toArray }).push oDict).push { cls := .type "cell", data := .cell none }).get? b = some o :=
    fun b o e => Heap.get?_push_of_some _ (Heap.get?_push_of_some _ (Heap.get?_push_of_some _ (Heap.get?_push_of_some _ e)))
  have q0 := Heap.get?_push_of_some ({ cls := .type "cell", data := .cell none } : Obj) (Heap.get?_push_of_some oDict (Heap.get?_push_of_some ({ cls := .type "list", data := .seq ([] : List Value).toArray } : Obj) p0))
  have q1 := Heap.get?_push_of_some ({ cls := .type "cell", data := .cell none } : Obj) (Heap.get?_push_of_some oDict p1)
  have q2 := Heap.get?_push_of_some ({ cls := .type "cell", data := .cell none } : Obj) p2
  generalize ((((g0.push { cls := .type "list_iterator", data := .fields #[.ref ax, .int 0 0] }).push { cls := .type "list", data := .seq ([] : List Value).toArray }).push oDict).push { cls := .type "cell", data := .cell none }) = H at *
  clear p0 p1 p2 z1 z2 z3
  show codeAny (model prog w) A (.compStart (.ListComp elt [⟨.Name x px, iter, [], 0⟩] scope pos) 0 (.ref I) (.ref (I + 1)) (compEnvC scope [(x, I + 1 + 1 + 1)] (I + 1 + 1) env)) _ _
  have lt0 : ∀ b o, g0.get? b = some o → b < I := fun b o e => hI ▸ Heap.lt_size e
  have new0 : ∀ b : Nat, @LE.le Nat _ I b → h₀.get? b = none := fun b hb => by
    cases e : h₀.get? b with
    | none => rfl
    | some o => exact absurd (lt0 b o (F.keep b o e)) (Nat.not_lt.mpr hb)
  have newL : ∀ b : Nat, @LE.le Nat _ I b → b ≠ L := fun b hb e => by
    have := F.ns.lt
    rw [hI] at this
    exact Nat.lt_irrefl _ (Nat.lt_of_lt_of_le this (e ▸ hb))
  have four : Four I (I + 1 + 1) (I + 1 + 1 + 1) (I + 1) := ⟨by omega, by omega, by omega, by omega, by omega, by omega⟩
  have offN : OffB I (I + 1 + 1) (I + 1 + 1 + 1) (I + 1) news := fun p hp => by
    have : @LT.lt Nat _ p.1 I := lt0 _ _ (N p hp).1
    exact ⟨by omega, by omega, by omega, by omega⟩
  have hax : ax ≠ I := by have := (offN _ hm).1; exact this
  have WW := Walks.list (prog := prog) (w := w) hh I ax hax its
  have loop : ∀ tk, codeAny (model prog w) A (.compLoop (.ListComp elt [⟨.Name x px, iter, [], 0⟩] scope pos) 0 (.ref I) (.ref (I + 1)) (compEnvC scope [(x, I + 1 + 1 + 1)] (I + 1 + 1) env)) (RR (.ref (I + 1)) (I + 1 + 1)) ⟨H, sg, sd, tk, so⟩ := by
    intro tk
    refine codeAny_compLoop_tests (fun k s' => ∃ h' tk i ys oI oc news', s' = ⟨h', sg, sd, tk, so⟩ ∧ i ≤ its.size ∧ k = its.size + 1 - i ∧ ys.length = i ∧ (h'.IsListIter I ax i ∧ h'.IsList ax its) ∧ Fr h₀ L h' m ∧
      News h₀ L h' ((I, oI) :: (I + 1 + 1, oDict) :: (I + 1 + 1 + 1, oc) :: (I + 1, LCg.lst ys) :: news') ∧ (∃ v, oc.data = .cell v) ∧ OffB I (I + 1 + 1) (I + 1 + 1 + 1) (I + 1) news' ∧ (ax, W.listOf its na) ∈ news' ∧
      CellRest prog w A h₀ L m env elt x scope ⟨H, sg, sd, st, so⟩ (ax, W.listOf its na) its Fin (its.size - i) i ys news') ?_ (its.size + 1)
      ⟨H, tk, 0, [], { cls := .type "list_iterator", data := .fields #[.ref ax, .int 0 0] }, { cls := .type "cell", data := .cell none }, news, rfl, Nat.zero_le _, rfl, rfl, ⟨⟨_, q0, rfl, rfl⟩, hl.at fun o e => old _ o e⟩, F.keeps old, fun p hp => ?_, ⟨none, rfl⟩, offN, hm, R H⟩
    · rintro k s' ⟨h', tk', i, ys, oI, oc, news', rfl, hi, rfl, hyl, hst, F', N', ⟨v0, hoc⟩, off', hm', R'⟩
      have nI := N' _ (.head _)
      have nC := N' _ (.tail _ (.head _))
      have nc := N' _ (.tail _ (.tail _ (.head _)))
      have nD := N' _ (.tail _ (.tail _ (.tail _ (.head _))))
      have nn : ∀ p ∈ news', p ∈ (I, oI) :: (I + 1 + 1, oDict) :: (I + 1 + 1 + 1, oc) :: (I + 1, LCg.lst ys) :: news' := fun p hp => .tail _ (.tail _ (.tail _ (.tail _ hp)))
      by_cases hlt : i < its.size
      · obtain ⟨j, hj⟩ : ∃ j, its.size - i = j + 1 := ⟨its.size - i - 1, by omega⟩
        rw [hj] at R'
        refine WW.item i _ _ _ hlt hst fun v h₂ tk₂ hv hst₂ hk₂ => ?_
        have k₂ : ∀ b o, b ≠ I → h'.get? b = some o → h₂.get? b = some o := fun b o hb e => hk₂ b o (by simpa using hb) e
        refine wpAny_assign_Name (wpAny_storeName_cell (by simp [compEnvC, relabel, hkind]) (hxc _ _) (show [(x, I + 1 + 1 + 1)].lookup x = some (I + 1 + 1 + 1) by simp) ⟨oc, k₂ _ _ (Ne.symm four.ik) nc.1, hoc⟩ fun h₃ hv₃ hs₃ => ?_)
        refine wpAny_tests_nil ?_
        simp only [if_true]
        obtain ⟨oc₃, hoc₃, hd₃⟩ := hv₃
        obtain ⟨oI₂, eI₂, _⟩ := id hst₂.1
        have F₃ : Fr h₀ L h₃ m := (LCg.fr_but F' hk₂ nI.2.1.symm nI.2.2).change hs₃ nc.2.1 nc.2.2
        have N₃ : News h₀ L h₃ ((I, oI₂) :: (I + 1 + 1, oDict) :: (I + 1 + 1 + 1, oc₃) :: (I + 1, LCg.lst ys) :: news') := fun p hp => by
          rcases List.mem_cons.mp hp with rfl | hp
          · exact ⟨hs₃.extBut _ _ four.ik eI₂, nI.2⟩
          · rcases List.mem_cons.mp hp with rfl | hp
            · exact ⟨hs₃.extBut _ _ four.ck (k₂ _ _ four.ic.symm nC.1), nC.2⟩
            · rcases List.mem_cons.mp hp with rfl | hp
              · exact ⟨hoc₃, nc.2⟩
              · rcases List.mem_cons.mp hp with rfl | hp
                · exact ⟨hs₃.extBut _ _ four.kd.symm (k₂ _ _ four.id.symm nD.1), nD.2⟩
                · have := off' p hp
                  have n := N' p (nn p hp)
                  exact ⟨hs₃.extBut _ _ this.2.2.1 (k₂ _ _ this.1 n.1), n.2⟩
        refine wpAny_mono (R' v I oI₂ (I + 1 + 1) (I + 1 + 1 + 1) oc₃ (I + 1) h₃ _ _ hv hd₃ F₃ N₃ off' four) (fun y s₄ h₄ => ?_) fun _ _ e => e
        obtain ⟨h₄, tk₄, news₄, rfl, F₄, N₄, off₄, hm₄, R₄⟩ := h₄
        have mI := N₄ _ (.head _)
        have mC := N₄ _ (.tail _ (.head _))
        have mc := N₄ _ (.tail _ (.tail _ (.head _)))
        have mD := N₄ _ (.tail _ (.tail _ (.tail _ (.head _))))
        have mm : ∀ p ∈ news₄, p ∈ (I, oI₂) :: (I + 1 + 1, oDict) :: (I + 1 + 1 + 1, oc₃) :: (I + 1, LCg.lst ys) :: news₄ := fun p hp => .tail _ (.tail _ (.tail _ (.tail _ hp)))
        refine append_at (hsz := by show ys.toArray.size ≤ sizeLine; rw [List.size_toArray, hyl]; exact Nat.le_trans hi hsz) mD.1 fun h₅ hs₅ hD₅ => ?_
        have eI₅ : h₅.get? I = some oI₂ := hs₅.extBut _ _ four.id mI.1
        refine ⟨its.size + 1 - (i + 1), by omega, h₅, tk₄, i + 1, ys ++ [y], oI₂, oc₃, news₄, rfl, hlt, rfl, by rw [List.length_append, List.length_singleton, hyl], ⟨?_, ?_⟩, F₄.change hs₅ mD.2.1 mD.2.2, fun p hp => ?_, ⟨_, hd₃⟩, off₄, hm₄, ?_⟩
        · obtain ⟨o, e, r⟩ := hst₂.1
          rw [eI₂] at e
          cases e
          exact ⟨oI₂, eI₅, r⟩
        · have e := N₄ _ (mm _ hm₄)
          exact ⟨_, hs₅.extBut _ _ (off₄ _ hm₄).2.2.2 e.1, rfl, na, rfl⟩
        · rcases List.mem_cons.mp hp with rfl | hp
          · exact ⟨eI₅, mI.2⟩
          · rcases List.mem_cons.mp hp with rfl | hp
            · exact ⟨hs₅.extBut _ _ four.cd mC.1, mC.2⟩
            · rcases List.mem_cons.mp hp with rfl | hp
              · exact ⟨hs₅.extBut _ _ four.kd mc.1, mc.2⟩
              · rcases List.mem_cons.mp hp with rfl | hp
                · exact ⟨hD₅.trans (congrArg some (LCg.lst_snoc ys y)), mD.2⟩
                · have n := N₄ p (mm p hp)
                  exact ⟨hs₅.extBut _ _ (off₄ p hp).2.2.2 n.1, n.2⟩
        · rw [show its.size - (i + 1) = j by omega]
          exact R₄
      · obtain rfl : i = its.size := Nat.le_antisymm hi (Nat.not_lt.mp hlt)
        rw [Nat.sub_self] at R'
        refine WW.done _ _ _ hst fun h₂ tk₂ hk₂ => ?_
        have k₂ : ∀ b o, b ≠ I → h'.get? b = some o → h₂.get? b = some o := fun b o hb e => hk₂ b o (by simpa using hb) e
        refine hRR _ _ h₂ tk₂ ys news' (LCg.fr_but F' hk₂ nI.2.1.symm nI.2.2) (fun p hp => ?_) (fun p hp => ?_) (fun p hp => (off' p hp).2.2.2) nC.2.1 nC.2.2 (k₂ _ _ four.ic.symm nC.1) R'
        · rcases List.mem_cons.mp hp with rfl | hp
          · exact ⟨k₂ _ _ four.id.symm nD.1, nD.2⟩
          · have n := N' p (nn p hp)
            exact ⟨k₂ _ _ (off' p hp).1 n.1, n.2⟩
        · rcases List.mem_cons.mp hp with rfl | hp
          · exact four.cd.symm
          · exact (off' p hp).2.1
    · rcases List.mem_cons.mp hp with rfl | hp
      · exact ⟨q0, newL _ (Nat.le_refl _), new0 _ (Nat.le_refl _)⟩
      · rcases List.mem_cons.mp hp with rfl | hp
        · exact ⟨q2, newL _ (by omega), new0 _ (by omega)⟩
        · rcases List.mem_cons.mp hp with rfl | hp
          · exact ⟨p3, newL _ (by omega), new0 _ (by omega)⟩
          · rcases List.mem_cons.mp hp with rfl | hp
            · exact ⟨q1, newL _ (by omega), new0 _ (by omega)⟩
            · exact ⟨old _ _ (N p hp).1, (N p hp).2⟩
  exact codeAny_compStart_list (loop _) (WW.self 0 _ _ _ ⟨⟨_, q0, rfl, rfl⟩, hl.at fun o e => old _ o e⟩ (loop _))

def CellFin (h₀ : Heap) (L : Addr) (m : Str → Option Value) (s : Shared) (y : Str) (Q : Flow → Shared → Prop) (ys : List Value) (news : List (Addr × Obj)) : Prop :=
  ∀ D h tk, Fr h₀ L h (fun z => if z = y then some (.ref D) else m z) → News h₀ L h ((D, LCg.lst ys) :: news) → (∀ p ∈ news, p.1 ≠ D) → Q .next { s with heap := h, toks := tk }
theorem assign_cell {elt : PySem.Expr} {x y z : Str} {px py pz : Pos} {scope : Scope} {pos spos : Pos} {ax : Addr} {its : Array Value} {na : Nat} {news : List (Addr × Obj)} {Q : Flow → Shared → Prop} (hLe : env.locals = L)
    (hsw : swapsWith (.ListComp elt [⟨.Name x px, .Name z pz, [], 0⟩] scope pos) (some (.Name y py)) spos.line env = pure true)
    (hclos : closureFor scope env = pure []) (hkind : scope.kind = .function) (hnames : ∀ q ∈ scope.names, q.2 = .local → scope.names.lookup q.1 = some .local)
    (hcf : ∀ n, cellsFrom n scope.names [] = [(x, n)]) (hpc : ∀ h, pushCells h scope.names = h.push { cls := .type "cell", data := .cell none })
    (hxc : ∀ C c, (compEnvC scope [(x, c)] C env).kindOf x = some .cell)
    (hy : env.kindOf y = some .local) (hp : (env.scope.kind == .class || (env.scope.kind == .module && env.locals != env.globals)) = false)
    (hh : A.handled = none) (F : Fr h₀ L s.heap m) (N : News h₀ L s.heap news) (hm : (ax, W.listOf its na) ∈ news) (hsz : its.size ≤ sizeLine)
    (hz : ∀ Q', Q' (.ref ax) s → wpAny (model prog w) A (eval (.Name z pz) env) Q' E s)
    (R : ∀ g, CellRest prog w A h₀ L m env elt x scope { s with heap := g } (ax, W.listOf its na) its (CellFin h₀ L m { s with heap := g } y Q) its.size 0 [] news)
    (hs : ∀ v, foldedSetIterable (.Name z pz) env v = pure v := by intro _; rfl) :
    wpAny (model prog w) A (exec (.Assign [.Name y py] (.ListComp elt [⟨.Name x px, .Name z pz, [], 0⟩] scope pos) spos) env) Q E s := by
  subst hLe
  rw [exec_Assign_Name_used _ _ _ _ hsw]
  refine wpAny_bind (wpAny_standAt (wpAny_bind ?_))
  show wpAny _ A (do let _ ← comprehension (.ListComp elt [⟨.Name x px, .Name z pz, [], 0⟩] scope pos) scope env _ (newList []) false (eval (.Name z pz) env) (some (assign (.Name y py) env))) _ _ s
  refine wpAny_bind (wpAny_mono (wpAny_comprehension_free (use := some (assign (.Name y py) env)) (Q := fun _ s' => Q .next s') rfl hs hclos hkind hnames
    (hz _ ?_)) (fun _ s' hq => wpAny_pure (wpAny_pure hq)) fun _ _ e => e)
  refine block_cell (Fin := CellFin h₀ env.locals m s y Q) hh F N hm hsz hcf hpc hkind hxc (fun g => R g) ?_
  intro D C h tk ys news' F' N' offC offD hCL hC₀ hCo fin
  show wpAny _ A (assign (.Name y py) env (.ref D)) _ _ _
  refine wpAny_assign_Name (wpAny_storeName_local hy F'.ns (fun h₂ hn₂ hs₂ => ?_) hp)
  have F₂ : Fr h₀ env.locals h₂ (fun z => if z = y then some (.ref D) else m z) := F'.set hn₂ hs₂
  have hC₂ : h₂.get? C = some oDict := hs₂.extBut _ _ hCL hCo
  refine ⟨fun _ => none, ?_, fun h'' hs'' => fin D h'' _ (F₂.change hs'' hCL hC₀) (fun p hp => ?_) offD⟩
  · exact ⟨oDict, #[], _, hC₂, rfl, fun e he => by simp at he, fun _ => rfl⟩
  · have z : h₂.get? p.1 = some p.2 := hs₂.extBut _ _ (N' p hp).2.1 (N' p hp).1
    exact ⟨hs''.extBut _ _ (offC p hp) z, (N' p hp).2⟩
end
end Mine
end
section
open PySem PySem.W PyProof.Rows PySem.Calls PySem.Spec
set_option maxRecDepth 100000
namespace Mine
theorem all_tt (n : Nat) : ((List.range n).all fun _ => true) = true := by simp
def keptLasts : List Str := [Str.ofString "", Str.ofString "", Str.ofString "5", Str.ofString "", Str.ofString " x\rY "]
def keptLast (j : Nat) : Str := keptLasts.getD j (Str.ofString "")
theorem kept_last {j : Nat} {y : Str} (h : keptTexts[j]? = some y) : y.length < 2 ^ 19 ∧ (∀ c ∈ y.cps.toList, c ≠ 10 ∧ c ≠ 58) ∧ (⟨(lastSeg y.cps.toList).toArray⟩ : Str) = keptLast j := by
  have hj : j < 5 := (List.getElem?_eq_some_iff.mp h).1
  match j, hj, h with
  | 0, _, h => cases h; decide +kernel
  | 1, _, h => cases h; decide +kernel
  | 2, _, h => cases h; decide +kernel
  | 3, _, h => cases h; decide +kernel
  | 4, _, h => cases h; decide +kernel
/-- a list of lists, each of six equal texts -/
def RowsAre (led : List (Addr × Obj)) (ys : List Value) (n : Nat) : Prop :=
  ys.length = n ∧ ∀ k v, ys[k]? = some v → ∃ (b : Addr) (vs : List Value) (i : Nat), v = .ref b ∧ (b, W.listOf vs.toArray i) ∈ led ∧ StrsAre vs (List.replicate 6 (keptLast k))
theorem RowsAre.zero (led : List (Addr × Obj)) : RowsAre led [] 0 := ⟨rfl, fun k v h => by simp at h⟩
theorem RowsAre.keep {led led' : List (Addr × Obj)} {ys : List Value} {n : Nat} (h : RowsAre led ys n) (k : ∀ p ∈ led, p ∈ led') : RowsAre led' ys n :=
  ⟨h.1, fun j v e => by obtain ⟨b, vs, i, e1, hm, hs⟩ := h.2 j v e; exact ⟨b, vs, i, e1, k _ hm, hs⟩⟩
theorem RowsAre.snoc {led : List (Addr × Obj)} {ys : List Value} {n i : Nat} {b : Addr} {vs : List Value} (h : RowsAre led ys n) (hm : (b, W.listOf vs.toArray i) ∈ led) (hs : StrsAre vs (List.replicate 6 (keptLast n))) : RowsAre led (ys ++ [.ref b]) (n + 1) := by
  refine ⟨by simp [h.1], fun k v e => ?_⟩
  rcases Nat.lt_or_ge k ys.length with hk | hk
  · rw [List.getElem?_append_left hk] at e
    exact h.2 k v e
  · rw [List.getElem?_append_right hk] at e
    match hq : k - ys.length, e with
    | 0, e =>
      cases e
      obtain rfl : k = n := by have := h.1; omega
      exact ⟨b, vs, i, rfl, hm, hs⟩
section
variable {prog : Program} {w : World} {A : Around} {E : Value → Shared → Prop} {s : Shared} {h₀ : Heap} {L : Addr} {m : Str → Option Value} {env : Env} {news : List (Addr × Obj)}
/-- the turns of such a comprehension, by what its list and the ledger hold after so many items -/
theorem cell_ind {elt : PySem.Expr} {x : Str} {scope : Scope} {src : Addr × Obj} {its : Array Value} {Fin : List Value → List (Addr × Obj) → Prop} {n : Nat} (Good : Nat → List Value → List (Addr × Obj) → Prop) (g0 : Good 0 [] news)
    (turn : ∀ j ys nw v I oI C c oc D h tk (E' : Value → Shared → Prop) (K : Value → List (Addr × Obj) → Prop), j < n → Good j ys nw → its[j]? = some v → oc.data = .cell (some v) → Fr h₀ L h m → News h₀ L h ((I, oI) :: (C, oDict) :: (c, oc) :: (D, LCg.lst ys) :: nw) → OffB I C c D nw → Four I C c D →
      (∀ y nw₂, Good (j + 1) (ys ++ [y]) nw₂ → K y nw₂) →
      wpAny (model prog w) A (eval elt (compEnvC scope [(x, c)] C env)) (fun y s₂ => ∃ h' tk' news', s₂ = { s with heap := h', toks := tk' } ∧ Fr h₀ L h' m ∧ News h₀ L h' ((I, oI) :: (C, oDict) :: (c, oc) :: (D, LCg.lst ys) :: news') ∧ OffB I C c D news' ∧ src ∈ news' ∧ K y news') E' { s with heap := h, toks := tk })
    (done : ∀ ys nw, Good n ys nw → Fin ys nw) : CellRest prog w A h₀ L m env elt x scope s src its Fin n 0 [] news := by
  have key : ∀ k j ys nw, j + k = n → Good j ys nw → CellRest prog w A h₀ L m env elt x scope s src its Fin k j ys nw := by
    intro k
    induction k with
    | zero => intro j ys nw e g; exact done ys nw ((by omega : j = n) ▸ g)
    | succ k ih =>
      intro j ys nw e g v I oI C c oc D h tk E' hv hd F N off four
      exact turn j ys nw v I oI C c oc D h tk E' _ (by omega) g hv hd F N off four fun y nw₂ hg => ih (j + 1) _ _ (by omega) hg
  exact key n 0 [] _ (by omega) g0
theorem mul_six {l : Addr} {v : Value} {u : Tok} {n : Nat} {Q : Value → Shared → Prop} (F : Fr h₀ L s.heap m) (N : News h₀ L s.heap news) (hm : (l, W.listOf [v].toArray n) ∈ news)
    (h : ∀ D h', Fr h₀ L h' m → News h₀ L h' ((D, W.listOf (List.replicate 6 v).toArray 0) :: news) → (∀ p ∈ news, p.1 < D) → Q (.ref D) { s with heap := h' }) : wpAny (model prog w) A (binaryOp .Mult (.ref l) (.int 6 u)) Q E s :=
  KMa.mul F N (News.isList N hm) (by decide) (by decide) (show 1 * 6 ≤ 256 by decide) rfl h
theorem eq_strs {l1 l2 : Addr} {vs ws : List Value} {ss : List Str} {n1 n2 : Nat} {Q : Value → Shared → Prop} (N : News h₀ L s.heap news) (m1 : (l1, W.listOf vs.toArray n1) ∈ news) (m2 : (l2, W.listOf ws.toArray n2) ∈ news) (h1 : StrsAre vs ss) (h2 : StrsAre ws ss) (hu : A.units + 1 < cLine)
    (h : Q (.bool true) s) : wpAny (model prog w) A (compareOp .Eq (.ref l1) (.ref l2)) Q E s := by
  refine SeqAt.eq_listAt (e := fun _ => true) (News.isList N m1) (News.isList N m2) (by simp [h1.length, h2.length]) (by omega) (fun j hj1 hj2 => ?_) (by rw [all_tt]; exact h)
  have hj : j < ss.length := by rw [← h1.length]; simpa using hj1
  obtain ⟨t, e1⟩ := h1.get j ss[j] (List.getElem?_eq_getElem hj)
  obtain ⟨u, e2⟩ := h2.get j ss[j] (List.getElem?_eq_getElem hj)
  rw [List.getElem?_eq_getElem (by simpa using hj1)] at e1
  rw [List.getElem?_eq_getElem (by simpa using hj2)] at e2
  have q := SeqAt.EqAt.str_str (A := A.in1) (s := s) ss[j] t ss[j] u
  rw [beq_self_eq_true] at q
  simp only [List.getElem_toArray]
  rw [Option.some.inj e1, Option.some.inj e2]
  exact q
theorem eq_rows {l1 l2 : Addr} {vs ws : List Value} {n n1 n2 : Nat} {Q : Value → Shared → Prop} (N : News h₀ L s.heap news) (m1 : (l1, W.listOf vs.toArray n1) ∈ news) (m2 : (l2, W.listOf ws.toArray n2) ∈ news) (h1 : RowsAre news vs n) (h2 : RowsAre news ws n) (hu : A.units + 3 < cLine)
    (h : Q (.bool true) s) : wpAny (model prog w) A (compareOp .Eq (.ref l1) (.ref l2)) Q E s := by
  refine SeqAt.eq_listAt (e := fun _ => true) (News.isList N m1) (News.isList N m2) (by simp [h1.1, h2.1]) (by omega) (fun j hj1 hj2 => ?_) (by rw [all_tt]; exact h)
  obtain ⟨b, xs, i, e1, hb, hs⟩ := h1.2 j vs[j] (List.getElem?_eq_getElem (by simpa using hj1))
  obtain ⟨c, zs, k, e2, hc, ht⟩ := h2.2 j ws[j] (List.getElem?_eq_getElem (by simpa using hj2))
  simp only [List.getElem_toArray]
  rw [e1, e2]
  by_cases ebc : b = c
  · subst ebc
    exact SeqAt.EqAt.same _
  · refine SeqAt.EqAt.of_refs ebc ?_
    have q := SeqAt.RcAt.lists (A := A.in1) (s := s) (e := fun _ => true) (News.isList N hb) (News.isList N hc) (by simp [hs.length, ht.length]) (by rw [Around.in1_units]; omega) (fun p hp1 hp2 => ?_)
    · rw [all_tt] at q
      exact q
    · have hp : p < (List.replicate 6 (keptLast j)).length := by rw [← hs.length]; simpa using hp1
      obtain ⟨t, e3⟩ := hs.get p _ (List.getElem?_eq_getElem hp)
      obtain ⟨u, e4⟩ := ht.get p _ (List.getElem?_eq_getElem hp)
      rw [List.getElem?_eq_getElem (by simpa using hp1)] at e3
      rw [List.getElem?_eq_getElem (by simpa using hp2)] at e4
      have q := SeqAt.EqAt.str_str (A := A.in1.in1) (s := s) (List.replicate 6 (keptLast j))[p] t (List.replicate 6 (keptLast j))[p] u
      rw [beq_self_eq_true] at q
      simp only [List.getElem_toArray]
      rw [Option.some.inj e3, Option.some.inj e4]
      exact q
end
theorem kept_src {j : Nat} {v : Value} {t1 t2 t3 t4 t5 : Tok} (h : #[Value.str (Str.ofString "") t1, .str (Str.ofString "") t2, .str (Str.ofString "5") t3, .str (Str.ofString "") t4, .str (Str.ofString " x\rY ") t5][j]? = some v) : ∃ t, v = .str (keptLast j) t := by
  have hj : j < 5 := by
    have := (Array.getElem?_eq_some_iff.mp h).1
    simpa using this
  match j, hj, h with
  | 0, _, h => cases h; exact ⟨_, rfl⟩
  | 1, _, h => cases h; exact ⟨_, rfl⟩
  | 2, _, h => cases h; exact ⟨_, rfl⟩
  | 3, _, h => cases h; exact ⟨_, rfl⟩
  | 4, _, h => cases h; exact ⟨_, rfl⟩
theorem strs_six (x : Str) (t : Tok) : StrsAre (List.replicate 6 (Value.str x t)) (List.replicate 6 x) := .cons _ _ (.cons _ _ (.cons _ _ (.cons _ _ (.cons _ _ (.cons _ _ .nil)))))
end Mine
end
section
open PySem PySem.W PyProof.Rows
set_option Elab.async false
set_option maxRecDepth 100000
set_option maxHeartbeats 8000000
namespace Mine
set_option maxHeartbeats 2000000
theorem rows_kept_0 : True := by
  k_with_none
  (k_with "my enter" => ((case kA => exact rfl); (case kF => exact rfl); (case kK => assumption); (case k1 => k_asm); (case k2 => k_asm); (case k3 => k_asm); (case k4 => k_asm); (case k5 => k_asm); (case k6 => k_is); (case k7 => k_is); (case k8 => ktr_room); (case k9 => exact BindsTo.of_eq rfl); (case c5 => decide); (case kB => exact rfl); (case c2 => exact rfl); (case c3 => exact rfl); (case c4 => exact rfl); k_whole; intro g' L' h' tk0 FG' F' N' B' X' T'; (try dsimp only [List.reverse_cons, List.reverse_nil, List.nil_append, List.cons_append] at F'); (try dsimp only); (try k_lift B'); (try k_fold)))
  (k_with "my sub" => (intro p hp; repeat (first | exact hp | refine List.mem_cons_of_mem _ ?_ | refine List.mem_append_right _ ?_)))
  (k_with "my use" => ((case k1 => k_asm); (case k2 => k_asm); (case k3 => k_asm); (case k4 => k_asm); (case k5 => k_asm); (case kK => first | exact rfl | assumption); (case kd => ktr_room); (case ku => ktr_units)))
  (k_with "my got str" => (intro r9 tl9 h9 tk9 F9 N9 p9; obtain ⟨e9, t9, e8⟩ := p9; subst e9; subst e8; simp only [List.nil_append] at N9; (try dsimp only); (try k_fold)))
  (k_with "my enterC" => ((case kA => exact rfl); (case kF => exact rfl); (case kK => assumption); (case k1 => k_asm); (case k2 => k_asm); (case k3 => k_asm); (case k4 => k_asm); (case k5 => k_asm); (case k6 => k_is); (case k7 => k_is); (case k8 => ktr_room); (case k9 => exact BindsTo.of_eq rfl); (case kB => exact rfl); (case kD => decide +kernel); (case c2 => exact rfl); (case c3 => exact rfl); (case c4 => exact rfl); k_whole; intro g' L' h' tk' cells' FG' F' N' Y' B' X' T' l1; (try k_lt l1); k_cells Y'; (try simp only [List.cons_append, List.nil_append] at N'); (try dsimp only); (try k_lift B'); (try k_fold)))
  (k_with "call ref" => (k_here; refine Stop.go ?_))
  (k_with "CompSrc" => (k_here; refine Stop.go ?_))
  (k_with "CompSrcT" => (k_here; refine Stop.go ?_))
  (k_with "CompEnd" => (k_here; k_dflt (refine CompEndTl (by k_asm) (by k_asm) (by assumption) (by first | exact True.intro | lcg_src) ?_)))
  (k_with "CompEnd" => (k_here; k_dflt (refine CompEnd0 (by k_asm) (by k_asm) (by assumption) (by first | exact True.intro | lcg_src) ?_)))
  (k_with "ite" => (first | ((with_reducible refine ite_neg ?iaa ?_); (case iaa => decide)) | ((with_reducible refine ite_pos ?iab ?_); (case iab => decide))))
  (k_with "exec Assign cons ListComp" => (k_here; k_dflt (refine LCg.Assign_ListComp_U (F₀ := by k_asm) (by rfl) (by with_unfolding_all rfl) (by rfl) (by decide) (by rfl) (by decide) (by rfl) (by rfl) (by rfl) ?_)))
  (k_with "exec Assign cons ListComp" => (k_here; (with_reducible show wpAny _ _ (exec (PySem.Stmt.Assign [PySem.Expr.Name (Str.ofString "lasts") _] _ _) _) _ _ _); refine Stop.go ?_))
  trivial
theorem pairs_of {h₀ h : Heap} {L : Addr} {led : List (Addr × Obj)} {b1 b2 b3 b4 b5 : Addr} {v : Value} {j n1 n2 n3 n4 n5 : Nat} {t1 t2 t3 t4 t5 t6 t7 t8 t9 : Tok} (_ : News h₀ L h led) (w mean mg mb)
    (h : #[Value.ref b1, Value.ref b2, Value.ref b3, Value.ref b4, Value.ref b5][j]? = some v)
    (m1 : (b1, ({ cls := .type "tuple", data := .seq #[.str (Str.ofString "") t1, .none] n1 } : Obj)) ∈ led)
    (m2 : (b2, ({ cls := .type "tuple", data := .seq #[.str (Str.ofString "") t2, .str (Str.ofString "") t3] n2 } : Obj)) ∈ led)
    (m3 : (b3, ({ cls := .type "tuple", data := .seq #[.str (Str.ofString "") t4, .str (Str.ofString "5") t5] n3 } : Obj)) ∈ led)
    (m4 : (b4, ({ cls := .type "list", data := .seq #[.str (Str.ofString "4") t6, .str (Str.ofString "") t7] n4 } : Obj)) ∈ led)
    (m5 : (b5, ({ cls := .type "tuple", data := .seq #[.str (Str.ofString "p.T") t8, .str (Str.ofString " x\rY ") t9] n5 } : Obj)) ∈ led) :
    ∃ y, keptTexts[j]? = some y ∧ Con w mean mg mb 28 [v] 1 8 (fun news => ∀ p ∈ led, p ∈ news) (fun _ tl r => tl = [] ∧ ∃ t', r = .str y t') := pairs_con w mean mg mb h m1 m2 m3 m4 m5
theorem rows_kept_1 : True := by
  (k_with "binaryOp Mult ref int" => (k_here; refine Stop.go ?_))
  (k_with "compareOp Eq ref ref" => (k_here; refine Stop.go ?_))
  trivial
theorem con_kept (w mean mg mb) : Con w mean mg mb 99 [] 8 80 (fun _ => True) (fun _ _ r => r = .bool true) := by
  unfold Con
  k_fill
  intro dp un gd cn cs a' ccd cl outer A₀ base h₀ L m news s Q E B F X N T hk hp hd' hu hret
  refine wpAny_call ?_
  k_dflt (refine' enter_def [] ?k1 ?k2 ?k3 ?k4 ?k5 ?kA ?kF ?kK ?k6 ?k7 ?k8 ?k9 ?kB ?c2 ?c3 ?c4 ?c5 ?_)
  walk_at "my enter"
  k_steps
  refine Stop.on ?_
  refine LCg.CompSrc.ledger (by rfl) (by k_asm) (by k_asm) (by k_mem) (by rw [sizeLine_eq]; exact Nat.le_of_ble_eq_true rfl) (fun g => ?_)
  refine rest_indU (fun j ys nw => nw = _ ∧ StrsAre ys (keptTexts.take j)) ⟨rfl, .nil⟩ ?_ ?_
  · rintro j ys nw v I oI C oC Dd m₂ h₅ tk₅ E' K1 hj ⟨rfl, hg⟩ hP hC hx F₅ N₅ off ne hK
    obtain ⟨y, hy, con⟩ := pairs_of N₅ w mean mg mb hP (by k_mem) (by k_mem) (by k_mem) (by k_mem) (by k_mem)
    k_steps
    refine Stop.on ?_
    refine' Con.use con ?k1 ?k2 ?k3 ?k4 ?k5 ?kK ?kp ?kd ?ku ?_
    walk_at "my use"
    (case kp => walk_at "my sub")
    rintro r tl h tk F N ⟨rfl, t', rfl⟩
    simp only [List.nil_append] at N
    k_steps
    refine hK _ _ ⟨rfl, ?_⟩
    rw [kept_take hy]
    exact strs_snoc hg
  · rintro ys nw ⟨rfl, hg⟩
    k_steps
    refine Stop.on ?_
    (rename Fr g' _ _ _ => lF'); (rename News g' _ _ _ => lN')
    have hg5 : StrsAre ys keptTexts := hg
    clear hg
    have hys : ys.length = 5 := hg5.length
    refine assign_cell (its := ys.toArray) (na := ys.length) (by rfl) (by with_unfolding_all rfl) (by with_unfolding_all rfl) (by rfl) (by decide) (fun _ => by rfl) (fun _ => by rfl) (fun _ _ => by rfl) (by rfl) (by rfl) (by rfl) lF' lN' (.head _) (by rw [List.size_toArray, hys, sizeLine_eq]; exact Nat.le_of_ble_eq_true rfl) ?_ ?_
    · intro Q' hQ'
      exact wpAny_Name (wpAny_loadName_local (by rfl) (by rfl) lF'.ns (by with_unfolding_all rfl) hQ') (by decide)
    · intro g₂
      refine cell_ind (fun j zs nw => RowsAre nw zs j ∧ ∀ p ∈ _, p ∈ nw) ⟨RowsAre.zero _, fun _ hp => hp⟩ ?_ ?_
      · rintro j zs nw v I oI C c oc D h tk E' K hj ⟨hR, hsub⟩ hv hcell F₇ N₇ off₇ four hK
        have hv' : ys[j]? = some v := by rw [← List.getElem?_toArray]; exact hv
        obtain ⟨y, t, rfl, hy⟩ := hg5.item j v hv'
        obtain ⟨y1, y2, y3⟩ := kept_last hy
        clear lF' lN'
        k_dflt (refine LCg.ListComp_U (F₀ := F₇) (by with_unfolding_all rfl) (by decide) (by rfl) (by decide) (by rfl) ?_)
        k_steps
        refine Stop.on ?_
        refine LCg.CompSrc.range (n := 6) (by rfl) (by k_asm) (by k_asm) (by assumption) (by first | decide | rfl) (by first | rfl | decide) (by first | size_fits | exact Nat.le_of_ble_eq_true rfl) (fun g => ?_)
        refine rest_indU (fun i us nw₂ => nw₂ = _ ∧ StrsAre us (List.replicate i (keptLast j))) ⟨rfl, .nil⟩ ?_ ?_
        · rintro i us nw₂ v₂ I₂ oI₂ C₂ oC₂ D₂ m₂ h₂ tk₂ E₂ K₂ hi ⟨rfl, hg⟩ hP hC hx F₈ N₈ off₈ ne hK₂
          obtain ⟨t5, rfl⟩ := hP
          k_steps
          refine Stop.on ?_
          refine' Con.use (con_last w mean mg mb y t _ t5 y1 y2 (by omega) (by omega)) ?k1 ?k2 ?k3 ?k4 ?k5 ?kK ?kp ?kd ?ku ?_
          walk_at "my use"
          (case kp => exact True.intro)
          rintro r tl h tk F N ⟨rfl, t', rfl⟩
          simp only [List.nil_append] at N
          rw [y3]
          k_steps
          refine hK₂ _ _ ⟨rfl, ?_⟩
          rw [List.replicate_succ']
          exact strs_snoc hg
        · rintro us nw₂ ⟨rfl, hg⟩ D₂ h₂ tk₂ F₈ N₈ off₈
          refine ⟨h₂, tk₂, (D₂, LCg.lst us) :: nw, rfl, F₈, fun p hp => N₈ p ?_, fun p hp => ?_, .tail _ (hsub _ (.head _)), hK _ _ ⟨(hR.keep fun p hp => .tail _ hp).snoc (.head _) hg, fun p hp => .tail _ (hsub p hp)⟩⟩
          · rcases List.mem_cons.mp hp with rfl | hp
            · exact .tail _ (.head _)
            · rcases List.mem_cons.mp hp with rfl | hp
              · exact .tail _ (.tail _ (.head _))
              · rcases List.mem_cons.mp hp with rfl | hp
                · exact .tail _ (.tail _ (.tail _ (.head _)))
                · rcases List.mem_cons.mp hp with rfl | hp
                  · exact .tail _ (.tail _ (.tail _ (.tail _ (.head _))))
                  · rcases List.mem_cons.mp hp with rfl | hp
                    · exact .head _
                    · exact .tail _ (.tail _ (.tail _ (.tail _ (.tail _ hp))))
          · rcases List.mem_cons.mp hp with rfl | hp
            · exact ⟨Ne.symm off₈.1, Ne.symm off₈.2.1, Ne.symm off₈.2.2.1, Ne.symm off₈.2.2.2.1⟩
            · exact off₇ p hp
      · rintro zs nw ⟨hR, hsub⟩ D h tk F₇ N₇ off₇
        have hT := hsub _ (.head _)
        rw [List.size_toArray, hys] at hR
        have hN : ∀ p ∈ news, p ∈ nw := fun p hp => hsub p (by (repeat (first | exact hp | refine List.Mem.tail _ ?_)))
        have hT' := List.mem_cons_of_mem (D, LCg.lst zs) hT
        have hR' := hR.keep fun p hp => List.mem_cons_of_mem (D, LCg.lst zs) hp
        have hD' : (D, W.listOf zs.toArray zs.length) ∈ (D, LCg.lst zs) :: nw := .head _
        have hN' : ∀ p ∈ news, p ∈ (D, LCg.lst zs) :: nw := fun p hp => .tail _ (hN p hp)
        clear hR hT hN hsub off₇ lF' lN'
        generalize ((D, LCg.lst zs) :: nw) = LED at *
        dsimp only
        k_steps
        refine Stop.on ?_
        refine LCg.CompSrc.ledger (by rfl) (by k_asm) (by k_asm) (by k_mem) (by rw [sizeLine_eq]; exact Nat.le_of_ble_eq_true rfl) (fun g => ?_)
        refine rest_indU (fun j us nw₂ => RowsAre nw₂ us j ∧ ∀ p ∈ _, p ∈ nw₂) ⟨RowsAre.zero _, fun _ hp => hp⟩ ?_ ?_
        · rintro j us nw₂ v I₂ oI₂ C₂ oC₂ D₂ m₂ h₂ tk₂ E₂ K₂ hj ⟨hR₂, hsub₂⟩ hP hC hx F₈ N₈ off₈ ne hK₂
          obtain ⟨t, rfl⟩ := kept_src hP
          k_steps
          refine Stop.on ?_
          refine mul_six (by k_asm) (by k_asm) (.head _) fun D₆ h₆ F₆ N₆ lt₆ => ?_
          refine LCg.CompEnd.intro (by assumption) N₆ ((D₆, W.listOf (List.replicate 6 (Value.str (keptLast j) t)).toArray 0) :: nw₂) (fun p hp => ?_) ⟨⟨Ne.symm (Nat.ne_of_lt (lt₆ _ (.tail _ (.head _)))), Ne.symm (Nat.ne_of_lt (lt₆ _ (.tail _ (.tail _ (.head _))))), Ne.symm (Nat.ne_of_lt (lt₆ _ (.tail _ (.tail _ (.tail _ (.head _))))))⟩, off₈⟩ (.inr ⟨_, .tail _ (hsub₂ _ (.head _)), rfl, _, rfl⟩) (hK₂ _ _ ⟨(hR₂.keep fun p hp => .tail _ hp).snoc (.head _) (strs_six _ _), fun p hp => .tail _ (hsub₂ p hp)⟩)
          rcases List.mem_cons.mp hp with rfl | hp
          · exact .tail _ (.tail _ (.head _))
          · rcases List.mem_cons.mp hp with rfl | hp
            · exact .tail _ (.tail _ (.tail _ (.head _)))
            · rcases List.mem_cons.mp hp with rfl | hp
              · exact .tail _ (.tail _ (.tail _ (.tail _ (.head _))))
              · rcases List.mem_cons.mp hp with rfl | hp
                · exact .head _
                · exact .tail _ (.tail _ (.tail _ (.tail _ (.tail _ hp))))
        · rintro us nw₂ ⟨hR₂, hsub₂⟩
          have hT₂ := hsub₂ _ (.tail _ hT')
          have hD₂ := hsub₂ _ (.tail _ hD')
          have hN₂ : ∀ p ∈ news, p ∈ nw₂ := fun p hp => hsub₂ p (.tail _ (hN' p hp))
          have hR₃ := hR'.keep fun p hp => hsub₂ p (.tail _ hp)
          clear hsub₂ hT' hD' hN' hR'
          k_steps
          refine Stop.on ?_
          refine eq_strs (by k_asm) (.tail _ (.tail _ hT₂)) (.head _) hg5 (.cons _ _ (.cons _ _ (.cons _ _ (.cons _ _ (.cons _ _ .nil))))) (by ktr_units) ?_
          k_steps
          refine Stop.on ?_
          refine eq_rows (by k_asm) (.tail _ (.tail _ hD₂)) (.tail _ (.head _)) (hR₃.keep fun p hp => .tail _ (.tail _ hp)) (hR₂.keep fun p hp => .tail _ (.tail _ hp)) (by ktr_units) ?_
          k_steps
          exact hret _ [] _ _ (by assumption) (fun p hp => by (rename News h₀ _ _ _ => kN9); exact kN9 p (.tail _ (.tail _ (hN₂ p hp)))) rfl
end Mine
end
section
open PySem PySem.W PyProof.Rows PySem.Calls PySem.Spec
set_option maxRecDepth 100000
namespace Mine
section
variable {M : Model} {A : Around} {E : Value → Shared → Prop} {s : Shared}
/-- an exception of the frame's own, noted there for the first time: what its fields are then -/
theorem note_own {base : Heap} {env : Env} {outer : List Env} {L e : Addr} {oe : Obj} {t : Value} {Q : Unit → Shared → Prop}
    (hfr : A.frames = some (env :: outer)) (hl : s.heap.FunFrames base (env :: outer)) (hf : env.frame = some L) (he : s.heap.get? e = some oe) (hkb : base.StaysIn s.heap) (hen : base.get? e = none)
    (hd : oe.data = .fields #[t, .none, .none, .none, .bool false, .none])
    (h : ∀ h' T oe' oT ts, base.StaysIn h' → h'.FunFrames base (env :: outer) → h'.get? e = some oe' → oe'.cls = oe.cls → oe'.data = .fields #[t, .ref T, .none, .none, .bool false, .none] →
      base.get? T = none → T ≠ e → h'.get? T = some oT → oT.data = .fields ts → 3 < ts.size → s.heap.UpToSlots h' → Q () { s with heap := h' }) : wpAny M A (noteFrame (.ref e) env) Q E s := by
  have far : e ∉ (env :: outer).filterMap (·.frame) := fun hm => by
    obtain ⟨_, o, ho, hn⟩ := hl.mem hm
    rw [he] at ho
    cases ho
    exact hn _ hd
  unfold noteFrame
  simp only [hf]
  refine wpAny_bind (wpAny_field (i := 1) (x := .none) he hd rfl ?_)
  rw [if_neg (by decide)]
  refine wpAny_bind (wpAny_frameOf_fun hfr hl hf fun h₁ hs₁ => ?_)
  refine wpAny_bind (wpAny_entryPlaceOf fun pl hpl => ?_)
  unfold EntryCells.newEntry newFields
  refine wpAny_bind (wpAny_newObj_type ?_ (hpl.sizeOk5 _ _ _ _ _))
  have e₁ : h₁.get? e = some oe := (hs₁.2.1 e far).trans he
  have b₁ : base.StaysIn h₁ := fun b o q => (hs₁.2.1 b fun hm => by rw [(hl.mem hm).1] at q; cases q).trans (hkb b o q)
  have sz : 3 < (([Value.none, .ref L, .none, rawInt L, .none] ++ (if pl.isEmpty then List.replicate 6 Value.none else pl)).toArray).size := by
    simp only [List.size_toArray, List.length_append, List.length_cons, List.length_nil]
    omega
  generalize htb : ({ cls := .type "traceback", dict := none, data := .fields ([Value.none, .ref L, .none, rawInt L, .none] ++ (if pl.isEmpty then List.replicate 6 Value.none else pl)).toArray } : Obj) = tb
  have htd : tb.data = .fields ([Value.none, .ref L, .none, rawInt L, .none] ++ (if pl.isEmpty then List.replicate 6 Value.none else pl)).toArray := by rw [← htb]
  have htf : tb.isFreed = false := by rw [← htb]; rfl
  have e₂ : (h₁.push tb).get? e = some oe := Heap.get?_push_of_some tb e₁
  refine wpAny_setField e₂ hd (show 1 < 6 by decide) ?_
  have ne : h₁.objs.size ≠ e := Nat.ne_of_gt (Heap.lt_size e₁)
  have d₃ := Obj.data_mapFields hd (·.setIfInBounds 1 (Value.ref h₁.objs.size))
  have g₃ := Heap.get?_update_self (Obj.mapFields (·.setIfInBounds 1 (Value.ref h₁.objs.size))) e₂ (Obj.isFreed_of_fields d₃)
  have keep : ∀ b o, b ≠ e → h₁.get? b = some o → ((h₁.push tb).update e (Obj.mapFields (·.setIfInBounds 1 (Value.ref h₁.objs.size)))).get? b = some o := fun b o hb q => by
    rw [Heap.get?_update_other _ _ (Ne.symm hb)]
    exact Heap.get?_push_of_some tb q
  have notE : ∀ b o, s.heap.get? b = some o → (∀ vs, o.data ≠ .fields vs) → b ≠ e := fun b o q hn qe => by
    rw [qe, he] at q
    cases q
    exact hn _ hd
  have slots : s.heap.UpToSlots ((h₁.push tb).update e (Obj.mapFields (·.setIfInBounds 1 (Value.ref h₁.objs.size)))) := fun b o q hn => by
    obtain ⟨sl, hs⟩ := hs₁.2.2 b o q
    exact ⟨sl, keep b _ (notE b o q hn) hs⟩
  refine h _ h₁.objs.size _ tb _ (fun b o q => keep b o (fun z => by rw [z, hen] at q; cases q) (b₁ b o q)) (hl.of_keeps fun b o q hn => ?_) g₃ (Obj.cls_mapFields _ _) (d₃.trans rfl) b₁.fresh ne ?_ htd sz slots
  · obtain ⟨sl, hs⟩ := slots b o q hn
    exact ⟨_, hs, rfl⟩
  · rw [Heap.get?_update_other _ _ (Ne.symm ne)]
    exact Heap.get?_push_size h₁ htf
end
theorem entry_unchain : entryFor table "proto.unchain" = some Builtin.«proto.unchain» := entryFor_of_tree (by kernel_rfl)
section
variable {prog : Program} {w : World} {A : Around} {E : Value → Shared → Prop} {s : Shared} {env : Env}
/-- the link to the exception at hand, which has none itself -/
theorem raise_linked {α : Type} {e1 e2 : Addr} {o1 o2 : Obj} {vs1 vs2 : Array Value} {Q : α → Shared → Prop} (hh : A.handled = some (.ref e1)) (hne : e1 ≠ e2) (h1 : s.heap.get? e1 = some o1) (d1 : o1.data = .fields vs1) (c1 : vs1[2]? = some .none)
    (h2 : s.heap.get? e2 = some o2) (d2 : o2.data = .fields vs2) (hz : 2 < vs2.size)
    (h : E (.ref e2) { s with heap := s.heap.update e2 (Obj.mapFields (·.setIfInBounds 2 (.ref e1))) }) : wpAny (model prog w) A (raiseNew (.ref e2) : Sem α) Q E s := by
  unfold raiseNew
  refine wpAny_bind (wpAny_handled ?_)
  rw [hh]
  have hb : (Value.ref e1 != Value.ref e2) = true := by simp [hne]
  simp only [hb, if_true]
  refine wpAny_bind (wpAny_holding (wpAny_runValue (codeAny_builtin entry_unchain ?_)))
  show wpAny _ _ (Builtin.«proto.unchain» ⟨[.ref e2, .ref e1, .ref e1, .bool false], []⟩) _ _ _
  unfold Builtin.«proto.unchain»
  refine wpAny_bind (wpAny_field h1 d1 c1 ?_)
  rw [if_pos (by rfl)]
  refine wpAny_bind (wpAny_pure (wpAny_pure ?_))
  show wpAny _ _ (do updateField e2 2 (.ref e1); throw (.ref e2)) _ _ _
  refine wpAny_bind ?_
  show wpAny _ _ (setField (.ref e2) 2 (.ref e1)) _ _ _
  exact wpAny_setField h2 d2 hz (wpAny_throw h)
/-- raise X(words) from None, while the exception e1 is at hand -/
theorem raise_none {newId initId : String} {X : String} (FC : ExcCallFacts X newId initId) (FR : ExcRaiseFacts X) {e1 : Addr} {o1 : Obj} {vs1 : Array Value} {W : Str} {x : Str} {k k2 : Nat} {np p4 p5 p6 p7 : Pos} {Q : Flow → Shared → Prop}
    (hh : A.handled = some (.ref e1)) (h1 : s.heap.get? e1 = some o1) (d1 : o1.data = .fields vs1) (c1 : vs1[2]? = some .none)
    (hx : ∀ Q', Q' (.type X) s → wpAny (model prog w) A (eval (.Name x np) env) Q' E s)
    (h : ∀ h' e2 t, (∀ b o, s.heap.get? b = some o → h'.get? b = some o) → s.heap.get? e2 = none → s.heap.get? t = none →
      h'.get? e2 = some { cls := .type X, data := .fields #[.ref t, .none, .ref e1, .none, .bool true, .none] } → h'.get? t = some { cls := .type "tuple", data := .seq #[.str W s.toks] } →
      E (.ref e2) { s with heap := h', toks := s.toks + 1 }) :
    wpAny (model prog w) A (exec (.Raise (some (.Call (.Name x np) [.Constant (.str W) k p4] [] p5)) (some (.Constant .none k2 p6)) p7) env) Q E s := by
  rw [arm_exec_Raise]
  refine wpAny_bind (wpAny_standAt ?_)
  show wpAny _ A (raiseStmt env (some (do let v ← eval (.Call (.Name x np) [.Constant (.str W) k p4] [] p5) env; standAt p7; pure v)) (some (do let v ← eval (.Constant .none k2 p6) env; standAt p7; pure v))) Q E s
  unfold raiseStmt
  refine wpAny_bind (wpAny_bind (wpAny_Call_ofName (hx _ ?_)))
  refine callWith_type1 (spliced_more (wpAny_Constant_str (spliced_none ?_)))
  obtain ⟨hp, g, d, tk, os⟩ := s
  refine wpAny_call_exc FC (fun h' e2 hm => ?_) (by rw [sizeLine_eq]; exact Nat.le_of_ble_eq_true rfl)
  refine wpAny_bind (wpAny_standAt (wpAny_pure ?_))
  obtain ⟨t, ht, htn, htt⟩ := hm.there
  have hsub := FR.isExc
  have hmeta := FR.plainMeta
  refine wpAny_bind (wpAny_holding (wpAny_bind (wpAny_Constant_none (wpAny_bind (wpAny_standAt (wpAny_pure ?_))))))
  refine wpAny_bind (wpAny_pure ?_)
  dsimp only
  repeat (first | with_reducible refine wpAny_loadPart_at ht ?_ | wp_step)
  have hne : e1 ≠ e2 := fun q => by
    have := hm.new
    rw [← q] at this
    rw [h1] at this
    cases this
  have g1 := Heap.get?_update_self (Obj.mapFields (·.setIfInBounds 3 Value.none)) ht rfl
  have g2 := Heap.get?_update_self (Obj.mapFields (·.setIfInBounds 4 (Value.bool true))) g1 rfl
  have k1 : ∀ b o, b ≠ e2 → h'.get? b = some o → ((h'.update e2 (Obj.mapFields fun x => x.setIfInBounds 3 Value.none)).update e2 (Obj.mapFields fun x => x.setIfInBounds 4 (Value.bool true))).get? b = some o := fun b o hb q => by
    rw [Heap.get?_update_other _ _ (Ne.symm hb), Heap.get?_update_other _ _ (Ne.symm hb)]
    exact q
  refine raise_linked hh hne (k1 _ _ hne (hm.keeps _ _ h1)) d1 c1 g2 rfl (show 2 < 6 by decide) (h _ e2 t (fun b o q => ?_) hm.new htn ?_ ?_)
  · have hb : b ≠ e2 := fun z => by
      have := hm.new
      rw [← z] at this
      rw [q] at this
      cases this
    rw [Heap.get?_update_other _ _ (Ne.symm hb)]
    exact k1 b o hb (hm.keeps b o q)
  · exact Heap.get?_update_self (Obj.mapFields (·.setIfInBounds 2 (Value.ref e1))) g2 rfl
  · have hb : t ≠ e2 := fun z => by
      rw [z, ht] at htt
      cases htt
    rw [Heap.get?_update_other _ _ (Ne.symm hb)]
    exact k1 t _ hb htt
end

section
variable {prog : Program} {w : World} {A : Around} {E' E'' : Value → Shared → Prop} {s' : Shared} {base g h : Heap} {outer : List Env} {L a e : Addr} {m : Str → Option Value} {name : Str} {scope : Scope} {cd : Value} {news : List (Addr × Obj)}
  {KF : Frag} {p : Program} {loose : List Str} {mean : ExcName → Option Value} {mg mb : Str → Option Value}
/-- what stays of the heap when a frame and those around it are left out -/
theorem rest_of (K : Below A base outer g) (F : Fr g L h m) (N : News g L h news) (hk : scope.kind = .function) :
    ∃ B, base.StaysIn B ∧ (∀ b o, g.get? b = some o → b ∉ outer.filterMap (·.frame) → B.get? b = some o) ∧ (∀ q ∈ news, B.get? q.1 = some q.2 ∧ g.get? q.1 = none ∧ base.get? q.1 = none) ∧
      (∀ b o, h.get? b = some o → b ∉ (envOf name scope L a cd :: outer).filterMap (·.frame) → B.get? b = some o) ∧ (∀ b o, B.get? b = some o → h.get? b = some o) ∧ h.FunFrames B (envOf name scope L a cd :: outer) := by
  have K' := K.push (name := name) (a := a) (cd := cd) F hk
  refine ⟨hideAll h ((envOf name scope L a cd :: outer).filterMap (·.frame)), fun b o q => hideAll_get _ (K'.stays b o q) fun hm => ?_, fun b o q nm => hideAll_get _ (F.keep b o q) fun hm => ?_, fun q hq => ⟨hideAll_get _ (N q hq).1 fun hm => ?_, (N q hq).2.2, fresh_of_stays K.stays (N q hq).2.2⟩, fun b o q nm => hideAll_get _ q nm, fun b o q => of_hideAll _ q,
    funFrames_hide K'.frames fun env he b hb => List.mem_filterMap.mpr ⟨env, he, hb⟩⟩
  · rw [(K'.frames.mem hm).1] at q
    cases q
  · rcases kts_mem hm with z | z
    · rw [z, kts_self F] at q
      cases q
    · exact nm z
  · obtain ⟨env, he, hf⟩ := List.mem_filterMap.mp hm
    rcases List.mem_cons.mp he with rfl | he
    · exact (N q hq).2.1 (Option.some.inj hf).symm
    · obtain ⟨o, ho, _⟩ := (K.frames.mem (List.mem_filterMap.mpr ⟨env, he, hf⟩)).2
      rw [(N q hq).2.2] at ho
      cases ho
/-- an except clause of the raising frame's own that raises another in its place, from None -/
theorem own_swap {X : String} {b1 b2 : Bool} {W : Str} {EE : Value → Shared → Prop} {k1 k2 kk : Nat} {p1 p2 tpos p3 p4 p5 p6 p7 pos : Pos} {Q : Flow → Shared → Prop}
    (K : Below A base outer g) (F : Fr g L h m) (N : News g L h news) (XB : KF.In base) (TB : Top p loose mean mg mb base) (hx : Heap.NewExc h s'.heap e X)
    (hs1 : isSubtype (.type X) (.type "TypeError") = pure b1) (hs2 : isSubtype (.type X) (.type "ValueError") = pure b2) (hb : (b1 || b2) = true)
    (ex1 : nsIn KF mainGlobals "TypeError" = some none) (ex2 : nsIn KF mainGlobals "ValueError" = some none)
    (k : ∀ h' e2 t tk tk', RaisedS base g outer e2 (.type "TypeError") t [.str W tk] news h' → RaisedK base outer e2 (.type "TypeError") t [.str W tk] news h' → g.UpToSlots h' → EE (.ref e2) { s' with heap := h', toks := tk' })
    (hk : scope.kind = .function := by rfl) (hx1 : (envOf name scope L a cd).kindOf "TypeError" = some .globalImplicit := by rfl) (hx2 : (envOf name scope L a cd).kindOf "ValueError" = some .globalImplicit := by rfl) :
    wpAny (model prog w) (A.deeper (envOf name scope L a cd)) (noteFrame (.ref e) (envOf name scope L a cd)) (fun _ s₂ => wpAny (model prog w) (A.deeper (envOf name scope L a cd)) (setFlight (.ref e) none) (fun _ s₃ =>
      wpAny (model prog w) (A.deeper (envOf name scope L a cd)) (handleBy (.ref e) (envOf name scope L a cd) [.ExceptHandler (some (.Tuple [.Name "TypeError" p1, .Name "ValueError" p2] kk tpos)) none [.Raise (some (.Call (.Name "TypeError" p3) [.Constant (.str W) k1 p4] [] p5)) (some (.Constant .none k2 p6)) p7] pos]) Q
        (fun e s' => wpAny (model prog w) (A.deeper (envOf name scope L a cd)) (leaving (envOf name scope L a cd) e) (fun _ s'' => EE e s'') (fun e' s'' => EE e' s'') s') s₃) E' s₂) E'' s' := by
  obtain ⟨ob, t1, he, hcls, hd⟩ := hx.there
  obtain ⟨B, st, sg, hl, hB, hBh, hF⟩ := rest_of (name := name) (scope := scope) (a := a) (cd := cd) K F N hk
  have fr : (A.deeper (envOf name scope L a cd)).frames = some (envOf name scope L a cd :: outer) := Around.frames_deeper K.stack
  have hen : B.get? e = none := by
    cases q : B.get? e with
    | none => rfl
    | some o => have := hBh e o q; rw [hx.new] at this; cases this
  refine note_own fr (hF.of_keeps fun b o q _ => ⟨o, hx.keeps b o q, rfl⟩) rfl he (fun b o q => hx.keeps b o (hBh b o q)) hen hd fun h₂ T oe oT ts s2 f2 ge ce de nT neT gT dT szT sm2 => ?_
  refine wpAny_setFlight_none ge de rfl gT dT szT ?_
  -- the heap behind the note
  have dT3 := Obj.data_mapFields dT (·.setIfInBounds 3 Value.none)
  have gT3 := Heap.get?_update_self (Obj.mapFields (·.setIfInBounds 3 Value.none)) gT (Obj.isFreed_of_fields dT3)
  have o3 : ∀ b, b ≠ T → (h₂.update T (Obj.mapFields (·.setIfInBounds 3 Value.none))).get? b = h₂.get? b := fun b hb => Heap.get?_update_other _ _ (Ne.symm hb)
  have nf3 : ∀ b o, h₂.get? b = some o → (∀ vs, o.data ≠ .fields vs) → b ≠ T := fun b o q hn z => by
    rw [z, gT] at q
    cases q
    exact hn _ dT
  have s3 : B.StaysIn (h₂.update T (Obj.mapFields (·.setIfInBounds 3 Value.none))) := fun b o q => (o3 b fun z => by rw [z, nT] at q; cases q).trans (s2 b o q)
  have f3 := f2.of_keeps (h' := h₂.update T (Obj.mapFields (·.setIfInBounds 3 Value.none))) fun b o q hn => ⟨o, (o3 b (nf3 b o q hn)).trans q, rfl⟩
  have sm3 : h.UpToSlots (h₂.update T (Obj.mapFields (·.setIfInBounds 3 Value.none))) := ((Heap.UpToSlots.of_keeps hx.keeps).trans sm2).trans fun b o q hn => ⟨o.slots, (o3 b (nf3 b o q hn)).trans q⟩
  have ge3 := (o3 e (Ne.symm neT)).trans ge
  generalize h₂.update T (Obj.mapFields (·.setIfInBounds 3 Value.none)) = h₃ at *
  clear gT dT o3 nf3 s2 f2 sm2 ge
  obtain ⟨g₃, T₃, F₃, K₃⟩ := kts_ground K F (fun b o q nm => hB b o q nm) s3 sm3
  have P₃ : TopRead p loose mg mb g₃ := topRead_of (TB.keeps K₃.stays)
  refine wpAny_handleBy_tup2 (T1 := "TypeError") (T2 := "ValueError") PySem.F.isExc_TypeError PySem.F.notTuple_TypeError PySem.F.isExc_ValueError PySem.F.notTuple_ValueError hs1 hs2 ?_
  refine Tuple_ (spliced_more (name_B F₃ (XB.keeps K₃.stays) P₃ ex1 PyProof.Rows.Boot.«TypeError» (by decide) (spliced_more (name_B F₃ (XB.keeps K₃.stays) P₃ ex2 PyProof.Rows.Boot.«ValueError» (by decide) (spliced_none ?_) hk hx2 (by decide))) hk hx1 (by decide)))
  have k4 : ∀ b o, h₃.get? b = some o → (h₃.push { cls := .type "tuple", data := .seq [Value.type "TypeError", .type "ValueError"].toArray }).get? b = some o := fun b o q => Heap.get?_push_of_some _ q
  refine wpAny_newObj_type ⟨_, rfl, IsTup.new _ _, ⟨oe, k4 _ _ ge3, ce.trans hcls⟩, ?_⟩
  rw [if_pos hb]
  refine wpAny_setFlight_none (k4 _ _ ge3) de rfl (k4 _ _ gT3) dT3 (by simpa using szT) (wpAny_passesOwnAt (by passes_own) ?_)
  have gT4 := k4 _ _ gT3
  have dT5 := Obj.data_mapFields dT3 (·.setIfInBounds 3 Value.none)
  have o5 : ∀ b, b ≠ T → ((h₃.push { cls := .type "tuple", data := .seq [Value.type "TypeError", .type "ValueError"].toArray }).update T (Obj.mapFields (·.setIfInBounds 3 Value.none))).get? b = (h₃.push { cls := .type "tuple", data := .seq [Value.type "TypeError", .type "ValueError"].toArray }).get? b := fun b hb => Heap.get?_update_other _ _ (Ne.symm hb)
  have nf5 : ∀ b o, h₃.get? b = some o → (∀ vs, o.data ≠ .fields vs) → b ≠ T := fun b o q hn z => by
    rw [z, gT3] at q
    cases q
    exact hn _ dT3
  have s5 : B.StaysIn ((h₃.push { cls := .type "tuple", data := .seq [Value.type "TypeError", .type "ValueError"].toArray }).update T (Obj.mapFields (·.setIfInBounds 3 Value.none))) := fun b o q => (o5 b fun z => by rw [z, nT] at q; cases q).trans (k4 _ _ (s3 b o q))
  have f5 := f3.of_keeps (h' := (h₃.push { cls := .type "tuple", data := .seq [Value.type "TypeError", .type "ValueError"].toArray }).update T (Obj.mapFields (·.setIfInBounds 3 Value.none))) fun b o q hn => ⟨o, (o5 b (nf5 b o q hn)).trans (k4 _ _ q), rfl⟩
  have sm5 : h.UpToSlots ((h₃.push { cls := .type "tuple", data := .seq [Value.type "TypeError", .type "ValueError"].toArray }).update T (Obj.mapFields (·.setIfInBounds 3 Value.none))) := sm3.trans fun b o q hn => ⟨o.slots, (o5 b (nf5 b o q hn)).trans (k4 _ _ q)⟩
  have ge5 := (o5 e (Ne.symm neT)).trans (k4 _ _ ge3)
  generalize (h₃.push { cls := .type "tuple", data := .seq [Value.type "TypeError", .type "ValueError"].toArray }).update T (Obj.mapFields (·.setIfInBounds 3 Value.none)) = h₅ at *
  obtain ⟨g₅, T₅, F₅, K₅⟩ := kts_ground K F (fun b o q nm => hB b o q nm) s5 sm5
  have P₅ : TopRead p loose mg mb g₅ := topRead_of (TB.keeps K₅.stays)
  refine wpAny_execs_cons (raise_none PySem.F.excCall_TypeError PySem.F.excRaise_TypeError rfl ge5 de rfl (fun Q' hq => name_B F₅ (XB.keeps K₅.stays) P₅ ex1 PyProof.Rows.Boot.«TypeError» (by decide) hq hk hx1 (by decide)) fun h₆ e2 t kp n2 nt g2 gt => ?_)
  have fresh : ∀ b, h₅.get? b = none → B.get? b = none := fun b q => by
    cases z : B.get? b with
    | none => rfl
    | some o => have := s5 b o z; rw [q] at this; cases this
  refine wpAny_leaving_firstW (a0 := .ref t) fr (f5.of_keeps fun b o q _ => ⟨o, kp b o q, rfl⟩) rfl g2 (fun b o q => kp b o (s5 b o q)) (fresh _ n2) rfl rfl rfl fun h₇ hL => ?_
  obtain ⟨q1, ⟨_, _, q2⟩, q3, q4⟩ := hL
  have R : RaisedS base g outer e2 (.type "TypeError") t [.str W s'.toks] news h₇ := ⟨⟨B, st, sg, hl, ⟨q1, fresh _ n2, q2, q3⟩, fresh _ nt⟩, Heap.TupAt.of_slots ⟨_, _, gt, rfl, rfl⟩ q4⟩
  exact k h₇ e2 t _ _ R R.toK ((Heap.UpToSlots.of_keeps F.keep).trans (sm5.trans ((Heap.UpToSlots.of_keeps kp).trans q4)))
end
end Mine
end
section
open PySem PySem.W PyProof.Rows PySem.Calls PySem.Spec
set_option maxRecDepth 100000
namespace Mine
section
variable {prog : Program} {w : World} {A : Around} {s : Shared} {h₀ : Heap} {L : Addr} {m : Str → Option Value} {news : List (Addr × Obj)} {K : Frag} {p : Program} {loose : List Str} {mean : ExcName → Option Value} {mg mb : Str → Option Value}
    {R : Result → Shared → Prop} {env : Env} {name qual : Str} {params : Arguments} {body : List Stmt} {scope : Scope} {dV kV doc pm cdv ct oc : Value} {an od : Option Addr} {osl : Array (Option Value)} {f : Addr} {args : Args}
/-- a def called from the outermost frame, within which an exception may fly through that frame's record -/
theorem enter_top (binds : List (Str × Value)) (F : Fr h₀ L s.heap m) (X₀ : K.In h₀) (N : News h₀ L s.heap news) (T : Top p loose mean mg mb h₀) (hA : A.frames = some [env]) (hf : env.frame = some L) (hke : env.scope.kind = .function)
    (ho : K.lookup f = some ⟨oc, od, .func (fnOf name qual params body scope dV kV doc pm an cdv ct), osl⟩) (hcd : codeIn K cdv qual = true) (hroom : A.depth < recursionLimit)
    (hbind : BindsTo s (fnOf name qual params body scope dV kV doc pm an cdv ct) args binds) (hloc : (binds.all fun x => decide (scope.names.lookup x.1 = some .local)) = true)
    (hco : scope.isCoroutine = false) (hgen : scope.isGenerator = false) (hk : scope.kind = .function)
    (hcell : ∀ x ∈ scope.names, x.2 ≠ .cell)
    (h : ∀ g L' h₁ tk, Fr g L' h₁ (fun y => binds.reverse.lookup y) → News g L' h₁ news → Below A h₀ [env] g → K.In g → Top p loose mean mg mb g → KtsDicts ([env].filterMap (·.frame)) g →
      wpAny (model prog w) (A.deeper (envOf qual scope L' f cdv)) (execs body (envOf qual scope L' f cdv))
        (fun fl s' => LeaveS0 [L] h₀ L m g R (match fl with | .ret v => v | _ => .none) s')
        (fun e s' => wpAny (model prog w) (A.deeper (envOf qual scope L' f cdv)) (leaving (envOf qual scope L' f cdv) e) (fun _ s'' => R (.error e) s'') (fun e' s'' => R (.error e') s'') s')
        { s with heap := h₁, toks := tk }) : codeAny (model prog w) A (.call (.ref f) args) R s := by
  have X := X₀.keeps F.keep
  have nm : ∀ b o, h₀.get? b = some o → b ∉ news.map (·.1) := fun b o e q => by
    obtain ⟨p, hp, rfl⟩ := List.mem_map.mp q
    rw [(N p hp).2.2] at e
    cases e
  have st : h₀.StaysIn (hideAll s.heap (news.map (·.1))) := fun b o e => hideAll_get _ (F.keep b o e) (nm b o e)
  obtain ⟨oL, es, ep, hL, hLd, hLr⟩ := F.ns
  have nL : L ∉ news.map (·.1) := fun q => by
    obtain ⟨p, hp, e⟩ := List.mem_map.mp q
    exact (N p hp).2.1 e
  have hLg := hideAll_get (news.map (·.1)) hL nL
  have nL₀ : h₀.get? L = none := kts_self F
  have B : Below A h₀ [env] (hideAll s.heap (news.map (·.1))) := ⟨hA, st, ⟨by rw [hke]; decide, ⟨L, oL, hf, nL₀, hLg, fun vs q => by rw [hLd] at q; cases q⟩, trivial⟩⟩
  have D : KtsDicts ([env].filterMap (·.frame)) (hideAll s.heap (news.map (·.1))) := fun b hb => by
    obtain ⟨e, he, q⟩ := List.mem_filterMap.mp hb
    rw [List.mem_singleton.mp he, hf] at q
    cases q
    exact ⟨oL, es, ep, hLg, hLd⟩
  refine codeAny_call_def (fd := fnOf name qual params body scope dV kV doc pm an cdv ct) (body := body) (binds := binds) hroom (X _ _ ho) rfl (T.nolimit.keeps F.keep) (codeRec_of X hcd) rfl hbind hcell (locs hloc) (fun h₁ hns hk₁ => ?_) hco hgen hk
  refine wpAny_mono (h _ s.heap.objs.size h₁ _ ⟨hns, fun b o e => hk₁ b o (of_hideAll _ e), Nat.le_of_eq (hideAll_size _ _)⟩
    (fun p hp => ⟨hk₁ _ _ (N p hp).1, Nat.ne_of_lt (Heap.lt_size (N p hp).1), hideAll_none _ (List.mem_map_of_mem hp)⟩) B (X₀.keeps st) (T.keeps st) D) (fun fl s' hl => ?_) fun _ _ y => y
  obtain ⟨g', L', m', news', T', F', N', k⟩ := hl
  obtain ⟨sl, hs⟩ := T'.up hLg
  have none_ : ∀ b, (hideAll s.heap (news.map (·.1))).get? b = none → h₀.get? b = none := fun b q => by
    cases z : h₀.get? b with
    | none => rfl
    | some o => have := st b o z; rw [q] at this; cases this
  refine k ⟨⟨_, es, ep, F'.keep _ _ hs, hLd, hLr⟩, fun b o e => F'.keep b o (T'.other b o (st b o e) fun q => by
    rw [List.mem_singleton.mp q, nL₀] at e
    cases e), F.above⟩ fun p hp => ⟨(N' p hp).1, fun q => ?_, ?_⟩
  · have := (N' p hp).2.2
    rw [q, hs] at this
    cases this
  · cases q : h₀.get? p.1 with
    | none => rfl
    | some o =>
      obtain ⟨sl', hs'⟩ := T'.up (st _ _ q)
      have := (N' p hp).2.2
      rw [hs'] at this
      cases this
end
/-- as «Con», for calls from the outermost frame alone -/
def ConT (w : World) (mean : ExcName → Option Value) (mg mb : Str → Option Value) (f : Addr) (vs : List Value) (d u : Nat) (pre : List (Addr × Obj) → Prop) (post : Value → Prop) : Prop :=
  ∀ (dp un : Nat) (gd : Option (List Code)) (cn : Str) (cs : Scope) (a : Addr) (ccd : Value) (cl : List (Str × Addr)) (h₀ : Heap) (L : Addr) (m : Str → Option Value) (news : List (Addr × Obj)) (s : Shared) (Q E : Value → Shared → Prop),
    Fr h₀ L s.heap m → (hd.heap_39 w.params).In h₀ → News h₀ L s.heap news → Top hd.view_39 (looseW hd.view_39 []) mean mg mb h₀ → cs.kind = .function →
    pre news → dp + d < recursionLimit → un + u < cLine →
    (∀ r h' tk', Fr h₀ L h' m → News h₀ L h' news → post r → Q r { s with heap := h', toks := tk' }) →
    wpAny (model PySem.Challenge.rw_xr0001_01.row.prog w) (ktrTop dp un gd cn cs L a ccd cl []) (call (.ref f) vs) Q E s
theorem ConT.use {w : World} {mean : ExcName → Option Value} {mg mb : Str → Option Value} {f : Addr} {vs : List Value} {d u : Nat} {pre : List (Addr × Obj) → Prop} {post : Value → Prop}
    (C : ConT w mean mg mb f vs d u pre post) {dp un : Nat} {gd : Option (List Code)} {cn : Str} {cs : Scope} {a : Addr} {ccd : Value} {cl : List (Str × Addr)} {h₀ : Heap} {L : Addr} {m : Str → Option Value} {news : List (Addr × Obj)} {s : Shared} {Q E : Value → Shared → Prop}
    (F : Fr h₀ L s.heap m) (X : (hd.heap_39 w.params).In h₀) (N : News h₀ L s.heap news) (T : Top hd.view_39 (looseW hd.view_39 []) mean mg mb h₀) (hk : cs.kind = .function)
    (hp : pre news) (hd' : dp + d < recursionLimit) (hu : un + u < cLine)
    (ret : ∀ r h' tk', Fr h₀ L h' m → News h₀ L h' news → post r → Q r { s with heap := h', toks := tk' }) :
    wpAny (model PySem.Challenge.rw_xr0001_01.row.prog w) (ktrTop dp un gd cn cs L a ccd cl []) (call (.ref f) vs) Q E s :=
  C _ _ _ _ _ _ _ _ _ _ _ _ _ _ _ F X N T hk hp hd' hu ret
end Mine
end
section
open PySem PySem.W PyProof.Rows PySem.Calls PySem.Spec
open PySem.Builtin PySem.Builtin.Str PySem.Builtin.Int
set_option maxRecDepth 100000
namespace Mine
theorem none_iter : typeLookup (.type "NoneType") "__iter__" = pure none := by rw [typeLookup_type, builtinLookup_eq_fast]; kernel_rfl
theorem none_getitem : typeLookup (.type "NoneType") "__getitem__" = pure none := by rw [typeLookup_type, builtinLookup_eq_fast]; kernel_rfl
theorem int_noSeq : seqSlot? (.type "int") "__add__" = pure none := by
  unfold seqSlot?
  rw [typeLookup_type, builtinLookup_eq_fast]
  kernel_rfl
section
variable {prog : Program} {w : World} {A : Around} {E : Value → Shared → Prop} {s : Shared}
theorem add_str_int {x : Str} {n : Int} {t u : Tok} {Q : Value → Shared → Prop} (hh : A.handled = none)
    (h : ∀ h' tk e, Heap.NewExc s.heap h' e "TypeError" → E (.ref e) { s with heap := h', toks := tk }) : wpAny (model prog w) A (binaryOp .Add (.str x t) (.int n u)) Q E s := by
  unfold binaryOp
  refine wpAny_holding ?_
  refine wpAny_bind (wpAny_binaryOp1_right_declines (T := "str") (U := "int") (nm := "add") (by decide) (typeIs_str _ _ _) (typeIs_int _ _ _) PyProof.Rows.noFill_str_add PySem.F.fills_int_add PySem.F.slot_int_radd (wpAny_call_entry PySem.F.slot_int_radd (typeIs_int _ _ _) PySem.F.entry_int_radd ?_ (PySem.F.args_int_radd_2 _ _)))
  unfold «int.__radd__»
  repeat (any_goals (first | assumption | wp_step))
  refine ⟨_, rfl, rfl, ?_⟩
  dsimp only
  refine wpAny_bind (wpAny_typeOf (typeIs_str _ _ _) (wpAny_bind (wpAny_of_eq PyProof.Rows.seq_str_add ?_)))
  refine wpAny_bind (wpAny_rule (wpAny_call_entry PySem.F.slot_str_add (typeIs_str _ _ _) PySem.F.entry_str_add ?_ (PySem.F.args_str_add_2 _ _)))
  unfold «str.__add__»
  repeat (any_goals (first | assumption | wp_step))
  exact wpAny_raiseErrorMade plainExc_TypeError hh h (by rw [sizeLine_eq]; decide +kernel)
theorem add_int_str {x : Str} {n : Int} {t u : Tok} {Q : Value → Shared → Prop} (hh : A.handled = none)
    (h : ∀ h' tk e, Heap.NewExc s.heap h' e "TypeError" → E (.ref e) { s with heap := h', toks := tk }) : wpAny (model prog w) A (binaryOp .Add (.int n u) (.str x t)) Q E s := by
  unfold binaryOp
  refine wpAny_holding ?_
  refine wpAny_bind ?_
  unfold binaryOp1
  have f1 := PySem.F.fills_int_add
  have f2 := PyProof.Rows.noFill_str_add
  refine wpAny_bind (wpAny_typeOf (typeIs_int _ _ _) (wpAny_bind (wpAny_typeOf (typeIs_str _ _ _) (wpAny_bind (wpAny_of_eq PySem.F.fills_int_add ?_)))))
  rw [if_neg (by decide)]
  refine wpAny_bind (wpAny_of_eq PyProof.Rows.noFill_str_add ?_)
  dsimp only
  repeat (any_goals (first | assumption | with_reducible refine wpAny_tryMethod_declines (typeIs_int _ _ _) PySem.F.slot_int_add (wpAny_call_entry PySem.F.slot_int_add (typeIs_int _ _ _) PySem.F.entry_int_add ?_ (PySem.F.args_int_add_2 _ _)) | wp_step))
  refine ⟨_, rfl, rfl, ?_⟩
  dsimp only
  rw [if_neg (by decide), if_neg (by decide)]
  refine wpAny_pure ?_
  dsimp only
  refine wpAny_bind (wpAny_typeOf (typeIs_int _ _ _) (wpAny_bind (wpAny_of_eq int_noSeq ?_)))
  dsimp only
  unfold binopTypeError
  refine wpAny_bind (wpAny_rule ?_)
  refine wpAny_bind (wpAny_typeNameOf' (typeIs_int _ _ _) (by decide) (wpAny_bind (wpAny_typeNameOf' (typeIs_str _ _ _) (by decide) ?_)))
  refine wpAny_raiseErrorMade plainExc_TypeError hh h (by rw [sizeLine_eq]; decide +kernel)
theorem unpack_none {env : Env} {elts : List PySem.Expr} {k : Nat} {pos : Pos} {Q : Unit → Shared → Prop} (hh : A.handled = none) (hstar : (assignEach elts env).findIdx? (·.1) = none)
    (h : ∀ h' tk e, Heap.NewExc s.heap h' e "TypeError" → E (.ref e) { s with heap := h', toks := tk }) : wpAny (model prog w) A (assign (.Tuple elts k pos) env .none) Q E s := by
  rw [arm_assign_Tuple]
  refine wpAny_bind (wpAny_standAt ?_)
  unfold unpack
  rw [hstar]
  refine wpAny_bind (wpAny_holding ?_)
  unfold unpackItems
  refine wpAny_bind ?_
  unfold notIterableAtAll
  have f1 := none_iter
  have f2 := none_getitem
  repeat (any_goals (first | assumption | wp_step))
  exact wpAny_raiseErrorMade plainExc_TypeError hh h (by rw [sizeLine_eq]; decide +kernel)
/-- a tuple of another length than the targets -/
theorem unpack_off {env : Env} {elts : List PySem.Expr} {k : Nat} {pos : Pos} {t : Addr} {items : Array Value} {Q : Unit → Shared → Prop} (hh : A.handled = none) (ht : IsTup s.heap t items) (hstar : (assignEach elts env).findIdx? (·.1) = none)
    (h2 : (assignEach elts env).length = 2) (hs : items.size = 1 ∨ items.size = 3)
    (h : ∀ h₁ h' tk e, Heap.ExtBut s.heap.objs.size s.heap h₁ → Heap.NewExc h₁ h' e "ValueError" → E (.ref e) { s with heap := h', toks := tk }) : wpAny (model prog w) A (assign (.Tuple elts k pos) env (.ref t)) Q E s := by
  rw [arm_assign_Tuple]
  refine wpAny_bind (wpAny_standAt ?_)
  unfold unpack
  rw [hstar, h2]
  refine wpAny_bind (wpAny_holding ?_)
  have hlt : t ≠ s.heap.objs.size := by obtain ⟨o, ho, _⟩ := ht; exact Nat.ne_of_lt (Heap.lt_size ho)
  unfold unpackItems
  refine wpAny_bind ?_
  unfold notIterableAtAll
  refine wpAny_bind (wpAny_specialOf ht.typeIs slot_tuple_iter.lookup ?_)
  refine wpAny_pure ?_
  simp only [Bool.false_eq_true, if_false]
  refine wpAny_bind (wpAny_holding (iter_tuple ht ?_))
  have up : ∀ {h₁ : Heap}, Heap.SameBut s.heap.objs.size (s.heap.push { cls := .type "tuple_iterator", data := .fields #[.ref t, .int 0 0] }) h₁ → Heap.ExtBut s.heap.objs.size s.heap h₁ := fun hs b o hb e => hs.extBut b o hb (Heap.get?_push_of_some _ e)
  rcases hs with hs | hs
  · refine wpAny_bind (wpAny_holding ?_)
    show wpAny _ _ (pyNext (.ref s.heap.objs.size) >>= _) _ _ _
    refine wpAny_bind (next_tuple_item ⟨_, Heap.get?_push_size _ rfl, rfl, rfl⟩ (ht.push _) (x := items[0]) (by simp) fun h₁ hit₁ hs₁ => ?_)
    have ht₁ : IsTup h₁ t items := (ht.push _).extBut hs₁.extBut hlt
    refine wpAny_bind (wpAny_holding ?_)
    show wpAny _ _ (pyNext (.ref s.heap.objs.size) >>= _) _ _ _
    refine wpAny_bind (next_tuple_end hh hit₁ ht₁ (by simp [hs]) fun h₂ he₂ => ?_)
    refine wpAny_pure (wpAny_pure ?_)
    rw [if_pos (by simp)]
    refine wpAny_bind (wpAny_rule (wpAny_bind (wpAny_raiseErrorMade plainExc_ValueError hh (fun h' tk e hx => h h₂ h' tk e (fun b o hb q => he₂ b o hb (up hs₁ b o hb q)) hx) (by rw [sizeLine_eq, List.length_singleton]; decide +kernel))))
  · refine wpAny_bind (wpAny_holding (draw_tuple hlt 2 0 _ _ ⟨_, Heap.get?_push_size _ rfl, rfl, rfl⟩ (ht.push _) (by omega) fun h₁ hit₁ hs₁ => ?_))
    have ht₁ : IsTup h₁ t items := (ht.push _).extBut hs₁.extBut hlt
    rw [if_neg (by simp [hs])]
    refine wpAny_bind (wpAny_holding (next_tuple_item hit₁ ht₁ (x := items[2]) (by simp [hs]) fun h₂ hit₂ hs₂ => ?_))
    rw [if_pos (by rfl)]
    refine wpAny_bind (wpAny_rule (wpAny_bind (wpAny_raiseErrorMade plainExc_ValueError hh (fun h' tk e hx => h h₂ h' tk e (up (hs₁.trans hs₂)) hx) (by rw [sizeLine_eq]; decide +kernel))))
end
end Mine
end
section
open PySem PySem.W PyProof.Rows
set_option Elab.async false
set_option maxRecDepth 100000
set_option maxHeartbeats 8000000
namespace Mine
set_option maxHeartbeats 2000000
theorem rows_refd_0 : True := by
  k_with_none
  (k_with "my enter" => ((case kA => exact rfl); (case kF => exact rfl); (case kK => assumption); (case k1 => k_asm); (case k2 => k_asm); (case k3 => k_asm); (case k4 => k_asm); (case k5 => k_asm); (case k6 => k_is); (case k7 => k_is); (case k8 => ktr_room); (case k9 => exact BindsTo.of_eq rfl); (case c5 => decide); (case kB => exact rfl); (case c2 => exact rfl); (case c3 => exact rfl); (case c4 => exact rfl); k_whole; intro g' L' h' tk0 FG' F' N' B' X' T'; (try dsimp only [List.reverse_cons, List.reverse_nil, List.nil_append, List.cons_append] at F'); (try dsimp only); (try k_lift B'); (try k_fold)))
  (k_with "my sub" => (intro p hp; repeat (first | exact hp | refine List.mem_cons_of_mem _ ?_ | refine List.mem_append_right _ ?_)))
  (k_with "my use" => ((case k1 => k_asm); (case k2 => k_asm); (case k3 => k_asm); (case k4 => k_asm); (case k5 => k_asm); (case kK => first | exact rfl | assumption); (case kd => ktr_room); (case ku => ktr_units)))
  (k_with "my got str" => (intro r9 tl9 h9 tk9 F9 N9 p9; obtain ⟨e9, t9, e8⟩ := p9; subst e9; subst e8; simp only [List.nil_append] at N9; (try dsimp only); (try k_fold)))
  (k_with "my enterC" => ((case kA => exact rfl); (case kF => exact rfl); (case kK => assumption); (case k1 => k_asm); (case k2 => k_asm); (case k3 => k_asm); (case k4 => k_asm); (case k5 => k_asm); (case k6 => k_is); (case k7 => k_is); (case k8 => ktr_room); (case k9 => exact BindsTo.of_eq rfl); (case kB => exact rfl); (case kD => decide +kernel); (case c2 => exact rfl); (case c3 => exact rfl); (case c4 => exact rfl); k_whole; intro g' L' h' tk' cells' FG' F' N' Y' B' X' T' l1; (try k_lt l1); k_cells Y'; (try simp only [List.cons_append, List.nil_append] at N'); (try dsimp only); (try k_lift B'); (try k_fold)))
  (k_with "my top" => ((case kA => exact rfl); (case kF => exact rfl); (case kK => assumption); (case k2 => k_asm); (case k3 => k_asm); (case k4 => k_asm); (case k5 => k_asm); (case k6 => k_is); (case k7 => k_is); (case k8 => ktr_room); (case k9 => exact BindsTo.of_eq rfl); (case c5 => decide); (case kB => exact rfl); (case c2 => exact rfl); (case c3 => exact rfl); (case c4 => exact rfl); k_whole; intro g' L' h' tk0 F' N' B' X' T' D'; (try dsimp only [List.reverse_cons, List.reverse_nil, List.nil_append, List.cons_append] at F'); (try dsimp only); (try k_lift B'); (try k_fold)))
  (k_with "call ref" => (k_here; refine Stop.go ?_))
  (k_with "binaryOp Add str int" => (k_here; refine Stop.go ?_))
  (k_with "binaryOp Add int str" => (k_here; refine Stop.go ?_))
  trivial
def refusal : Str := Str.ofString "Locale must be None, a string, or an iterable of two strings -- language code, encoding."
/-- a call of _build_localename that is refused -/
def RaiseCon (w : World) (mean : ExcName → Option Value) (mg mb : Str → Option Value) (v : Value) (pre : List (Addr × Obj) → Prop) : Prop :=
  ∀ (dp un : Nat) (gd : Option (List Code)) (cn : Str) (cs : Scope) (a : Addr) (ccd : Value) (cl : List (Str × Addr)) (outer : List Env) (A₀ : Around) (base h₀ : Heap) (L : Addr) (m : Str → Option Value) (news : List (Addr × Obj)) (s : Shared) (Q E : Value → Shared → Prop),
    Below A₀ base outer h₀ → Fr h₀ L s.heap m → (hd.heap_39 w.params).In h₀ → News h₀ L s.heap news → Top hd.view_39 (looseW hd.view_39 []) mean mg mb h₀ → cs.kind = .function →
    (hd.heap_39 w.params).In base → Top hd.view_39 (looseW hd.view_39 []) mean mg mb base → pre news → dp + 1 < recursionLimit → un + 8 < cLine →
    (∀ G h' e t tk tk', Fr h₀ L G m → RaisedS base G (envX cn cs L a ccd cl :: outer) e (.type "TypeError") t [.str refusal tk] news h' → RaisedK base (envX cn cs L a ccd cl :: outer) e (.type "TypeError") t [.str refusal tk] news h' → G.UpToSlots h' → E (.ref e) { s with heap := h', toks := tk' }) →
    wpAny (model PySem.Challenge.rw_xr0001_01.row.prog w) (ktrTop dp un gd cn cs L a ccd cl outer) (call (.ref 28) [v]) Q E s
theorem fr_ext {h₀ h h₁ : Heap} {L : Addr} {m : Str → Option Value} (F : Fr h₀ L h m) (hs : Heap.ExtBut h.objs.size h h₁) : Fr h₀ L h₁ m :=
  ⟨F.ns.at' fun o e => hs L o (Nat.ne_of_lt (Heap.lt_size e)) e, fun b o e => hs b o (Nat.ne_of_lt (Heap.lt_size (F.keep b o e))) (F.keep b o e), F.above⟩
theorem te_te : isSubtype (.type "TypeError") (.type "TypeError") = pure true := by rw [isSubtype_type]; kernel_rfl
theorem te_ve : isSubtype (.type "TypeError") (.type "ValueError") = pure false := by rw [isSubtype_type]; kernel_rfl
theorem ve_te : isSubtype (.type "ValueError") (.type "TypeError") = pure false := by rw [isSubtype_type]; kernel_rfl
theorem ve_ve : isSubtype (.type "ValueError") (.type "ValueError") = pure true := by rw [isSubtype_type]; kernel_rfl
theorem rc_a (w mean mg mb) (a : Addr) (t1 t2 : Tok) (n : Nat) : RaiseCon w mean mg mb (.ref a) (fun news => (a, ({ cls := .type "tuple", data := .seq #[.str (Str.ofString "C") t1, .int 5 t2] n } : Obj)) ∈ news) := by
  unfold RaiseCon
  k_fill
  intro dp un gd cn cs a' ccd cl outer A₀ base h₀ L m news s Q E B F X N T hk XB TB hp hd' hu hret
  refine wpAny_call ?_
  k_dflt (refine' enter_def [("localetuple", .ref a)] ?k1 ?k2 ?k3 ?k4 ?k5 ?kA ?kF ?kK ?k6 ?k7 ?k8 ?k9 ?kB ?c2 ?c3 ?c4 ?c5 ?_)
  walk_at "my enter"
  k_steps
  refine Stop.on ?_
  refine add_str_int (by rfl) fun h₉ tk₉ e₉ hx₉ => ?_
  k_dflt (refine own_swap (by assumption) (by assumption) (by assumption) XB TB hx₉ te_te te_ve rfl (by k_is) (by k_is) (fun h' e2 t tk tk' R RK U => ?_))
  exact hret _ _ _ _ _ _ (by assumption) R RK U
theorem rc_b (w mean mg mb) (a : Addr) (t1 t2 : Tok) (n : Nat) : RaiseCon w mean mg mb (.ref a) (fun news => (a, ({ cls := .type "tuple", data := .seq #[.int 5 t1, .str (Str.ofString "C") t2] n } : Obj)) ∈ news) := by
  unfold RaiseCon
  k_fill
  intro dp un gd cn cs a' ccd cl outer A₀ base h₀ L m news s Q E B F X N T hk XB TB hp hd' hu hret
  refine wpAny_call ?_
  k_dflt (refine' enter_def [("localetuple", .ref a)] ?k1 ?k2 ?k3 ?k4 ?k5 ?kA ?kF ?kK ?k6 ?k7 ?k8 ?k9 ?kB ?c2 ?c3 ?c4 ?c5 ?_)
  walk_at "my enter"
  k_steps
  refine Stop.on ?_
  refine add_int_str (by rfl) fun h₉ tk₉ e₉ hx₉ => ?_
  k_dflt (refine own_swap (by assumption) (by assumption) (by assumption) XB TB hx₉ te_te te_ve rfl (by k_is) (by k_is) (fun h' e2 t tk tk' R RK U => ?_))
  exact hret _ _ _ _ _ _ (by assumption) R RK U
theorem rc_c (w mean mg mb) (a : Addr) (t1 : Tok) (n : Nat) : RaiseCon w mean mg mb (.ref a) (fun news => (a, ({ cls := .type "tuple", data := .seq #[.str (Str.ofString "C") t1] n } : Obj)) ∈ news) := by
  unfold RaiseCon
  k_fill
  intro dp un gd cn cs a' ccd cl outer A₀ base h₀ L m news s Q E B F X N T hk XB TB hp hd' hu hret
  refine wpAny_call ?_
  k_dflt (refine' enter_def [("localetuple", .ref a)] ?k1 ?k2 ?k3 ?k4 ?k5 ?kA ?kF ?kK ?k6 ?k7 ?k8 ?k9 ?kB ?c2 ?c3 ?c4 ?c5 ?_)
  walk_at "my enter"
  k_steps
  (rename News g' _ _ _ => lN'); (rename Fr g' _ _ _ => lF')
  refine unpack_off (by rfl) (News.isTup lN' hp) (by rfl) (by rfl) (.inl rfl) fun h₈ h₉ tk₉ e₉ hxt hx₉ => ?_
  k_dflt (refine own_swap (by assumption) (fr_ext lF' hxt) (News.extBut lN' hxt (Nat.le_refl _)) XB TB hx₉ ve_te ve_ve rfl (by k_is) (by k_is) (fun h' e2 t tk tk' R RK U => ?_))
  exact hret _ _ _ _ _ _ (by assumption) R RK U
theorem rc_d (w mean mg mb) (a : Addr) (t1 t2 t3 : Tok) (n : Nat) : RaiseCon w mean mg mb (.ref a) (fun news => (a, ({ cls := .type "tuple", data := .seq #[.str (Str.ofString "C") t1, .str (Str.ofString "4") t2, .str (Str.ofString "5") t3] n } : Obj)) ∈ news) := by
  unfold RaiseCon
  k_fill
  intro dp un gd cn cs a' ccd cl outer A₀ base h₀ L m news s Q E B F X N T hk XB TB hp hd' hu hret
  refine wpAny_call ?_
  k_dflt (refine' enter_def [("localetuple", .ref a)] ?k1 ?k2 ?k3 ?k4 ?k5 ?kA ?kF ?kK ?k6 ?k7 ?k8 ?k9 ?kB ?c2 ?c3 ?c4 ?c5 ?_)
  walk_at "my enter"
  k_steps
  (rename News g' _ _ _ => lN'); (rename Fr g' _ _ _ => lF')
  refine unpack_off (by rfl) (News.isTup lN' hp) (by rfl) (by rfl) (.inr rfl) fun h₈ h₉ tk₉ e₉ hxt hx₉ => ?_
  k_dflt (refine own_swap (by assumption) (fr_ext lF' hxt) (News.extBut lN' hxt (Nat.le_refl _)) XB TB hx₉ ve_te ve_ve rfl (by k_is) (by k_is) (fun h' e2 t tk tk' R RK U => ?_))
  exact hret _ _ _ _ _ _ (by assumption) R RK U
theorem rc_e (w mean mg mb) : RaiseCon w mean mg mb .none (fun _ => True) := by
  unfold RaiseCon
  k_fill
  intro dp un gd cn cs a' ccd cl outer A₀ base h₀ L m news s Q E B F X N T hk XB TB hp hd' hu hret
  refine wpAny_call ?_
  k_dflt (refine' enter_def [("localetuple", .none)] ?k1 ?k2 ?k3 ?k4 ?k5 ?kA ?kF ?kK ?k6 ?k7 ?k8 ?k9 ?kB ?c2 ?c3 ?c4 ?c5 ?_)
  walk_at "my enter"
  k_steps
  refine unpack_none (by rfl) (by rfl) fun h₉ tk₉ e₉ hx₉ => ?_
  k_dflt (refine own_swap (by assumption) (by assumption) (by assumption) XB TB hx₉ te_te te_ve rfl (by k_is) (by k_is) (fun h' e2 t tk tk' R RK U => ?_))
  exact hret _ _ _ _ _ _ (by assumption) R RK U
end Mine
end
section
open PySem PySem.W PyProof.Rows
set_option Elab.async false
set_option maxRecDepth 100000
set_option maxHeartbeats 8000000
namespace Mine
set_option maxHeartbeats 2000000
theorem rows_refu_0 : True := by
  k_with_none
  (k_with "my enter" => ((case kA => exact rfl); (case kF => exact rfl); (case kK => assumption); (case k1 => k_asm); (case k2 => k_asm); (case k3 => k_asm); (case k4 => k_asm); (case k5 => k_asm); (case k6 => k_is); (case k7 => k_is); (case k8 => ktr_room); (case k9 => exact BindsTo.of_eq rfl); (case c5 => decide); (case kB => exact rfl); (case c2 => exact rfl); (case c3 => exact rfl); (case c4 => exact rfl); k_whole; intro g' L' h' tk0 FG' F' N' B' X' T'; (try dsimp only [List.reverse_cons, List.reverse_nil, List.nil_append, List.cons_append] at F'); (try dsimp only); (try k_lift B'); (try k_fold)))
  (k_with "my sub" => (intro p hp; repeat (first | exact hp | refine List.mem_cons_of_mem _ ?_ | refine List.mem_append_right _ ?_)))
  (k_with "my use" => ((case k1 => k_asm); (case k2 => k_asm); (case k3 => k_asm); (case k4 => k_asm); (case k5 => k_asm); (case kK => first | exact rfl | assumption); (case kd => ktr_room); (case ku => ktr_units)))
  (k_with "my got str" => (intro r9 tl9 h9 tk9 F9 N9 p9; obtain ⟨e9, t9, e8⟩ := p9; subst e9; subst e8; simp only [List.nil_append] at N9; (try dsimp only); (try k_fold)))
  (k_with "my enterC" => ((case kA => exact rfl); (case kF => exact rfl); (case kK => assumption); (case k1 => k_asm); (case k2 => k_asm); (case k3 => k_asm); (case k4 => k_asm); (case k5 => k_asm); (case k6 => k_is); (case k7 => k_is); (case k8 => ktr_room); (case k9 => exact BindsTo.of_eq rfl); (case kB => exact rfl); (case kD => decide +kernel); (case c2 => exact rfl); (case c3 => exact rfl); (case c4 => exact rfl); k_whole; intro g' L' h' tk' cells' FG' F' N' Y' B' X' T' l1; (try k_lt l1); k_cells Y'; (try simp only [List.cons_append, List.nil_append] at N'); (try dsimp only); (try k_lift B'); (try k_fold)))
  (k_with "my top" => ((case kA => exact rfl); (case kF => exact rfl); (case kK => assumption); (case k2 => k_asm); (case k3 => k_asm); (case k4 => k_asm); (case k5 => k_asm); (case k6 => k_is); (case k7 => k_is); (case k8 => ktr_room); (case k9 => exact BindsTo.of_eq rfl); (case c5 => decide); (case kB => exact rfl); (case c2 => exact rfl); (case c3 => exact rfl); (case c4 => exact rfl); k_whole; intro g' L' h' tk0 F' N' B' X' T' D'; (try dsimp only [List.reverse_cons, List.reverse_nil, List.nil_append, List.cons_append] at F'); (try dsimp only); (try k_lift B'); (try k_fold)))
  (k_with "call ref" => (k_here; refine Stop.go ?_))
  (k_with "binaryOp Add str int" => (k_here; refine Stop.go ?_))
  (k_with "binaryOp Add int str" => (k_here; refine Stop.go ?_))
  (k_with "call type:str ref" => (k_here; refine Stop.go ?_))
  trivial
theorem RaiseCon.use {w : World} {mean : ExcName → Option Value} {mg mb : Str → Option Value} {v : Value} {pre : List (Addr × Obj) → Prop} (C : RaiseCon w mean mg mb v pre)
    {dp un : Nat} {gd : Option (List Code)} {cn : Str} {cs : Scope} {a : Addr} {ccd : Value} {cl : List (Str × Addr)} {outer : List Env} {A₀ : Around} {base h₀ : Heap} {L : Addr} {m : Str → Option Value} {news : List (Addr × Obj)} {s : Shared} {Q E : Value → Shared → Prop}
    (B : Below A₀ base outer h₀) (F : Fr h₀ L s.heap m) (X : (hd.heap_39 w.params).In h₀) (N : News h₀ L s.heap news) (T : Top hd.view_39 (looseW hd.view_39 []) mean mg mb h₀) (hk : cs.kind = .function)
    (XB : (hd.heap_39 w.params).In base) (TB : Top hd.view_39 (looseW hd.view_39 []) mean mg mb base) (hp : pre news) (hd' : dp + 1 < recursionLimit) (hu : un + 8 < cLine)
    (ret : ∀ G h' e t tk tk', Fr h₀ L G m → RaisedS base G (envX cn cs L a ccd cl :: outer) e (.type "TypeError") t [.str refusal tk] news h' → RaisedK base (envX cn cs L a ccd cl :: outer) e (.type "TypeError") t [.str refusal tk] news h' → G.UpToSlots h' → E (.ref e) { s with heap := h', toks := tk' }) :
    wpAny (model PySem.Challenge.rw_xr0001_01.row.prog w) (ktrTop dp un gd cn cs L a ccd cl outer) (call (.ref 28) [v]) Q E s :=
  C _ _ _ _ _ _ _ _ _ _ _ _ _ _ _ _ _ _ B F X N T hk XB TB hp hd' hu ret
theorem con_refused_of (w mean mg mb) (v : Value) (pre : List (Addr × Obj) → Prop) (C : RaiseCon w mean mg mb v pre) : ConT w mean mg mb 94 [v] 6 80 pre (fun r => r = .bool true) := by
  unfold ConT
  k_fill
  intro dp un gd cn cs a' ccd cl h₀ L m news s Q E F X N T hk hp hd' hu hret
  refine wpAny_call ?_
  k_dflt (refine' enter_top [("thing", v)] ?k2 ?k3 ?k4 ?k5 ?kA ?kF ?kK ?k6 ?k7 ?k8 ?k9 ?kB ?c2 ?c3 ?c4 ?c5 ?_)
  walk_at "my top"
  k_steps
  refine Stop.on ?_
  refine' RaiseCon.use C ?k1 ?k2 ?k3 ?k4 ?k5 ?kK X T hp ?kd ?ku ?_
  walk_at "my use"
  intro G h' e t tk tk' FG R RK U
  (rename KtsDicts _ g' => lD'); (rename Below _ _ _ g' => lB')
  k_dflt (refine' caught_SB (T' := "TypeError") R FG lB' U X T lD' KtsTurn.refl ?ex PyProof.Rows.Boot.«TypeError» (by decide) PySem.F.isExc_TypeError PySem.F.notTuple_TypeError te_te ?_; (case ex => k_is); k_whole)
  clear R RK U FG lB' lD'
  intro h' g' n₂ tk' T' F' N₂ G' N' K' X' P' D'
  obtain ⟨oe, ot, ws, nt, m1, m2, c1, d1, z1, c2, d2⟩ := G'
  have N₃ : News g' L' h' (n₂ ++ news) := fun p hp => (List.mem_append.mp hp).elim (N₂ p) (N' p)
  have q1 : (e, oe) ∈ n₂ ++ news := List.mem_append_left _ m1
  have q2 : (t, ot) ∈ n₂ ++ news := List.mem_append_left _ m2
  have q3 : ∀ p ∈ news, p ∈ n₂ ++ news := fun p hp => List.mem_append_right _ hp
  clear N₂ N' m1 m2
  generalize n₂ ++ news = LED at *
  (try k_lift K'); (try k_sweep)
  k_steps
  refine Stop.on ?_
  (rename News _ _ _ LED => lN')
  refine PySem.P.str_of_exc_one (n := "TypeError") PySem.F.excStr_TypeError (by ktr_units) ⟨oe, ws, (lN' _ q1).1, c1, d1, z1⟩ ⟨ot, nt, (lN' _ q2).1, c2, d2⟩ ?_
  k_steps
  exact hret _ _ _ (by assumption) (fun p hp => by (rename News h₀ _ _ _ => kN9); exact kN9 p (q3 p hp)) (congrArg Value.bool (beq_self_eq_true refusal))
/-- what law asks of the five things -/
theorem con_refused (w mean mg mb) (v : Value) : ConT w mean mg mb 94 [v] 6 80 (fun news => ThingAt news v) (fun r => r = .bool true) := by
  intro dp un gd cn cs a' ccd cl h₀ L m news s Q E F X N T hk hp hd' hu hret
  rcases hp with rfl | ⟨b, n, xs, rfl, ht, hm⟩
  · exact con_refused_of w mean mg mb _ _ (rc_e w mean mg mb) _ _ _ _ _ _ _ _ _ _ _ _ _ _ _ F X N T hk True.intro hd' hu hret
  · cases ht with
    | a t u => exact con_refused_of w mean mg mb _ _ (rc_a w mean mg mb b t u n) _ _ _ _ _ _ _ _ _ _ _ _ _ _ _ F X N T hk hm hd' hu hret
    | b t u => exact con_refused_of w mean mg mb _ _ (rc_b w mean mg mb b t u n) _ _ _ _ _ _ _ _ _ _ _ _ _ _ _ F X N T hk hm hd' hu hret
    | c t => exact con_refused_of w mean mg mb _ _ (rc_c w mean mg mb b t n) _ _ _ _ _ _ _ _ _ _ _ _ _ _ _ F X N T hk hm hd' hu hret
    | d t u v => exact con_refused_of w mean mg mb _ _ (rc_d w mean mg mb b t u v n) _ _ _ _ _ _ _ _ _ _ _ _ _ _ _ F X N T hk hm hd' hu hret
end Mine
end
section
open PySem PySem.W PyProof.Rows
set_option Elab.async false
set_option maxRecDepth 100000
set_option maxHeartbeats 8000000
namespace Mine
set_option maxHeartbeats 2000000
local macro_rules | `(tactic| k_all) => `(tactic| assumption)
theorem rows_lawt_0 : True := by
  k_with_none
  (k_with "my enter" => ((case kA => exact rfl); (case kF => exact rfl); (case kK => assumption); (case k1 => k_asm); (case k2 => k_asm); (case k3 => k_asm); (case k4 => k_asm); (case k5 => k_asm); (case k6 => k_is); (case k7 => k_is); (case k8 => ktr_room); (case k9 => exact BindsTo.of_eq rfl); (case c5 => decide); (case kB => exact rfl); (case c2 => exact rfl); (case c3 => exact rfl); (case c4 => exact rfl); k_whole; intro g' L' h' tk0 FG' F' N' B' X' T'; (try dsimp only [List.reverse_cons, List.reverse_nil, List.nil_append, List.cons_append] at F'); (try dsimp only); (try k_lift B'); (try k_fold)))
  (k_with "my sub" => (intro p hp; repeat (first | exact hp | refine List.mem_cons_of_mem _ ?_ | refine List.mem_append_right _ ?_)))
  (k_with "my use" => ((case k1 => k_asm); (case k2 => k_asm); (case k3 => k_asm); (case k4 => k_asm); (case k5 => k_asm); (case kK => first | exact rfl | assumption); (case kd => ktr_room); (case ku => ktr_units)))
  (k_with "my useT" => ((case k2 => k_asm); (case k3 => k_asm); (case k4 => k_asm); (case k5 => k_asm); (case kK => first | exact rfl | assumption); (case kd => ktr_room); (case ku => ktr_units)))
  (k_with "my got str" => (intro r9 tl9 h9 tk9 F9 N9 p9; obtain ⟨e9, t9, e8⟩ := p9; subst e9; subst e8; simp only [List.nil_append] at N9; (try dsimp only); (try k_fold)))
  (k_with "my enterC" => ((case kA => exact rfl); (case kF => exact rfl); (case kK => assumption); (case k1 => k_asm); (case k2 => k_asm); (case k3 => k_asm); (case k4 => k_asm); (case k5 => k_asm); (case k6 => k_is); (case k7 => k_is); (case k8 => ktr_room); (case k9 => exact BindsTo.of_eq rfl); (case kB => exact rfl); (case kD => decide +kernel); (case c2 => exact rfl); (case c3 => exact rfl); (case c4 => exact rfl); k_whole; intro g' L' h' tk' cells' FG' F' N' Y' B' X' T' l1; (try k_lt l1); k_cells Y'; (try simp only [List.cons_append, List.nil_append] at N'); (try dsimp only); (try k_lift B'); (try k_fold)))
  (k_with "subscriptTail" => (k_here; (with_reducible show wpAny _ _ (subscriptTail _ _ (Value.ref _) (Value.int _ _)) _ _ _); k_dflt (with_unfolding_all refine' item_lit ?iN ?im ?ia ?ib ?ic ?_ ?id; (case iN => k_asm); (case im => k_mem); (case ia => decide); (case ib => decide); (case ic => exact rfl); (case id => with_unfolding_all rfl); k_whole)))
  (k_with "subscriptTail Name Constant ref int" => (k_here; (with_reducible show wpAny _ _ (subscriptTail _ _ (Value.ref _) (Value.int _ _)) _ _ _); k_dflt (with_unfolding_all refine' item_lit ?iN ?im ?ia ?ib ?ic ?_ ?id; (case iN => k_asm); (case im => k_mem); (case ia => decide); (case ib => decide); (case ic => exact rfl); (case id => with_unfolding_all rfl); k_whole)))
  (k_with "subscriptTail" => (k_here; (with_reducible show wpAny _ _ (subscriptTail _ _ (Value.ref _) (Value.int d _)) _ _ _); k_dflt (refine' item_two ?jN ?jm ?ja ?jb ?_ ?jd; (case jN => k_asm); (case jm => k_mem); (case ja => omega); (case jb => omega); (case jd => with_unfolding_all rfl); intro t₅)))
  (k_with "call ref" => (k_here; refine Stop.go ?_))
  (k_with "CompSrc" => (k_here; refine Stop.go ?_))
  (k_with "CompEnd" => (k_here; k_dflt (refine CompEndTl (by k_asm) (by k_asm) (by assumption) (by first | exact True.intro | lcg_src) ?_)))
  (k_with "CompEnd" => (k_here; k_dflt (refine CompEnd0 (by k_asm) (by k_asm) (by assumption) (by first | exact True.intro | lcg_src) ?_)))
  (k_with "CompSrcT" => (k_here; refine Stop.go ?_))
  (k_with "compareOp NotEq ref ref" => (k_here; refine Stop.go ?_))
  (k_with "ite" => (first | ((with_reducible refine ite_neg ?iaa ?_); (case iaa => decide)) | ((with_reducible refine ite_pos ?iab ?_); (case iab => decide))))
  (k_with "compareOp Eq ref ref" => (k_here; (with_reducible show wpAny _ _ (compareOp CmpOp.Eq (Value.ref _) (Value.ref _)) _ _ _); k_dflt (with_unfolding_all refine eq_nil (by k_asm) (by k_mem) (by k_mem) (by ktr_units) ?_)))
  trivial
theorem lawt : PySem.Challenge.rw_xr0001_01.Holds := hd (by
  k_go0
  all_goals try k_fold
  k_steps
  refine Stop.on ?_
  rename IntsAre _ _ => hI9
  rename ¬ (_ < _) => hlen9
  rename Heap.IsList _ _ _ => hL9
  rename _ = Data.cell _ => hc9
  refine' ConH.use (con_deeds _ _ _ _ _ _ _ hI9 (by with_unfolding_all (simp at hlen9 ⊢; omega))) ?k1 ?k2 ?k3 ?k4 ?k5 ?kK ?kp ?kd ?ku ?_
  walk_at "my use"
  (case kp => exact hL9)
  rintro r9 tl9 h9 tk9 F9 N9 ⟨a', D, rfl, hOk, hDe⟩
  obtain ⟨led, N10, hoff, hDl⟩ := cell_first N9 hc9 hDe
  clear N9 hDe
  (try dsimp only)
  k_steps
  rename_i o10 N10' d10 tk10 h10 tk11 t10 u10 v10 R10 F11 N11 K11
  refine Stop.on ?_
  refine LCg.CompSrc.range (n := 8) (by rfl) (by k_asm) (by k_asm) (by assumption) (by first | decide | rfl) (by first | rfl | decide) (by first | size_fits | exact Nat.le_of_ble_eq_true rfl) (fun g => ?_)
  refine rest_indU (fun j ys nw => nw = (_, o10) :: led ∧ ys.length = j ∧ ∀ t, t < j → ∀ v, ys[t]? = some v → DueAt v (runN D t 8)) ⟨rfl, rfl, fun t ht => absurd ht (Nat.not_lt_zero _)⟩ ?_ ?_
  · intro j ys nw v I oI C oC Dd m₂ h₅ tk₅ E' K1 hj hg hP hC hx F₅ N₅ off ne hK
    obtain ⟨t5, rfl⟩ := hP
    obtain ⟨rfl, hlen, hdue⟩ := hg
    k_steps
    refine Stop.on ?_
    refine' Con.use (con_turn _ _ _ _ a' _ _ D hOk (by omega) (by omega)) ?k1 ?k2 ?k3 ?k4 ?k5 ?kK ?kp ?kd ?ku ?_
    walk_at "my use"
    (case kp => exact hDl.keep fun p hp _ _ _ => .tail _ (.tail _ (.tail _ (.tail _ hp))))
    rintro r12 tl12 h12 tk12 F12 N12 ⟨rfl, hr⟩
    simp only [List.nil_append] at N12
    (try dsimp only)
    k_steps
    refine hK _ _ ⟨rfl, by simp [hlen], fun t ht v hv => ?_⟩
    rcases Nat.lt_or_ge t j with h1 | h1
    · rw [List.getElem?_append_left (by omega)] at hv
      exact hdue t h1 v hv
    · obtain rfl : t = j := by omega
      rw [List.getElem?_append_right (by omega), hlen, Nat.sub_self] at hv
      cases hv
      have e : (0 + (t : Int)).toNat = t := by omega
      rw [e] at hr
      exact hr
  · intro ys nw hg
    obtain ⟨rfl, hlen, hdue⟩ := hg
    k_steps
    rename_i Dy hy tky Fy Ny offy
    refine Stop.on ?_
    refine' Con.use (con_dues _ _ _ _ a' D hOk) ?k1 ?k2 ?k3 ?k4 ?k5 ?kK ?kp ?kd ?ku ?_
    walk_at "my use"
    (case kp => exact hDl.keep fun p hp _ _ _ => .tail _ (.tail _ hp))
    rintro r13 tl13 h13 tk13 F13 N13 ⟨a13, dv, n13, rfl, hm13, hl13, hd13⟩
    (try dsimp only)
    k_steps
    refine Stop.on ?_
    refine ne_dues N13 (l1 := Dy) (dv := ys) (List.mem_append_right _ (.head _)) hm13 ⟨hlen, hdue⟩ ⟨hl13, hd13⟩ (by ktr_units) ?_
    k_steps
    refine Stop.on ?_
    (try simp only [List.nil_append])
    refine' Con.use (con_kept _ _ _ _) ?k1 ?k2 ?k3 ?k4 ?k5 ?kK ?kp ?kd ?ku ?_
    walk_at "my use"
    (case kp => exact True.intro)
    rintro r14 tl14 h14 tk14 F14 N14 rfl
    (try dsimp only)
    clear N13 hm13 Ny
    replace N14 := news_nil N14
    k_steps
    refine Stop.on ?_
    refine LCt.CompSrcT.ledger (by rfl) (by k_asm) (by k_asm) (by k_mem) (by rw [sizeLine_eq]; exact Nat.le_of_ble_eq_true rfl) (fun g => ?_)
    refine restT_ind (fun j ys => ys = []) rfl ?_ ?_
    · intro j ys v I oI C oC Dd m₂ h₅ tk₅ E' K1 K2 hj hg hP hC hx F₅ N₅ off ne hK1 hK2
      subst hg
      k_steps
      refine Stop.on ?_
      refine' ConT.use (con_refused _ _ _ _ v) ?k2 ?k3 ?k4 ?k5 ?kK ?kp ?kd ?ku ?_
      walk_at "my useT"
      (case kp => exact things_at hP (.a _ _) (.b _ _) (.c _) (.d _ _ _) (by k_mem) (by k_mem) (by k_mem) (by k_mem))
      rintro r16 h16 tk16 F16 N16 rfl
      (try dsimp only)
      k_steps
      exact hK2 rfl
    · intro ys hg
      subst hg
      k_steps)
end Mine
end
set_option maxRecDepth 100000 in
set_option maxHeartbeats 8000000 in
theorem PySem.Challenge.cw_xr0001_01_holds : PySem.Challenge.rw_xr0001_01.Holds :=
  Mine.lawt
